/- Worlds and bytes.Buffer. No condition. -/
import Derived.WalkKit
import Derived.Lib.Buffer
import Derived.Lib.Hide
import Derived.Deep.Quiet
import Derived.Test.YtmjcnomgpikncaaGreatDoorProg
import Derived.Test.YtmjcnomgpikncaaGreatDoorShelf
import Derived.Deep.RegionWith
import Derived.Deep.Heap
import Derived.Deep.QuietTactic
import Derived.BigQuiet
import Derived.WalkSpells
import Derived.Lib.BufferMore
import Derived.Lib.BufferWrite
import Derived.Lib.BufferSrc
import Derived.Laws.IdiomCopy
import Derived.Laws.CopyRow
set_option linter.unusedVariables false
set_option linter.unusedSimpArgs false
namespace Go.Proofs.YtmjcnomgpikncaaGreatDoor

open Go.RowKit



structure Step (S T:List Nat) (w w1:World):Prop where
  os:w1.os=w.os
  tape:w1.tape=w.tape
  output:w1.output=w.output
  size:w.heap.size≤w1.heap.size
  block:∀ k,k < w.heap.size→k∉S→w1.heap[k]?=w.heap[k]?
  own:∀ k,k∈T→k∈S∨w.heap.size≤k

theorem Step.refl (S:List Nat) (w:World):Step S S w w:=⟨rfl,rfl,rfl,Nat.le_refl _,fun _ _ _=>rfl,fun _ h=>.inl h⟩

theorem Step.trans {S T U:List Nat} {a b c:World} (h:Step S T a b) (k:Step T U b c):Step S U a c:=by
  refine ⟨k.os.trans h.os,k.tape.trans h.tape,k.output.trans h.output,Nat.le_trans h.size k.size,fun i hi hn=>?_,fun i hi=>?_⟩
  · have hs:=h.size
    rw [k.block i (by omega) (fun ht=>by rcases h.own i ht with hh | hh;exact hn hh;omega),h.block i hi hn]
  · have hs:=h.size
    rcases k.own i hi with hh | hh
    · exact h.own i hh
    · exact .inr (by omega)

theorem Step.drew {S T:List Nat} {a b:World} (h:Step S T a b):Step S T a b.drew:=⟨h.os,h.tape,h.output,h.size,h.block,h.own⟩

theorem Step.drewN {S T:List Nat} {a b:World} (h:Step S T a b) (n:Nat):Step S T a (b.drewN n):=⟨h.os,h.tape,h.output,h.size,h.block,h.own⟩

theorem Step.undrew {S T:List Nat} {a b:World} (h:Step S T a.drew b):Step S T a b:=⟨h.os,h.tape,h.output,h.size,h.block,h.own⟩

theorem Step.alloc {S T:List Nat} {a b:World} (h:Step S T a b) (o:Obj):Step S T a (b.alloc o):=by
  refine ⟨h.os,h.tape,h.output,by have:=h.size;simp;omega,fun k hk hn=>?_,h.own⟩
  rw [Below.heap_alloc _ _ _ (by have:=h.size;omega),h.block k hk hn]

theorem Step.setCell {S T:List Nat} {a b:World} (h:Step S T a b) {p:Addr} (hp:p.block∈S∨a.heap.size≤p.block) (v:Value):Step S T a (b.setCell p v):=by
  refine ⟨h.os,h.tape,h.output,by have:=h.size;simpa [World.setCell] using this,fun k hk hn=>?_,h.own⟩
  rw [Below.heap_setCell _ _ _ _ (fun e=>by subst e;rcases hp with hp | hp;exact hn hp;omega),h.block k hk hn]

theorem Step.setCells {S T:List Nat} {a b:World} (h:Step S T a b) {g:Nat} (hp:g∈S∨a.heap.size≤g) (o:Nat) (vs:List Value):Step S T a (b.setCells g o vs):=by
  induction vs generalizing b o with
  | nil=>exact h
  | cons v vs ih=>exact ih (h.setCell (p:=⟨g,o,none⟩) hp v) (o+1)

theorem Step.more {S T S1 T1:List Nat} {a b:World} (h:Step S T a b) (hS:∀ k,k∈S→k∈S1) (hT:∀ k,k∈T1→k∈T∨k∈S1∨a.heap.size≤k):Step S1 T1 a b :=
  ⟨h.os,h.tape,h.output,h.size,fun k hk hn=>h.block k hk (fun e=>hn (hS k e)),fun k hk=>by
    rcases hT k hk with hh | hh
    · rcases h.own k hh with h1 | h1
      · exact .inl (hS k h1)
      · exact .inr h1
    · exact hh⟩

theorem Step.ofBelow {S:List Nat} {a b:World} (h:Below a.heap.size a b):Step S S a b :=
  ⟨h.os,h.tape,h.output,h.size,fun k hk _=>h.block k hk,fun _ hk=>.inl hk⟩

theorem Step.below {S T:List Nat} {a b:World} (h:Step S T a b) (B:Nat) (hB:B≤a.heap.size) (hS:∀ k,k∈S→B≤k):Below B a b :=
  ⟨h.os,h.tape,h.output,h.size,fun k hk=>h.block k (by omega) (fun e=>by have:=hS k e;omega)⟩

theorem Step.cell {S T:List Nat} {a b:World} (h:Step S T a b) {p:Addr} (hp:p.block < a.heap.size) (hn:p.block∉S):b.cell? p=a.cell? p :=
  World.cell?_of_block (w:=a) (h.block p.block hp hn)

theorem Step.frozen {S T:List Nat} {a b:World} (h:Step S T a b) {p:Addr} (hp:p.block < a.heap.size) (hn:p.block∉S):b.frozen? p=a.frozen? p :=
  World.frozen?_of_block (w:=a) (h.block p.block hp hn)

theorem lt_heap {w:World} {k:Nat} {o:Obj} (h:w.heap[k]?=some o):k < w.heap.size:=Lib.lt_of_heap h

theorem heap_alloc_new (w:World) (o:Obj):(w.alloc o).heap[w.heap.size]?=some o:=by
  show (w.heap.push o)[w.heap.size]?=_
  simp

theorem heap_alloc_at {w:World} {k:Nat} (h:k=w.heap.size) (o:Obj):(w.alloc o).heap[k]?=some o:=by subst h;exact heap_alloc_new w o

theorem heap_alloc_old {w:World} {k:Nat} {x:Obj} (h:w.heap[k]?=some x) (o:Obj):(w.alloc o).heap[k]?=some x:=by
  rw [Below.heap_alloc _ _ _ (lt_heap h)];exact h

theorem heap_set_other {w:World} {k:Nat} {x:Obj} (h:w.heap[k]?=some x) {p:Addr} (hp:k≠p.block) (v:Value):(w.setCell p v).heap[k]?=some x:=by
  rw [Below.heap_setCell _ _ _ _ hp];exact h

theorem heap_set_same {w:World} {b o:Nat} {cs:Array Value} {e:TypeId} {fz:Nat × Nat} (h:w.heap[b]?=some (.cells cs e fz)) (v:Value) :
    (w.setCell ⟨b,o,none⟩ v).heap[b]?=some (.cells (cs.setIfInBounds o v) e fz):=by
  simp [World.setCell,Array.getElem?_modify,h]

theorem cell_heap {w:World} {b:Nat} {cs:Array Value} {e:TypeId} {fz:Nat × Nat} (h:w.heap[b]?=some (.cells cs e fz)) (o:Nat):w.cell? ⟨b,o,none⟩=cs[o]?:=by
  simp [World.cell?,h]

theorem frozen_heap {w:World} {b:Nat} {cs:Array Value} {e:TypeId} (h:w.heap[b]?=some (.cells cs e (0,0))) (o:Nat):w.frozen? ⟨b,o,none⟩=false:=by
  simp [World.frozen?,h]

theorem heap_setCells {w:World} {g:Nat} {cs:Array Value} {e:TypeId} {fz:Nat × Nat} (h:w.heap[g]?=some (.cells cs e fz)) (o:Nat) (vs:List Value) :
    ∃ cs1:Array Value,(w.setCells g o vs).heap[g]?=some (.cells cs1 e fz)∧cs1.size=cs.size∧(o+vs.length≤cs.size→cs1.toList=cs.toList.take o++vs++cs.toList.drop (o+vs.length)):=by
  induction vs generalizing w cs o with
  | nil=>exact ⟨cs,h,rfl,fun _=>by simp⟩
  | cons v vs ih =>
    obtain ⟨cs1,h1,h2,h3⟩:=ih (heap_set_same (o:=o) h v) (o+1)
    refine ⟨cs1,h1,by simpa using h2,fun hle=>?_⟩
    simp only [List.length_cons] at hle
    have hsz:(cs.setIfInBounds o v).size=cs.size:=by simp
    rw [h3 (by omega)]
    have hlt:o < cs.toList.length:=by simp;omega
    have e1:List.take (o+1) (cs.setIfInBounds o v).toList=cs.toList.take o++[v]:=by
      simp only [Array.toList_setIfInBounds]
      rw [List.take_succ_eq_append_getElem (by simpa using hlt),List.take_set_of_le (Nat.le_refl _)]
      simp
    have e2:List.drop (o+1+vs.length) (cs.setIfInBounds o v).toList=cs.toList.drop (o+(vs.length+1)):=by
      simp only [Array.toList_setIfInBounds]
      rw [List.drop_set_of_lt (by omega)]
      congr 1
      omega
    rw [e1,e2]
    simp

theorem heap_setCells_other {w:World} {g k:Nat} (h:k≠g) (o:Nat) (vs:List Value):(w.setCells g o vs).heap[k]?=w.heap[k]?:=by
  induction vs generalizing w o with
  | nil=>rfl
  | cons v vs ih =>
    show ((w.setCell ⟨g,o,none⟩ v).setCells g (o+1) vs).heap[k]?=_
    rw [ih,Below.heap_setCell _ _ _ _ h]

theorem ret_of {v v1:Value} (h:v=v1):Ending.returned v=Ending.returned v1:=by rw [h]

theorem cells7 {W:World} {b:Nat} {a0 a1 a2 a3 a4 a5 a6:Value} {t:TypeId} {f:Nat × Nat} (h:W.heap[b]?=some (.cells #[a0,a1,a2,a3,a4,a5,a6] t f)) :
    W.cell? ⟨b,0,none⟩=some a0∧W.cell? ⟨b,1,none⟩=some a1∧W.cell? ⟨b,2,none⟩=some a2∧W.cell? ⟨b,3,none⟩=some a3∧W.cell? ⟨b,4,none⟩=some a4∧W.cell? ⟨b,5,none⟩=some a5∧W.cell? ⟨b,6,none⟩=some a6 :=
  ⟨(cell_heap h _).trans rfl,(cell_heap h _).trans rfl,(cell_heap h _).trans rfl,(cell_heap h _).trans rfl,(cell_heap h _).trans rfl,(cell_heap h _).trans rfl,(cell_heap h _).trans rfl⟩

end Go.Proofs.YtmjcnomgpikncaaGreatDoor

namespace Go.Proofs.YtmjcnomgpikncaaGreatDoor

open Go.RowKit Go.Deep



def Buf (b g off:Nat) (bs:List Value) (w:World):Prop :=
  ∃ lr:Int,(w.heap[b]?=some (.cells #[.slice none 0 0,.int .i64 0,.int .i8 lr] 131 (0,0))∧g=b∧off=0∧bs=[]) ∨
    ∃ cap cur,w.heap[b]?=some (.cells #[.slice (some ⟨g,0,none⟩) (off+bs.length) cap,.int .i64 off,.int .i8 lr] 131 (0,0))∧g≠b ∧
      w.heap[g]?=some (.cells cur 5 (0,0))∧off+bs.length≤cap∧cap≤maxLen∧cur.size=cap∧(cur.toList.take (off+bs.length)).drop off=bs

theorem Buf.lt {b g off:Nat} {bs:List Value} {w:World} (h:Buf b g off bs w):b < w.heap.size∧g < w.heap.size:=by
  obtain ⟨lr,⟨h1,rfl,_⟩ | ⟨cap,cur,h1,_,h2,_⟩⟩:=h
  · exact ⟨lt_heap h1,lt_heap h1⟩
  · exact ⟨lt_heap h1,lt_heap h2⟩

theorem Buf.carry {b g off:Nat} {bs:List Value} {w w1:World} (h:Buf b g off bs w) (hb:w1.heap[b]?=w.heap[b]?) (hg:w1.heap[g]?=w.heap[g]?):Buf b g off bs w1:=by
  obtain ⟨lr,⟨h1,h2⟩ | ⟨cap,cur,h1,hn,h2,h3⟩⟩:=h
  · exact ⟨lr,.inl ⟨hb.trans h1,h2⟩⟩
  · exact ⟨lr,.inr ⟨cap,cur,hb.trans h1,hn,hg.trans h2,h3⟩⟩

theorem Buf.step {b g off:Nat} {bs:List Value} {S T:List Nat} {w w1:World} (h:Buf b g off bs w) (hs:Step S T w w1) (hb:b∉S) (hg:g∉S):Buf b g off bs w1 :=
  h.carry (hs.block b h.lt.1 hb) (hs.block g h.lt.2 hg)

theorem Buf.alloc {b g off:Nat} {bs:List Value} {w:World} (h:Buf b g off bs w) (o:Obj):Buf b g off bs (w.alloc o) :=
  h.carry (Below.heap_alloc _ _ _ h.lt.1) (Below.heap_alloc _ _ _ h.lt.2)

theorem Buf.drew {b g off:Nat} {bs:List Value} {w:World} (h:Buf b g off bs w):Buf b g off bs w.drew:=h

theorem Buf.drewN {b g off:Nat} {bs:List Value} {w:World} (h:Buf b g off bs w) (n:Nat):Buf b g off bs (w.drewN n):=h

theorem Buf.set {b g off:Nat} {bs:List Value} {w:World} (h:Buf b g off bs w) {p:Addr} (hb:b≠p.block) (hg:g≠p.block) (v:Value):Buf b g off bs (w.setCell p v) :=
  h.carry (Below.heap_setCell _ _ _ _ hb) (Below.heap_setCell _ _ _ _ hg)

theorem buf_len (b l off cap:Nat) (ao:Option Addr) (w:World) (c0:w.cell? ⟨b,0,none⟩=some (.slice ao l cap)) (c1:w.cell? ⟨b,1,none⟩=some (.int .i64 off)) (hl:off≤l) (hm:l≤maxLen) :
    Calls Tryz.prog 51 #[.pointer (some ⟨b,0,none⟩)] w fun e w'=>e=.returned (.int .i64 ((l - off:Nat):Int))∧∃ n,w'=w.drewN n:=by
  unfold maxLen at hm
  have hw:IntKind.i64.wrap ((l:Int) - off)=((l - off:Nat):Int):=by rw [IntKind.wrap_i64];omega
  go_enter Tryz.func51,Tryz.ntmps51
  go_wp2
  go_quiet (fail)
  go_wp2
  go_ret
  exact ⟨ret_of (by rw [← hw];rfl),_,rfl⟩

def Grew (b l n:Nat) (lr:Int) (old:List Value) (w w1:World):Prop :=
  ∃ N cap cells,w1.heap[b]?=some (.cells #[.slice (some ⟨N,0,none⟩) (l+n) cap,.int .i64 0,.int .i8 lr] 131 (0,0))∧w1.heap[N]?=some (.cells cells 5 (0,0))∧N≠b ∧
    l+n≤cap∧cap≤maxLen∧cells.size=cap∧cells.toList.take l=old∧Step [b] [b,N] w w1

theorem info8:(Tryz.prog.info? 5).map (fun i=>(i.zero,i.size,i.bytes))=some (some (.int .u8 0),1,1):=by kernel_rfl

set_option maxHeartbeats 1000000 in
set_option maxRecDepth 100000 in
theorem grow_nil_small (b n:Nat) (lr:Int) (w:World) (hbk:w.heap[b]?=some (.cells #[.slice none 0 0,.int .i64 0,.int .i8 lr] 131 (0,0))) (hn:1≤n) (h64:n≤64) :
    Calls Tryz.prog 86 #[.pointer (some ⟨b,0,none⟩),.int .i64 n] w fun e w'=>e=.returned (.int .i64 0)∧Grew b 0 n lr [] w w':=by
  obtain ⟨i0,hi,hz0,hz1,hz2⟩:=info_parts info8
  obtain ⟨M,hM⟩:∃ M,M=madeCells (Value.int .u8 0).cells ((64:Int).toNat * i0.size):=⟨_,rfl⟩
  have hMs:M.size=64:=by rw [hM,size_madeCells,hz1];rfl
  have hmk:∀ W:World,(Instr.makeSlice 24 (.int .i64 (n:Int)) (.int .i64 64)).run Tryz.prog W=.ok (.slice (some ⟨W.heap.size,0,none⟩) n 64) (W.alloc (.cells M 5)):=fun W=>by
    have h:=run_makeSlice (P:=Tryz.prog) W 24 5 i0 (.int .u8 0) Tryz.underlying24 hi hz0 .i64 .i64 (n:Int) 64 (by omega) (by omega) (by rw [hz1];decide) (by rw [hz2];decide) (by decide)
    rw [← hM] at h
    simpa using h
  clear hM
  have hnil:∀ W,(binOp .eql 24 (.slice none 0 0) (.slice none 0 0)).run Tryz.prog W=.ok (.bool true) W:=fun W=>Lib.run_eql_slice_nil_nil W _ _ Tryz.underlying24
  have c0:w.cell? ⟨b,0,none⟩=some (.slice none 0 0):=by rw [cell_heap hbk];rfl
  have c1:w.cell? ⟨b,1,none⟩=some (.int .i64 0):=by rw [cell_heap hbk];rfl
  go_enter Tryz.func86,Tryz.ntmps86
  go_wp2_with (go_at_call 51;refine (buf_len b 0 0 0 none _ c0 c1 (Nat.le_refl _) (Nat.zero_le _)).mono ?_)
  rintro e W0 ⟨rfl,k,hW0⟩
  have hbk0:W0.heap[b]?=some (.cells #[.slice none 0 0,.int .i64 0,.int .i8 lr] 131 (0,0)):=by rw [hW0];exact hbk
  have hs0:Step [b] [b] w W0:=by rw [hW0];exact (Step.refl _ _).drewN k
  clear hW0 c0 c1
  have c0:W0.cell? ⟨b,0,none⟩=some (.slice none 0 0):=by rw [cell_heap hbk0];rfl
  have c1:W0.cell? ⟨b,1,none⟩=some (.int .i64 0):=by rw [cell_heap hbk0];rfl
  have c0a:∀ o,(W0.alloc o).cell? ⟨b,0,none⟩=some (.slice none 0 0):=fun o=>by rw [cell_heap (heap_alloc_old hbk0 o)];rfl
  have f0a:∀ o,(W0.alloc o).frozen? ⟨b,0,none⟩=false:=fun o=>frozen_heap (heap_alloc_old hbk0 o) 0
  go_wp2_with (go_at_call 85;refine (Tryz.Buffer_tryGrow_none b _ 0 0 n _ c0 (Nat.le_refl _) (Nat.zero_le _) (by omega)).mono ?_;rintro e w' ⟨rfl,rfl⟩)
  go_ret
  have hlt:=lt_heap hbk0
  refine ⟨rfl,w'.heap.size,64,M,?_,?_,by omega,by omega,by unfold maxLen;omega,hMs,by simp,?_⟩
  · rw [heap_set_same (heap_alloc_old hbk0 _)];simp
  · exact heap_set_other (heap_alloc_new _ _) (by show w'.heap.size≠b;omega) _
  · have:=hs0.size
    exact ((hs0.alloc _).setCell (p:=⟨b,0,none⟩) (.inl (by simp)) _).more (fun _ h=>h) (fun k hk=>by
      simp only [List.mem_cons,List.not_mem_nil,or_false] at hk ⊢
      omega)

theorem grew_end {b l n N cap:Nat} {lr:Int} {v0:Value} {cells:Array Value} {old:List Value} {w w1 w2:World} (hs:Step [b] [b] w w1) (hbel:Below w1.heap.size w1 w2)
    (hbk:w2.heap[b]?=some (.cells #[v0,.int .i64 0,.int .i8 lr] 131 (0,0))) (hN:w2.heap[N]?=some (.cells cells 5 (0,0))) (hNe:N=w1.heap.size) (hb:b < w1.heap.size)
    (hcap:l+n≤cap) (hm:cap≤maxLen) (hsz:cells.size=cap) (htk:cells.toList.take l=old) :
    Grew b l n lr old w (((w2.setCell ⟨b,0,none⟩ (.slice (some ⟨N,0,none⟩) l cap)).setCell ⟨b,1,none⟩ (.int .i64 0)).setCell ⟨b,0,none⟩ (.slice (some ⟨N,0,none⟩) (l+n) cap)):=by
  have hsz1:=hs.size
  refine ⟨N,cap,cells,?_,?_,by omega,hcap,hm,hsz,htk,?_⟩
  · rw [heap_set_same (heap_set_same (heap_set_same hbk _) _)];simp
  · exact heap_set_other (heap_set_other (heap_set_other hN (by show N≠b;omega) _) (by show N≠b;omega) _) (by show N≠b;omega) _
  · have h2:Step [b] [b] w w2:=hs.trans (Step.ofBelow hbel)
    exact (((h2.setCell (p:=⟨b,0,none⟩) (.inl (by simp)) _).setCell (p:=⟨b,1,none⟩) (.inl (by simp)) _).setCell (p:=⟨b,0,none⟩) (.inl (by simp)) _).more (fun _ h=>h) (fun k hk=>by
      simp only [List.mem_cons,List.not_mem_nil,or_false] at hk ⊢
      omega)

set_option maxHeartbeats 2000000 in
set_option maxRecDepth 100000 in
theorem grow_nil_big (b n:Nat) (lr:Int) (w:World) (hbk:w.heap[b]?=some (.cells #[.slice none 0 0,.int .i64 0,.int .i8 lr] 131 (0,0))) (h64:64 < n) (hlim:n≤140737488355328) :
    Calls Tryz.prog 86 #[.pointer (some ⟨b,0,none⟩),.int .i64 n] w fun e w'=>e=.returned (.int .i64 0)∧Grew b 0 n lr [] w w':=by
  have hn:1≤n:=by omega
  have hnil:∀ W,(binOp .eql 24 (.slice none 0 0) (.slice none 0 0)).run Tryz.prog W=.ok (.bool true) W:=fun W=>Lib.run_eql_slice_nil_nil W _ _ Tryz.underlying24
  have c0:w.cell? ⟨b,0,none⟩=some (.slice none 0 0):=by rw [cell_heap hbk];rfl
  have c1:w.cell? ⟨b,1,none⟩=some (.int .i64 0):=by rw [cell_heap hbk];rfl
  go_enter Tryz.func86,Tryz.ntmps86
  go_wp2_with (go_at_call 51;refine (buf_len b 0 0 0 none _ c0 c1 (Nat.le_refl _) (Nat.zero_le _)).mono ?_)
  rintro e W0 ⟨rfl,k,hW0⟩
  have hbk0:W0.heap[b]?=some (.cells #[.slice none 0 0,.int .i64 0,.int .i8 lr] 131 (0,0)):=by rw [hW0];exact hbk
  have hs0:Step [b] [b] w W0:=by rw [hW0];exact (Step.refl _ _).drewN k
  clear hW0 c0 c1
  have c0:W0.cell? ⟨b,0,none⟩=some (.slice none 0 0):=by rw [cell_heap hbk0];rfl
  have c1:W0.cell? ⟨b,1,none⟩=some (.int .i64 0):=by rw [cell_heap hbk0];rfl
  have f0:W0.frozen? ⟨b,0,none⟩=false:=frozen_heap hbk0 0
  have f1:W0.frozen? ⟨b,1,none⟩=false:=frozen_heap hbk0 1
  go_wp2_with (go_at_call 85;refine (Tryz.Buffer_tryGrow_none b _ 0 0 n _ c0 (Nat.le_refl _) (Nat.zero_le _) (by omega)).mono ?_;rintro e w' ⟨rfl,rfl⟩)
  have hbW:=lt_heap hbk0
  have hwn:IntKind.i64.wrap (n:Int)=n:=by rw [IntKind.wrap_i64];omega
  go_region_with (
      go_at_call 93
      refine (Tryz.bytes_growSlice_nil n _ hn hlim).mono ?_
      rintro e w2 ⟨cap2,cells,rfl,hN,hcsz,hcap2,hcm2,hbel⟩
      have hbk2:w2.heap[b]?=some (.cells #[.slice none 0 0,.int .i64 0,.int .i8 lr] 131 (0,0)):=(hbel.block b hbW).trans hbk0
      have d0:w2.cell? ⟨b,0,none⟩=some (.slice none 0 0):=by rw [cell_heap hbk2];rfl
      have d1:w2.cell? ⟨b,1,none⟩=some (.int .i64 0):=by rw [cell_heap hbk2];rfl
      have e0:w2.frozen? ⟨b,0,none⟩=false:=frozen_heap hbk2 0
      have e1:w2.frozen? ⟨b,1,none⟩=false:=frozen_heap hbk2 1)
  all_goals (
    go_wp2
    go_ret
    refine ⟨rfl,?_⟩
    have hge:=grew_end (l:=0) (n:=n) (old:=[]) hs0.drew hbel hbk2 hN rfl hbW (by omega) hcm2 hcsz (by simp)
    simpa using hge)

end Go.Proofs.YtmjcnomgpikncaaGreatDoor

namespace Go.Proofs.YtmjcnomgpikncaaGreatDoor

open Go.RowKit Go.Deep



set_option maxHeartbeats 2000000 in
set_option maxRecDepth 100000 in
theorem grow_row_pos (b g l cap n:Nat) (lr:Int) (cur:Array Value) (w:World) (hbk:w.heap[b]?=some (.cells #[.slice (some ⟨g,0,none⟩) l cap,.int .i64 0,.int .i8 lr] 131 (0,0)))
    (hg:w.heap[g]?=some (.cells cur 5 (0,0))) (hlc:l≤cap) (hcm:cap≤maxLen) (hcs:cur.size=cap) (h1:∀ v∈cur.toList.take l,v.oneCell'=true) (hn:1≤n) (hroom:cap - l < n) (hlim:l+n≤140737488355328) (hl0:((l:Int) == 0)=false) :
    Calls Tryz.prog 86 #[.pointer (some ⟨b,0,none⟩),.int .i64 n] w fun e w'=>e=.returned (.int .i64 l)∧Grew b l n lr (cur.toList.take l) w w':=by
  have hnil:∀ W,(binOp .eql 24 (.slice (some ⟨g,0,none⟩) l cap) (.slice none 0 0)).run Tryz.prog W=.ok (.bool false) W:=fun W=>Lib.run_eql_slice_some_nil W _ _ _ Tryz.underlying24
  have c0:w.cell? ⟨b,0,none⟩=some (.slice (some ⟨g,0,none⟩) l cap):=by rw [cell_heap hbk];rfl
  have c1:w.cell? ⟨b,1,none⟩=some (.int .i64 (0:Nat)):=by rw [cell_heap hbk];rfl
  have hlm:l≤maxLen:=Nat.le_trans hlc hcm
  go_enter Tryz.func86,Tryz.ntmps86
  go_wp2_with (go_at_call 51;refine (buf_len b l 0 cap _ _ c0 c1 (Nat.zero_le _) hlm).mono ?_)
  rintro e W0 ⟨rfl,k,hW0⟩
  rw [Nat.sub_zero]
  have hbk0:W0.heap[b]?=some (.cells #[.slice (some ⟨g,0,none⟩) l cap,.int .i64 0,.int .i8 lr] 131 (0,0)):=by rw [hW0];exact hbk
  have hg0:W0.heap[g]?=some (.cells cur 5 (0,0)):=by rw [hW0];exact hg
  have hs0:Step [b] [b] w W0:=by rw [hW0];exact (Step.refl _ _).drewN k
  clear hW0 c0 c1
  have c0:W0.cell? ⟨b,0,none⟩=some (.slice (some ⟨g,0,none⟩) l cap):=by rw [cell_heap hbk0];rfl
  have c1:W0.cell? ⟨b,1,none⟩=some (.int .i64 0):=by rw [cell_heap hbk0];rfl
  have f0:W0.frozen? ⟨b,0,none⟩=false:=frozen_heap hbk0 0
  have f1:W0.frozen? ⟨b,1,none⟩=false:=frozen_heap hbk0 1
  have hcm':=hcm
  unfold maxLen at hcm' hlm
  have hc2:cap≤140737488355328:=by omega
  go_wp2_with (go_at_call 85;refine (Tryz.Buffer_tryGrow_none b _ l cap n _ c0 hlc hcm hroom).mono ?_;rintro e w' ⟨rfl,rfl⟩)
  have hbW:=lt_heap hbk0
  have hwn:IntKind.i64.wrap (n:Int)=n:=by rw [IntKind.wrap_i64];omega
  go_region_with (
      go_at_call 93
      refine (Tryz.bytes_growSlice_row g l cap n cur _ ?_ hcs hlc hn hlim hc2 h1).mono ?_
      exact hg0
      rintro e w2 ⟨cap2,cells,rfl,hN,hcsz,htk,hcap2,hcm2,hbel⟩
      have hbk2:w2.heap[b]?=some (.cells #[.slice (some ⟨g,0,none⟩) l cap,.int .i64 0,.int .i8 lr] 131 (0,0)):=(hbel.block b hbW).trans hbk0
      have d0:w2.cell? ⟨b,0,none⟩=some (.slice (some ⟨g,0,none⟩) l cap):=by rw [cell_heap hbk2];rfl
      have d1:w2.cell? ⟨b,1,none⟩=some (.int .i64 0):=by rw [cell_heap hbk2];rfl
      have e0:w2.frozen? ⟨b,0,none⟩=false:=frozen_heap hbk2 0
      have e1:w2.frozen? ⟨b,1,none⟩=false:=frozen_heap hbk2 1)
  all_goals (
    go_wp2
    go_ret
    exact ⟨rfl,grew_end (n:=n) hs0.drew hbel hbk2 hN rfl hbW hcap2 hcm2 hcsz htk⟩)

set_option maxHeartbeats 2000000 in
set_option maxRecDepth 100000 in
theorem grow_row_zero (b g cap n:Nat) (lr:Int) (cur:Array Value) (w:World) (hbk:w.heap[b]?=some (.cells #[.slice (some ⟨g,0,none⟩) 0 cap,.int .i64 0,.int .i8 lr] 131 (0,0)))
    (hg:w.heap[g]?=some (.cells cur 5 (0,0))) (hcm:cap≤maxLen) (hcs:cur.size=cap) (h1:∀ v∈cur.toList.take 0,v.oneCell'=true) (hn:1≤n) (hroom:cap - 0 < n) (hlim:0+n≤140737488355328) :
    Calls Tryz.prog 86 #[.pointer (some ⟨b,0,none⟩),.int .i64 n] w fun e w'=>e=.returned (.int .i64 0)∧Grew b 0 n lr (cur.toList.take 0) w w':=by
  have hnil:∀ W,(binOp .eql 24 (.slice (some ⟨g,0,none⟩) 0 cap) (.slice none 0 0)).run Tryz.prog W=.ok (.bool false) W:=fun W=>Lib.run_eql_slice_some_nil W _ _ _ Tryz.underlying24
  have c0:w.cell? ⟨b,0,none⟩=some (.slice (some ⟨g,0,none⟩) 0 cap):=by rw [cell_heap hbk];rfl
  have c1:w.cell? ⟨b,1,none⟩=some (.int .i64 (0:Nat)):=by rw [cell_heap hbk];rfl
  have hlc:0≤cap:=Nat.zero_le _
  go_enter Tryz.func86,Tryz.ntmps86
  go_wp2_with (go_at_call 51;refine (buf_len b 0 0 cap _ _ c0 c1 (Nat.zero_le _) (Nat.zero_le _)).mono ?_)
  rintro e W0 ⟨rfl,k,hW0⟩
  simp only [Nat.sub_zero]
  have hbk0:W0.heap[b]?=some (.cells #[.slice (some ⟨g,0,none⟩) 0 cap,.int .i64 0,.int .i8 lr] 131 (0,0)):=by rw [hW0];exact hbk
  have hg0:W0.heap[g]?=some (.cells cur 5 (0,0)):=by rw [hW0];exact hg
  have hs0:Step [b] [b] w W0:=by rw [hW0];exact (Step.refl _ _).drewN k
  clear hW0 c0 c1
  have c0:W0.cell? ⟨b,0,none⟩=some (.slice (some ⟨g,0,none⟩) 0 cap):=by rw [cell_heap hbk0];rfl
  have c1:W0.cell? ⟨b,1,none⟩=some (.int .i64 0):=by rw [cell_heap hbk0];rfl
  have f0:W0.frozen? ⟨b,0,none⟩=false:=frozen_heap hbk0 0
  have f1:W0.frozen? ⟨b,1,none⟩=false:=frozen_heap hbk0 1
  have hcm':=hcm
  unfold maxLen at hcm'
  have hc2:cap≤140737488355328:=by omega
  go_wp2_with (go_at_call 85;refine (Tryz.Buffer_tryGrow_none b _ 0 cap n _ c0 hlc hcm hroom).mono ?_;rintro e w' ⟨rfl,rfl⟩)
  have hbW:=lt_heap hbk0
  have hwn:IntKind.i64.wrap (n:Int)=n:=by rw [IntKind.wrap_i64];omega
  go_region_with (
      go_at_call 93
      refine (Tryz.bytes_growSlice_row g 0 cap n cur _ ?_ hcs hlc hn hlim hc2 h1).mono ?_
      exact hg0
      rintro e w2 ⟨cap2,cells,rfl,hN,hcsz,htk,hcap2,hcm2,hbel⟩
      have hbk2:w2.heap[b]?=some (.cells #[.slice (some ⟨g,0,none⟩) 0 cap,.int .i64 0,.int .i8 lr] 131 (0,0)):=(hbel.block b hbW).trans hbk0
      have d0:w2.cell? ⟨b,0,none⟩=some (.slice (some ⟨g,0,none⟩) 0 cap):=by rw [cell_heap hbk2];rfl
      have d1:w2.cell? ⟨b,1,none⟩=some (.int .i64 0):=by rw [cell_heap hbk2];rfl
      have e0:w2.frozen? ⟨b,0,none⟩=false:=frozen_heap hbk2 0
      have e1:w2.frozen? ⟨b,1,none⟩=false:=frozen_heap hbk2 1)
  all_goals (
    go_wp2
    go_ret
    exact ⟨rfl,by simpa using grew_end (l:=0) (n:=n) hs0.drew hbel hbk2 hN rfl hbW hcap2 hcm2 hcsz htk⟩)

theorem grow_row (b g l cap n:Nat) (lr:Int) (cur:Array Value) (w:World) (hbk:w.heap[b]?=some (.cells #[.slice (some ⟨g,0,none⟩) l cap,.int .i64 0,.int .i8 lr] 131 (0,0)))
    (hg:w.heap[g]?=some (.cells cur 5 (0,0))) (hlc:l≤cap) (hcm:cap≤maxLen) (hcs:cur.size=cap) (h1:∀ v∈cur.toList.take l,v.oneCell'=true) (hn:1≤n) (hroom:cap - l < n) (hlim:l+n≤140737488355328) :
    Calls Tryz.prog 86 #[.pointer (some ⟨b,0,none⟩),.int .i64 n] w fun e w'=>e=.returned (.int .i64 l)∧Grew b l n lr (cur.toList.take l) w w':=by
  by_cases hl:l=0
  · subst hl
    exact grow_row_zero b g cap n lr cur w hbk hg hcm hcs h1 hn hroom hlim
  · exact grow_row_pos b g l cap n lr cur w hbk hg hlc hcm hcs h1 hn hroom hlim (by simp;omega)

end Go.Proofs.YtmjcnomgpikncaaGreatDoor

namespace Go.Proofs.YtmjcnomgpikncaaGreatDoor

open Go.RowKit Go.Deep



def Ready (b g g1 l n:Nat) (bs:List Value) (w w1:World):Prop :=
  ∃ lr cap cur,w1.heap[b]?=some (.cells #[.slice (some ⟨g1,0,none⟩) (l+n) cap,.int .i64 0,.int .i8 lr] 131 (0,0))∧g1≠b∧w1.heap[g1]?=some (.cells cur 5 (0,0)) ∧
    l+n≤cap∧cap≤maxLen∧cur.size=cap∧cur.toList.take l=bs∧Step [b,g] [b,g1] w w1

def NoRoom (b n:Nat) (w:World):Prop:=∃ ao l cap,w.cell? ⟨b,0,none⟩=some (.slice ao l cap)∧cap - l < n

theorem try_any (b g n:Nat) (bs:List Value) (w:World) (h:Buf b g 0 bs w) (hn:1≤n) :
    Calls Tryz.prog 85 #[.pointer (some ⟨b,0,none⟩),.int .i64 n] w fun e w' =>
      (e=.returned (.tuple #[.int .i64 bs.length,.bool true])∧Ready b g g bs.length n bs w w')∨(e=.returned (.tuple #[.int .i64 0,.bool false])∧w=w'∧NoRoom b n w):=by
  obtain ⟨lr,⟨hbk,rfl,_,rfl⟩ | ⟨cap,cur,hbk,hgb,hg,hnc,hcm,hcs,htk⟩⟩:=h
  · have c0:w.cell? ⟨g,0,none⟩=some (.slice none 0 0):=by rw [cell_heap hbk];rfl
    refine (Tryz.Buffer_tryGrow_none g _ 0 0 n w c0 (Nat.le_refl _) (Nat.zero_le _) (by omega)).mono ?_
    rintro e w' ⟨rfl,rfl⟩
    exact .inr ⟨rfl,rfl,_,_,_,c0,by omega⟩
  · simp only [Nat.zero_add,List.drop_zero] at hbk hnc htk
    have c0:w.cell? ⟨b,0,none⟩=some (.slice (some ⟨g,0,none⟩) bs.length cap):=by rw [cell_heap hbk];rfl
    by_cases hroom:n≤cap - bs.length
    · refine (Tryz.Buffer_tryGrow_room b _ bs.length cap n w c0 (frozen_heap hbk 0) hnc hcm hroom).mono ?_
      rintro e w' ⟨rfl,rfl⟩
      refine .inl ⟨rfl,lr,cap,cur,?_,hgb,heap_set_other hg hgb _,by omega,hcm,hcs,htk,?_⟩
      · rw [heap_set_same hbk];simp
      · exact ((Step.refl [b,g] w).setCell (p:=⟨b,0,none⟩) (.inl (by simp)) _)
    · refine (Tryz.Buffer_tryGrow_none b _ bs.length cap n w c0 hnc hcm (by omega)).mono ?_
      rintro e w' ⟨rfl,rfl⟩
      exact .inr ⟨rfl,rfl,_,_,_,c0,by omega⟩

theorem grew_ready {b g l n:Nat} {lr:Int} {bs:List Value} {w w1:World} (h:Grew b l n lr bs w w1):∃ g1,Ready b g g1 l n bs w w1:=by
  obtain ⟨N,cap,cells,h1,h2,h3,h4,h5,h6,h7,h8⟩:=h
  refine ⟨N,lr,cap,cells,h1,h3,h2,h4,h5,h6,h7,h8.more (by simp) (fun k hk=>by
    simp only [List.mem_cons,List.not_mem_nil,or_false] at hk ⊢
    omega)⟩

theorem grow_any (b g n:Nat) (bs:List Value) (w:World) (h:Buf b g 0 bs w) (h1:∀ v∈bs,v.oneCell'=true) (hn:1≤n) (hno:NoRoom b n w) (hlim:bs.length+n≤140737488355328) :
    Calls Tryz.prog 86 #[.pointer (some ⟨b,0,none⟩),.int .i64 n] w fun e w'=>e=.returned (.int .i64 bs.length)∧∃ g1,Ready b g g1 bs.length n bs w w':=by
  obtain ⟨ao,l,cap',hc,hr⟩:=hno
  obtain ⟨lr,⟨hbk,rfl,_,rfl⟩ | ⟨cap,cur,hbk,hgb,hg,hnc,hcm,hcs,htk⟩⟩:=h
  · by_cases h64:n≤64
    · refine (grow_nil_small g n lr w hbk hn h64).mono ?_
      rintro e w' ⟨rfl,hG⟩
      exact ⟨rfl,grew_ready hG⟩
    · refine (grow_nil_big g n lr w hbk (by omega) (by simpa using hlim)).mono ?_
      rintro e w' ⟨rfl,hG⟩
      exact ⟨rfl,grew_ready hG⟩
  · simp only [Nat.zero_add,List.drop_zero] at hbk hnc htk
    have c0:w.cell? ⟨b,0,none⟩=some (.slice (some ⟨g,0,none⟩) bs.length cap):=by rw [cell_heap hbk];rfl
    rw [c0] at hc
    simp only [Option.some.injEq,Value.slice.injEq] at hc
    obtain ⟨_,rfl,rfl⟩:=hc
    refine (grow_row b g bs.length cap n lr cur w hbk hg hnc hcm hcs (by rw [htk];exact h1) hn hr hlim).mono ?_
    rintro e w' ⟨rfl,hG⟩
    rw [htk] at hG
    exact ⟨rfl,grew_ready hG⟩

theorem Step.setRow {S T:List Nat} {a b:World} (h:Step S T a b) {g:Nat} (hp:g∈S∨a.heap.size≤g) (cs:Array Value):Step S T a (b.setRow g cs) :=
  ⟨h.os,h.tape,h.output,by have:=h.size;simpa using this,fun k hk hn=>by
    rw [setRow_other _ _ _ _ (fun e=>by subst e;rcases hp with hp | hp;exact hn hp;omega),h.block k hk hn],h.own⟩

theorem own_mem {b g g1:Nat} {w w1:World} (h:Step [b,g] [b,g1] w w1):g1∈[b,g]∨w.heap.size≤g1:=h.own g1 (by simp)

theorem wrote {b g g1 l n cap:Nat} {lr:Int} {cur:Array Value} {bs news:List Value} {w w1:World} (hbk:w1.heap[b]?=some (.cells #[.slice (some ⟨g1,0,none⟩) (l+n) cap,.int .i64 0,.int .i8 lr] 131 (0,0)))
    (hgb:g1≠b) (hg:w1.heap[g1]?=some (.cells cur 5 (0,0))) (hnc:l+n≤cap) (hcm:cap≤maxLen) (hcs:cur.size=cap) (htk:cur.toList.take l=bs) (hs:Step [b,g] [b,g1] w w1) (hnl:news.length=n) :
    Buf b g1 0 (bs++news) (w1.setRow g1 (bs++(news++cur.toList.drop (l+n))).toArray)∧Step [b,g] [b,g1] w (w1.setRow g1 (bs++(news++cur.toList.drop (l+n))).toArray):=by
  have e:bs++(news++cur.toList.drop (l+n))=cur.toList.take l++news++cur.toList.drop (l+n):=by rw [htk,List.append_assoc]
  rw [e]
  have hl:(cur.toList.take l).length=l:=by rw [List.length_take,Array.length_toList];omega
  have hbl:bs.length=l:=by rw [← htk];exact hl
  subst hnl
  refine ⟨⟨lr,.inr ⟨cap,(cur.toList.take l++news++cur.toList.drop (l+news.length)).toArray,?_,hgb,?_,?_,hcm,?_,?_⟩⟩,hs.setRow (own_mem hs) _⟩
  · rw [setRow_other _ _ _ _ (Ne.symm hgb),hbk];simp [hbl]
  · exact setRow_heap w1 g1 cur _ _ _ hg
  · simp [hbl];omega
  · simp only [List.size_toArray,List.length_append,hl,List.length_drop,Array.length_toList];omega
  · simp only [List.length_append,hbl,Nat.zero_add,List.drop_zero,List.toList_toArray]
    rw [List.take_append_of_le_length (by rw [List.length_append,hl];exact Nat.le_refl _),List.take_of_length_le (by rw [List.length_append,hl];exact Nat.le_refl _),htk]

theorem Buf.last {b g off:Nat} {bs:List Value} {w:World} (h:Buf b g off bs w) (x:Int):Buf b g off bs (w.setCell ⟨b,2,none⟩ (.int .i8 x)):=by
  obtain ⟨lr,⟨h1,h2⟩ | ⟨cap,cur,h1,hn,h2,h3⟩⟩:=h
  · exact ⟨x,.inl ⟨by rw [heap_set_same h1];simp,h2⟩⟩
  · exact ⟨x,.inr ⟨cap,cur,by rw [heap_set_same h1];simp,hn,heap_set_other h2 hn _,h3⟩⟩

theorem Buf.cell2 {b g off:Nat} {bs:List Value} {w:World} (h:Buf b g off bs w):∃ lr,w.cell? ⟨b,2,none⟩=some (.int .i8 lr)∧w.frozen? ⟨b,2,none⟩=false:=by
  obtain ⟨lr,⟨h1,_⟩ | ⟨cap,cur,h1,_⟩⟩:=h
  · exact ⟨lr,by rw [cell_heap h1];rfl,frozen_heap h1 2⟩
  · exact ⟨lr,by rw [cell_heap h1];rfl,frozen_heap h1 2⟩

theorem size8:(Tryz.prog.info? 5).map (·.size)=some 1:=by
  obtain ⟨i0,hi,-,hz1,-⟩:=info_parts info8
  rw [hi];simp [hz1]

set_option maxHeartbeats 2000000 in
set_option maxRecDepth 100000 in
theorem buf_write (b g n c:Nat) (bs cs:List Value) (a:Addr) (w:World) (h:Buf b g 0 bs w) (h1:∀ v∈bs,v.oneCell'=true) (hn:cs.length=n) (hab:a.block≠b) (hag:a.block≠g) (hal:a.block < w.heap.size)
    (hsrc:∀ j v,cs[j]?=some v→w.cell? (a.add j)=some v) (h1c:∀ v∈cs,v.oneCell'=true) (hn1:1≤n) (hlim:bs.length+n≤140737488355328) :
    Calls Tryz.prog 72 #[.pointer (some ⟨b,0,none⟩),.slice (some a) n c] w fun e w'=>e=.returned (.tuple #[.int .i64 n,.nilIface])∧∃ g1,Buf b g1 0 (bs++cs) w'∧Step [b,g] [b,g1] w w':=by
  obtain ⟨lr,c2,f2⟩:=h.cell2
  have h0:=h.last 0
  have hs0:Step [b,g] [b,g] w (w.setCell ⟨b,2,none⟩ (.int .i8 0)):=(Step.refl _ _).setCell (p:=⟨b,2,none⟩) (.inl (by simp)) _
  have hal0:a.block < (w.setCell ⟨b,2,none⟩ (.int .i8 0)).heap.size:=by simpa [World.setCell] using hal
  have hsrc0:∀ j v,cs[j]?=some v→(w.setCell ⟨b,2,none⟩ (.int .i8 0)).cell? (a.add j)=some v:=fun j v hj=>by
    rw [hs0.cell (by rw [Lib.block_add];exact hal) (by rw [Lib.block_add];simp [hab,hag])];exact hsrc j v hj
  clear hsrc
  go_enter Tryz.func72,Tryz.ntmps72
  go_wp2_with (go_at_call 85;refine (try_any b g n bs _ ?_ hn1).mono ?_)
  · exact h0
  generalize w.setCell ⟨b,2,none⟩ (.int .i8 0)=w0 at *
  rintro e W1 (⟨rfl,hR⟩ | ⟨rfl,rfl,hno⟩)
  · obtain ⟨lr1,cap,cur,hbk,hgb,hg,hnc,hcm,hcs,htk,hs⟩:=hR
    have d0:W1.cell? ⟨b,0,none⟩=some (.slice (some ⟨g,0,none⟩) (bs.length+n) cap):=by rw [cell_heap hbk];rfl
    have hne:¬ cap=bs.length:=by omega
    have hsrc1:∀ j v,cs[j]?=some v→W1.cell? (a.add j)=some v:=fun j v hj=>by
      rw [hs.cell (by rw [Lib.block_add];exact hal0) (by rw [Lib.block_add];simp [hab,hag])];exact hsrc0 j v hj
    have hcp:=run_copy_row (P:=Tryz.prog) W1 24 24 3 5 g bs.length n (cap - bs.length) a n c cur 5 cs Tryz.underlying24 size8 hg (by rw [hn];exact (Nat.min_self n).symm) hsrc1 (by rw [hn];omega) h1c
    rw [hn] at hcp
    have hcm':=hcm
    unfold maxLen at hcm'
    clear hsrc1 hsrc0 c2 f2
    go_wp2
    go_ret2
    obtain ⟨r1,r2⟩:=wrote hbk hgb hg hnc hcm hcs htk (hs0.trans hs) hn
    exact ⟨rfl,g,r1,r2⟩
  · go_wp2_with (go_at_call 86;refine (grow_any b g n bs _ h0 h1 hn1 hno hlim).mono ?_)
    rintro e W1 ⟨rfl,g1,hR⟩
    obtain ⟨lr1,cap,cur,hbk,hgb,hg,hnc,hcm,hcs,htk,hs⟩:=hR
    have d0:W1.cell? ⟨b,0,none⟩=some (.slice (some ⟨g1,0,none⟩) (bs.length+n) cap):=by rw [cell_heap hbk];rfl
    have hne:¬ cap=bs.length:=by omega
    have hsrc1:∀ j v,cs[j]?=some v→W1.cell? (a.add j)=some v:=fun j v hj=>by
      rw [hs.cell (by rw [Lib.block_add];exact hal0) (by rw [Lib.block_add];simp [hab,hag])];exact hsrc0 j v hj
    have hcp:=run_copy_row (P:=Tryz.prog) W1 24 24 3 5 g1 bs.length n (cap - bs.length) a n c cur 5 cs Tryz.underlying24 size8 hg (by rw [hn];exact (Nat.min_self n).symm) hsrc1 (by rw [hn];omega) h1c
    rw [hn] at hcp
    have hcm':=hcm
    unfold maxLen at hcm'
    clear hsrc1 hsrc0 c2 f2
    go_wp2
    go_ret2
    obtain ⟨r1,r2⟩:=wrote hbk hgb hg hnc hcm hcs htk (hs0.trans hs) hn
    exact ⟨rfl,g1,r1,r2⟩

set_option maxHeartbeats 2000000 in
set_option maxRecDepth 100000 in
theorem buf_write_none (b g c:Nat) (bs:List Value) (ao:Option Addr) (w:World) (h:Buf b g 0 bs w) :
    Calls Tryz.prog 72 #[.pointer (some ⟨b,0,none⟩),.slice ao 0 c] w fun e w'=>e=.returned (.tuple #[.int .i64 0,.nilIface])∧Buf b g 0 bs w'∧Step [b,g] [b,g] w w':=by
  obtain ⟨lr,c2,f2⟩:=h.cell2
  have h0:=h.last 0
  have hs0:Step [b,g] [b,g] w (w.setCell ⟨b,2,none⟩ (.int .i8 0)):=(Step.refl _ _).setCell (p:=⟨b,2,none⟩) (.inl (by simp)) _
  have hce:∀ d dLen dCap W,(Builtin.copy_ #[24,24] 3 #[.slice d dLen dCap,.slice ao 0 c]).run Tryz.prog W=.ok (goInt 0) W:=fun d dLen dCap W=>run_copy_none W 24 24 3 5 d ao dLen dCap 0 c Tryz.underlying24 size8 (by simp)
  obtain ⟨lr0,⟨hbk,rfl,_,rfl⟩ | ⟨cap,cur,hbk,hgb,hg,hnc,hcm,hcs,htk⟩⟩:=id h0
  · have d0:(w.setCell ⟨g,2,none⟩ (.int .i8 0)).cell? ⟨g,0,none⟩=some (.slice none 0 0):=by rw [cell_heap hbk];rfl
    have hT:=Tryz.Buffer_tryGrow_room g none 0 0 0 _ d0 (frozen_heap hbk 0) (Nat.le_refl _) (Nat.zero_le _) (Nat.le_refl _)
    have hbk2:=heap_set_same (o:=0) hbk (.slice none (0+0) 0)
    have d1:((w.setCell ⟨g,2,none⟩ (.int .i8 0)).setCell ⟨g,0,none⟩ (.slice none (0+0) 0)).cell? ⟨g,0,none⟩=some (.slice none 0 0):=by rw [cell_heap hbk2];rfl
    have hs1:Step [g,g] [g,g] w ((w.setCell ⟨g,2,none⟩ (.int .i8 0)).setCell ⟨g,0,none⟩ (.slice none (0+0) 0)):=hs0.setCell (p:=⟨g,0,none⟩) (.inl (by simp)) _
    have hB:Buf g g 0 [] ((w.setCell ⟨g,2,none⟩ (.int .i8 0)).setCell ⟨g,0,none⟩ (.slice none (0+0) 0)):=⟨lr0,.inl ⟨by rw [hbk2];simp,rfl,rfl,rfl⟩⟩
    clear hbk2
    go_enter Tryz.func72,Tryz.ntmps72
    go_wp2_with (go_at_call 85;refine hT.mono ?_;rintro e W1 ⟨rfl,rfl⟩)
    all_goals (go_ret2;exact ⟨by simp,hB,hs1⟩)
  · simp only [Nat.zero_add,List.drop_zero] at hbk hnc htk
    have d0:(w.setCell ⟨b,2,none⟩ (.int .i8 0)).cell? ⟨b,0,none⟩=some (.slice (some ⟨g,0,none⟩) bs.length cap):=by rw [cell_heap hbk];rfl
    have hT:=Tryz.Buffer_tryGrow_room b (some ⟨g,0,none⟩) bs.length cap 0 _ d0 (frozen_heap hbk 0) hnc hcm (by omega)
    have hbk2:=heap_set_same (o:=0) hbk (.slice (some ⟨g,0,none⟩) (bs.length+0) cap)
    have d1:((w.setCell ⟨b,2,none⟩ (.int .i8 0)).setCell ⟨b,0,none⟩ (.slice (some ⟨g,0,none⟩) (bs.length+0) cap)).cell? ⟨b,0,none⟩=some (.slice (some ⟨g,0,none⟩) bs.length cap):=by rw [cell_heap hbk2];rfl
    have hs1:Step [b,g] [b,g] w ((w.setCell ⟨b,2,none⟩ (.int .i8 0)).setCell ⟨b,0,none⟩ (.slice (some ⟨g,0,none⟩) (bs.length+0) cap)):=hs0.setCell (p:=⟨b,0,none⟩) (.inl (by simp)) _
    have hB:Buf b g 0 bs ((w.setCell ⟨b,2,none⟩ (.int .i8 0)).setCell ⟨b,0,none⟩ (.slice (some ⟨g,0,none⟩) (bs.length+0) cap)) :=
      ⟨lr0,.inr ⟨cap,cur,by rw [hbk2];simp,hgb,heap_set_other hg hgb _,by omega,hcm,hcs,by simpa using htk⟩⟩
    clear hbk2
    unfold maxLen at hcm
    by_cases hne:cap=bs.length
    · subst hne
      go_enter Tryz.func72,Tryz.ntmps72
      go_wp2_with (go_at_call 85;refine hT.mono ?_;rintro e W1 ⟨rfl,rfl⟩)
      all_goals (go_ret2;exact ⟨by simp,hB,hs1⟩)
    · go_enter Tryz.func72,Tryz.ntmps72
      go_wp2_with (go_at_call 85;refine hT.mono ?_;rintro e W1 ⟨rfl,rfl⟩)
      all_goals (go_ret2;exact ⟨by simp,hB,hs1⟩)

end Go.Proofs.YtmjcnomgpikncaaGreatDoor
