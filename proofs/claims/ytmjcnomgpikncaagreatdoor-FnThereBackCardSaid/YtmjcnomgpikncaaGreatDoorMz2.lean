/- Values as they are read, by the laws' own function. No condition. -/
import Derived.Test.YtmjcnomgpikncaaGreatDoorMr
import Derived.Test.YtmjcnomgpikncaaGreatDoorMz1
import Derived.Test.YtmjcnomgpikncaaGreatDoorMy
import Derived.Test.YtmjcnomgpikncaaGreatDoorMr2
import Derived.Test.YtmjcnomgpikncaaGreatDoorMc
import Derived.Test.YtmjcnomgpikncaaGreatDoorMz4
import Derived.Test.YtmjcnomgpikncaaGreatDoorMy2
set_option linter.unusedVariables false
set_option linter.unusedSimpArgs false
namespace Go.Proofs.YtmjcnomgpikncaaGreatDoor

open Go.RowKit Go.Deep



open Go.Proofs.YtmjcnomgpikncaaGreatDoorW.PrintWords Go.Proofs.YtmjcnomgpikncaaGreatDoorW.PrintLast Go.Proofs.YtmjcnomgpikncaaGreatDoorW.PrintMore

def PlainV (r:Val) (w:World) (e:Ending) (w':World):Prop:=∃ cs,e=.returned (.agg cs.toArray)∧HasO (fun b=>w.heap.size≤b) w' r cs∧Below w.heap.size w w'

theorem HasO.num {ok:Nat→Prop} {w:World} (hk:ok w.heap.size) (t n:Int):HasO ok w ⟨t,n,[],0,0,[],[]⟩ [.int .i64 t,.int .i64 n,.slice none 0 0,.int .i64 0,.int .i64 0,.slice none 0 0,.slice none 0 0] :=
  ⟨_,HasV.plain t n [] (.slice none 0 0) w.heap.size ⟨0,.inl ⟨rfl,rfl⟩⟩,fun k h=>by obtain ⟨rfl,_⟩:=h;exact hk⟩

theorem plain_num10 (proto n k e:Int) (A2 A5 A6:Option Addr) (l2 c2 l5 c5 l6 c6:Nat) (w:World) :
    Calls Tryz.prog 24 #[.int .i64 proto,.agg #[.int .i64 10,.int .i64 n,.slice A2 l2 c2,.int .i64 k,.int .i64 e,.slice A5 l5 c5,.slice A6 l6 c6]] w (PlainV ⟨10,n,[],0,0,[],[]⟩ w):=by
  go_enter Tryz.func24,Tryz.ntmps24
  go_wp2_with (fail)
  have hB:Below w.heap.size w (((w.alloc (.cells #[.int .i64 10,.int .i64 n,.slice A2 l2 c2,.int .i64 k,.int .i64 e,.slice A5 l5 c5,.slice A6 l6 c6] 28)).alloc (.cells #[.int .i64 10,.int .i64 (n),.slice none 0 0,.int .i64 0,.int .i64 0,.slice none 0 0,.slice none 0 0] 28)).alloc (.cells #[.int .i64 10,.int .i64 (n),.slice none 0 0,.int .i64 0,.int .i64 0,.slice none 0 0,.slice none 0 0] 28)):=(((Below.refl _ w).alloc (by simp) _).alloc (by simp) _).alloc (by simp <;> omega) _
  obtain ⟨r0,r1,r2,r3,r4,r5,r6⟩:=cells7 (show (((w.alloc (.cells #[.int .i64 10,.int .i64 n,.slice A2 l2 c2,.int .i64 k,.int .i64 e,.slice A5 l5 c5,.slice A6 l6 c6] 28)).alloc (.cells #[.int .i64 10,.int .i64 (n),.slice none 0 0,.int .i64 0,.int .i64 0,.slice none 0 0,.slice none 0 0] 28)).alloc (.cells #[.int .i64 10,.int .i64 (n),.slice none 0 0,.int .i64 0,.int .i64 0,.slice none 0 0,.slice none 0 0] 28)).heap[w.heap.size+1]?=some (.cells #[.int .i64 10,.int .i64 (n),.slice none 0 0,.int .i64 0,.int .i64 0,.slice none 0 0,.slice none 0 0] 28 (0,0)) from heap_alloc_old (heap_alloc_at (by simp) _) _)
  refine bodyPost_ret (v:=.agg #[.int .i64 10,.int .i64 (n),.slice none 0 0,.int .i64 0,.int .i64 0,.slice none 0 0,.slice none 0 0]) (by simp [results,Tryz.results24,go_sem, *]) rfl ?_
  exact ⟨[.int .i64 10,.int .i64 (n),.slice none 0 0,.int .i64 0,.int .i64 0,.slice none 0 0,.slice none 0 0],rfl,HasO.num hB.size _ _,hB⟩

theorem plain_num4 (proto n k e:Int) (A2 A5 A6:Option Addr) (l2 c2 l5 c5 l6 c6:Nat) (w:World) :
    Calls Tryz.prog 24 #[.int .i64 proto,.agg #[.int .i64 4,.int .i64 n,.slice A2 l2 c2,.int .i64 k,.int .i64 e,.slice A5 l5 c5,.slice A6 l6 c6]] w (PlainV ⟨4,n,[],0,0,[],[]⟩ w):=by
  go_enter Tryz.func24,Tryz.ntmps24
  go_wp2_with (fail)
  have hB:Below w.heap.size w (((w.alloc (.cells #[.int .i64 4,.int .i64 n,.slice A2 l2 c2,.int .i64 k,.int .i64 e,.slice A5 l5 c5,.slice A6 l6 c6] 28)).alloc (.cells #[.int .i64 4,.int .i64 (n),.slice none 0 0,.int .i64 0,.int .i64 0,.slice none 0 0,.slice none 0 0] 28)).alloc (.cells #[.int .i64 4,.int .i64 (n),.slice none 0 0,.int .i64 0,.int .i64 0,.slice none 0 0,.slice none 0 0] 28)):=(((Below.refl _ w).alloc (by simp) _).alloc (by simp) _).alloc (by simp <;> omega) _
  obtain ⟨r0,r1,r2,r3,r4,r5,r6⟩:=cells7 (show (((w.alloc (.cells #[.int .i64 4,.int .i64 n,.slice A2 l2 c2,.int .i64 k,.int .i64 e,.slice A5 l5 c5,.slice A6 l6 c6] 28)).alloc (.cells #[.int .i64 4,.int .i64 (n),.slice none 0 0,.int .i64 0,.int .i64 0,.slice none 0 0,.slice none 0 0] 28)).alloc (.cells #[.int .i64 4,.int .i64 (n),.slice none 0 0,.int .i64 0,.int .i64 0,.slice none 0 0,.slice none 0 0] 28)).heap[w.heap.size+1]?=some (.cells #[.int .i64 4,.int .i64 (n),.slice none 0 0,.int .i64 0,.int .i64 0,.slice none 0 0,.slice none 0 0] 28 (0,0)) from heap_alloc_old (heap_alloc_at (by simp) _) _)
  refine bodyPost_ret (v:=.agg #[.int .i64 4,.int .i64 (n),.slice none 0 0,.int .i64 0,.int .i64 0,.slice none 0 0,.slice none 0 0]) (by simp [results,Tryz.results24,go_sem, *]) rfl ?_
  exact ⟨[.int .i64 4,.int .i64 (n),.slice none 0 0,.int .i64 0,.int .i64 0,.slice none 0 0,.slice none 0 0],rfl,HasO.num hB.size _ _,hB⟩

theorem plain_num3 (proto n k e:Int) (A2 A5 A6:Option Addr) (l2 c2 l5 c5 l6 c6:Nat) (w:World) :
    Calls Tryz.prog 24 #[.int .i64 proto,.agg #[.int .i64 3,.int .i64 n,.slice A2 l2 c2,.int .i64 k,.int .i64 e,.slice A5 l5 c5,.slice A6 l6 c6]] w (PlainV ⟨3,w8 n,[],0,0,[],[]⟩ w):=by
  have hw8:IntKind.i64.wrap (IntKind.i8.wrap n)=w8 n:=by rw [wrap_i8,IntKind.wrap_i64];unfold w8;omega
  go_enter Tryz.func24,Tryz.ntmps24
  go_wp2_with (fail)
  have hB:Below w.heap.size w (((w.alloc (.cells #[.int .i64 3,.int .i64 n,.slice A2 l2 c2,.int .i64 k,.int .i64 e,.slice A5 l5 c5,.slice A6 l6 c6] 28)).alloc (.cells #[.int .i64 3,.int .i64 (w8 n),.slice none 0 0,.int .i64 0,.int .i64 0,.slice none 0 0,.slice none 0 0] 28)).alloc (.cells #[.int .i64 3,.int .i64 (w8 n),.slice none 0 0,.int .i64 0,.int .i64 0,.slice none 0 0,.slice none 0 0] 28)):=(((Below.refl _ w).alloc (by simp) _).alloc (by simp) _).alloc (by simp <;> omega) _
  obtain ⟨r0,r1,r2,r3,r4,r5,r6⟩:=cells7 (show (((w.alloc (.cells #[.int .i64 3,.int .i64 n,.slice A2 l2 c2,.int .i64 k,.int .i64 e,.slice A5 l5 c5,.slice A6 l6 c6] 28)).alloc (.cells #[.int .i64 3,.int .i64 (w8 n),.slice none 0 0,.int .i64 0,.int .i64 0,.slice none 0 0,.slice none 0 0] 28)).alloc (.cells #[.int .i64 3,.int .i64 (w8 n),.slice none 0 0,.int .i64 0,.int .i64 0,.slice none 0 0,.slice none 0 0] 28)).heap[w.heap.size+1]?=some (.cells #[.int .i64 3,.int .i64 (w8 n),.slice none 0 0,.int .i64 0,.int .i64 0,.slice none 0 0,.slice none 0 0] 28 (0,0)) from heap_alloc_old (heap_alloc_at (by simp) _) _)
  refine bodyPost_ret (v:=.agg #[.int .i64 3,.int .i64 (w8 n),.slice none 0 0,.int .i64 0,.int .i64 0,.slice none 0 0,.slice none 0 0]) (by simp [results,Tryz.results24,go_sem, *]) rfl ?_
  exact ⟨[.int .i64 3,.int .i64 (w8 n),.slice none 0 0,.int .i64 0,.int .i64 0,.slice none 0 0,.slice none 0 0],rfl,HasO.num hB.size _ _,hB⟩

theorem plain_num6 (proto n k e:Int) (A2 A5 A6:Option Addr) (l2 c2 l5 c5 l6 c6:Nat) (w:World) :
    Calls Tryz.prog 24 #[.int .i64 proto,.agg #[.int .i64 6,.int .i64 n,.slice A2 l2 c2,.int .i64 k,.int .i64 e,.slice A5 l5 c5,.slice A6 l6 c6]] w (PlainV ⟨6,w16 n,[],0,0,[],[]⟩ w):=by
  have hw8:IntKind.i64.wrap (IntKind.i16.wrap n)=w16 n:=by rw [wrap_i16,IntKind.wrap_i64];unfold w16;omega
  go_enter Tryz.func24,Tryz.ntmps24
  go_wp2_with (fail)
  have hB:Below w.heap.size w (((w.alloc (.cells #[.int .i64 6,.int .i64 n,.slice A2 l2 c2,.int .i64 k,.int .i64 e,.slice A5 l5 c5,.slice A6 l6 c6] 28)).alloc (.cells #[.int .i64 6,.int .i64 (w16 n),.slice none 0 0,.int .i64 0,.int .i64 0,.slice none 0 0,.slice none 0 0] 28)).alloc (.cells #[.int .i64 6,.int .i64 (w16 n),.slice none 0 0,.int .i64 0,.int .i64 0,.slice none 0 0,.slice none 0 0] 28)):=(((Below.refl _ w).alloc (by simp) _).alloc (by simp) _).alloc (by simp <;> omega) _
  obtain ⟨r0,r1,r2,r3,r4,r5,r6⟩:=cells7 (show (((w.alloc (.cells #[.int .i64 6,.int .i64 n,.slice A2 l2 c2,.int .i64 k,.int .i64 e,.slice A5 l5 c5,.slice A6 l6 c6] 28)).alloc (.cells #[.int .i64 6,.int .i64 (w16 n),.slice none 0 0,.int .i64 0,.int .i64 0,.slice none 0 0,.slice none 0 0] 28)).alloc (.cells #[.int .i64 6,.int .i64 (w16 n),.slice none 0 0,.int .i64 0,.int .i64 0,.slice none 0 0,.slice none 0 0] 28)).heap[w.heap.size+1]?=some (.cells #[.int .i64 6,.int .i64 (w16 n),.slice none 0 0,.int .i64 0,.int .i64 0,.slice none 0 0,.slice none 0 0] 28 (0,0)) from heap_alloc_old (heap_alloc_at (by simp) _) _)
  refine bodyPost_ret (v:=.agg #[.int .i64 6,.int .i64 (w16 n),.slice none 0 0,.int .i64 0,.int .i64 0,.slice none 0 0,.slice none 0 0]) (by simp [results,Tryz.results24,go_sem, *]) rfl ?_
  exact ⟨[.int .i64 6,.int .i64 (w16 n),.slice none 0 0,.int .i64 0,.int .i64 0,.slice none 0 0,.slice none 0 0],rfl,HasO.num hB.size _ _,hB⟩

theorem plain_num8 (proto n k e:Int) (A2 A5 A6:Option Addr) (l2 c2 l5 c5 l6 c6:Nat) (w:World) :
    Calls Tryz.prog 24 #[.int .i64 proto,.agg #[.int .i64 8,.int .i64 n,.slice A2 l2 c2,.int .i64 k,.int .i64 e,.slice A5 l5 c5,.slice A6 l6 c6]] w (PlainV ⟨8,wrap32 n,[],0,0,[],[]⟩ w):=by
  have hw8:wrap64 (wrap32 n)=wrap32 n:=by unfold wrap32 wrap64;omega
  go_enter Tryz.func24,Tryz.ntmps24
  go_wp2_with (fail)
  rw [hw8]
  have hB:Below w.heap.size w (((w.alloc (.cells #[.int .i64 8,.int .i64 n,.slice A2 l2 c2,.int .i64 k,.int .i64 e,.slice A5 l5 c5,.slice A6 l6 c6] 28)).alloc (.cells #[.int .i64 8,.int .i64 (wrap32 n),.slice none 0 0,.int .i64 0,.int .i64 0,.slice none 0 0,.slice none 0 0] 28)).alloc (.cells #[.int .i64 8,.int .i64 (wrap32 n),.slice none 0 0,.int .i64 0,.int .i64 0,.slice none 0 0,.slice none 0 0] 28)):=(((Below.refl _ w).alloc (by simp) _).alloc (by simp) _).alloc (by simp <;> omega) _
  obtain ⟨r0,r1,r2,r3,r4,r5,r6⟩:=cells7 (show (((w.alloc (.cells #[.int .i64 8,.int .i64 n,.slice A2 l2 c2,.int .i64 k,.int .i64 e,.slice A5 l5 c5,.slice A6 l6 c6] 28)).alloc (.cells #[.int .i64 8,.int .i64 (wrap32 n),.slice none 0 0,.int .i64 0,.int .i64 0,.slice none 0 0,.slice none 0 0] 28)).alloc (.cells #[.int .i64 8,.int .i64 (wrap32 n),.slice none 0 0,.int .i64 0,.int .i64 0,.slice none 0 0,.slice none 0 0] 28)).heap[w.heap.size+1]?=some (.cells #[.int .i64 8,.int .i64 (wrap32 n),.slice none 0 0,.int .i64 0,.int .i64 0,.slice none 0 0,.slice none 0 0] 28 (0,0)) from heap_alloc_old (heap_alloc_at (by simp) _) _)
  refine bodyPost_ret (v:=.agg #[.int .i64 8,.int .i64 (wrap32 n),.slice none 0 0,.int .i64 0,.int .i64 0,.slice none 0 0,.slice none 0 0]) (by simp [results,Tryz.results24,go_sem, *]) rfl ?_
  exact ⟨[.int .i64 8,.int .i64 (wrap32 n),.slice none 0 0,.int .i64 0,.int .i64 0,.slice none 0 0,.slice none 0 0],rfl,HasO.num hB.size _ _,hB⟩

theorem plain_num2a (proto n k e:Int) (A2 A5 A6:Option Addr) (l2 c2 l5 c5 l6 c6:Nat) (w:World) (h0:n=0) :
    Calls Tryz.prog 24 #[.int .i64 proto,.agg #[.int .i64 2,.int .i64 0,.slice A2 l2 c2,.int .i64 k,.int .i64 e,.slice A5 l5 c5,.slice A6 l6 c6]] w (PlainV ⟨2,0,[],0,0,[],[]⟩ w):=by
  clear h0
  go_enter Tryz.func24,Tryz.ntmps24
  go_wp2_with (fail)
  have hB:Below w.heap.size w (((w.alloc (.cells #[.int .i64 2,.int .i64 0,.slice A2 l2 c2,.int .i64 k,.int .i64 e,.slice A5 l5 c5,.slice A6 l6 c6] 28)).alloc (.cells #[.int .i64 2,.int .i64 (0),.slice none 0 0,.int .i64 0,.int .i64 0,.slice none 0 0,.slice none 0 0] 28)).alloc (.cells #[.int .i64 2,.int .i64 (0),.slice none 0 0,.int .i64 0,.int .i64 0,.slice none 0 0,.slice none 0 0] 28)):=(((Below.refl _ w).alloc (by simp) _).alloc (by simp) _).alloc (by simp <;> omega) _
  obtain ⟨r0,r1,r2,r3,r4,r5,r6⟩:=cells7 (show (((w.alloc (.cells #[.int .i64 2,.int .i64 0,.slice A2 l2 c2,.int .i64 k,.int .i64 e,.slice A5 l5 c5,.slice A6 l6 c6] 28)).alloc (.cells #[.int .i64 2,.int .i64 (0),.slice none 0 0,.int .i64 0,.int .i64 0,.slice none 0 0,.slice none 0 0] 28)).alloc (.cells #[.int .i64 2,.int .i64 (0),.slice none 0 0,.int .i64 0,.int .i64 0,.slice none 0 0,.slice none 0 0] 28)).heap[w.heap.size+1]?=some (.cells #[.int .i64 2,.int .i64 (0),.slice none 0 0,.int .i64 0,.int .i64 0,.slice none 0 0,.slice none 0 0] 28 (0,0)) from heap_alloc_old (heap_alloc_at (by simp) _) _)
  refine bodyPost_ret (v:=.agg #[.int .i64 2,.int .i64 (0),.slice none 0 0,.int .i64 0,.int .i64 0,.slice none 0 0,.slice none 0 0]) (by simp [results,Tryz.results24,go_sem, *]) rfl ?_
  exact ⟨[.int .i64 2,.int .i64 (0),.slice none 0 0,.int .i64 0,.int .i64 0,.slice none 0 0,.slice none 0 0],rfl,HasO.num hB.size _ _,hB⟩

theorem plain_num2b (proto n k e:Int) (A2 A5 A6:Option Addr) (l2 c2 l5 c5 l6 c6:Nat) (w:World) (h0:¬ n=0) :
    Calls Tryz.prog 24 #[.int .i64 proto,.agg #[.int .i64 2,.int .i64 n,.slice A2 l2 c2,.int .i64 k,.int .i64 e,.slice A5 l5 c5,.slice A6 l6 c6]] w (PlainV ⟨2,1,[],0,0,[],[]⟩ w):=by
  go_enter Tryz.func24,Tryz.ntmps24
  go_wp2_with (fail)
  have hB:Below w.heap.size w (((w.alloc (.cells #[.int .i64 2,.int .i64 n,.slice A2 l2 c2,.int .i64 k,.int .i64 e,.slice A5 l5 c5,.slice A6 l6 c6] 28)).alloc (.cells #[.int .i64 2,.int .i64 (1),.slice none 0 0,.int .i64 0,.int .i64 0,.slice none 0 0,.slice none 0 0] 28)).alloc (.cells #[.int .i64 2,.int .i64 (1),.slice none 0 0,.int .i64 0,.int .i64 0,.slice none 0 0,.slice none 0 0] 28)):=(((Below.refl _ w).alloc (by simp) _).alloc (by simp) _).alloc (by simp <;> omega) _
  obtain ⟨r0,r1,r2,r3,r4,r5,r6⟩:=cells7 (show (((w.alloc (.cells #[.int .i64 2,.int .i64 n,.slice A2 l2 c2,.int .i64 k,.int .i64 e,.slice A5 l5 c5,.slice A6 l6 c6] 28)).alloc (.cells #[.int .i64 2,.int .i64 (1),.slice none 0 0,.int .i64 0,.int .i64 0,.slice none 0 0,.slice none 0 0] 28)).alloc (.cells #[.int .i64 2,.int .i64 (1),.slice none 0 0,.int .i64 0,.int .i64 0,.slice none 0 0,.slice none 0 0] 28)).heap[w.heap.size+1]?=some (.cells #[.int .i64 2,.int .i64 (1),.slice none 0 0,.int .i64 0,.int .i64 0,.slice none 0 0,.slice none 0 0] 28 (0,0)) from heap_alloc_old (heap_alloc_at (by simp) _) _)
  refine bodyPost_ret (v:=.agg #[.int .i64 2,.int .i64 (1),.slice none 0 0,.int .i64 0,.int .i64 0,.slice none 0 0,.slice none 0 0]) (by simp [results,Tryz.results24,go_sem, *]) rfl ?_
  exact ⟨[.int .i64 2,.int .i64 (1),.slice none 0 0,.int .i64 0,.int .i64 0,.slice none 0 0,.slice none 0 0],rfl,HasO.num hB.size _ _,hB⟩

end Go.Proofs.YtmjcnomgpikncaaGreatDoor

namespace Go.Proofs.YtmjcnomgpikncaaGreatDoor

open Go.RowKit Go.Deep



open Go.Proofs.YtmjcnomgpikncaaGreatDoorW.PrintWords Go.Proofs.YtmjcnomgpikncaaGreatDoorW.PrintLast Go.Proofs.YtmjcnomgpikncaaGreatDoorW.PrintMore

theorem HasO.txt {ok:Nat→Prop} {w:World} {base:Nat} {u:Value} {s:List Int} (hi:(Kd.int .u8).R 5 w base ok u s) (t:Int):HasO ok w ⟨t,0,s,0,0,[],[]⟩ [.int .i64 t,.int .i64 0,u,.int .i64 0,.int .i64 0,.slice none 0 0,.slice none 0 0]:=by
  obtain ⟨Ai,ci,rfl,hci,_⟩:=Kd.R_reads hi
  refine ⟨fun k=>ok k∧k < w.heap.size,⟨fun k hk=>hk.2,fun w1 h1=>?_⟩,fun k hk=>hk.1⟩
  have h2:=Kd.R_step (w1:=w1) hi (fun k h3 h4=>h1 k ⟨h3,h4⟩)
  obtain ⟨A2,c2,e,hc2,hC2⟩:=Kd.R_reads h2
  injection e with e1 e2 e3
  subst e1
  exact kVal_mk w1 ⟨t,0,s,0,0,[],[]⟩ hci hC2 (A5:=none) (c5:=0) (by simp) (Kd.C_nil _ w1) (A6:=none) (c6:=0) (by simp) (Kd.C_nil _ w1)

theorem plain_txt (proto n k e:Int) (s:List Int) (A2 A5 A6:Option Addr) (c2 l5 c5 l6 c6:Nat) (w:World) (hs:s.length≤65536) (hC:(Kd.int .u8).C w A2 s.length s) (hc:s.length≤c2) (h8:∀ x∈s,0≤x∧x < 256) :
    Calls Tryz.prog 24 #[.int .i64 proto,.agg #[.int .i64 11,.int .i64 n,.slice A2 s.length c2,.int .i64 k,.int .i64 e,.slice A5 l5 c5,.slice A6 l6 c6]] w (PlainV ⟨11,0,s,0,0,[],[]⟩ w):=by
  go_enter Tryz.func24,Tryz.ntmps24
  obtain ⟨W3,hW3⟩:∃ W3,W3=((((w.alloc (.cells #[.int .i64 11,.int .i64 n,.slice A2 s.length c2,.int .i64 k,.int .i64 e,.slice A5 l5 c5,.slice A6 l6 c6] 28)).alloc (.cells #[.int .i64 0,.int .i64 0,.slice none 0 0,.int .i64 0,.int .i64 0,.slice none 0 0,.slice none 0 0] 28)).alloc (.cells #[.int .i64 11,.int .i64 0,.slice none 0 0,.int .i64 0,.int .i64 0,.slice none 0 0,.slice none 0 0] 28)).alloc (.cells #[.slice A2 s.length c2] 24)):=⟨_,rfl⟩
  have hsz:W3.heap.size=w.heap.size+1+1+1+1:=by rw [hW3];simp
  have hB3:Below w.heap.size w W3:=by rw [hW3];exact ((((Below.refl _ w).alloc (by simp) _).alloc (by simp) _).alloc (by simp <;> omega) _).alloc (by simp <;> omega) _
  have hg:W3.cell? ⟨w.heap.size+1+1+1,0,none⟩=some (.slice A2 s.length c2):=(cell_heap (show W3.heap[w.heap.size+1+1+1]?=some (.cells #[.slice A2 s.length c2] 24 (0,0)) by rw [hW3];exact heap_alloc_at (by simp) _) _).trans rfl
  have hv3:W3.heap[w.heap.size]?=some (.cells #[.int .i64 11,.int .i64 n,.slice A2 s.length c2,.int .i64 k,.int .i64 e,.slice A5 l5 c5,.slice A6 l6 c6] 28 (0,0)):=by rw [hW3];exact heap_alloc_old (heap_alloc_old (heap_alloc_old (heap_alloc_new w _) _) _) _
  have hr3:W3.heap[w.heap.size+1]?=some (.cells #[.int .i64 0,.int .i64 0,.slice none 0 0,.int .i64 0,.int .i64 0,.slice none 0 0,.slice none 0 0] 28 (0,0)):=by rw [hW3];exact heap_alloc_old (heap_alloc_old (heap_alloc_at (by simp) _) _) _
  have ho3:W3.heap[w.heap.size+1+1]?=some (.cells #[.int .i64 11,.int .i64 0,.slice none 0 0,.int .i64 0,.int .i64 0,.slice none 0 0,.slice none 0 0] 28 (0,0)):=by rw [hW3];exact heap_alloc_old (heap_alloc_at (by simp) _) _
  have HJ:=Lib.hid (joined_any (W:=W3) (w.heap.size+1+1+1) 1 [s] (by simp) (by simp) (by simp) (by simp;omega) (fun j p hj=>by
    cases j with
    | zero =>
      simp only [List.getElem?_cons_zero,Option.some.injEq] at hj
      subst hj
      exact ⟨A2,c2,hg,hc,Kd.C_below hC hB3⟩
    | succ j=>simp at hj))
  have HB3:=Lib.hid hB3
  have HV3:=Lib.hid hv3
  have HR3:=Lib.hid hr3
  have HO3:=Lib.hid ho3
  clear hg hv3 hr3 ho3 hB3
  go_wp2_with (fail)
  rw [← hW3]
  clear hW3
  refine HJ.out.mono ?_
  rintro e9 W4 ⟨u,rfl,hR,hB4⟩
  have hfl:[s].flatten=s:=by simp
  rw [hfl] at hR
  obtain ⟨inner,hown⟩:=Kd.R_own hR
  have hR2:=Kd.R_flat (ok':=fun b=>w.heap.size+1+1+1 < b) (fun h=>h) hR (fun k hk _=>by have:=own_base hown k hk;omega)
  obtain ⟨U,cu,rfl,hcu,_⟩:=Kd.R_reads hR
  have hv4:=(hB4.block _ (by omega)).trans HV3.out
  have hr4:=(hB4.block _ (by omega)).trans HR3.out
  have ho4:=(hB4.block _ (by omega)).trans HO3.out
  obtain ⟨b0,b1,b2,b3,b4,b5,b6⟩:=cells7 hv4
  obtain ⟨c0,c1,c2',c3,c4,c5',c6'⟩:=cells7 ho4
  obtain ⟨d0,d1,d2,d3,d4,d5,d6⟩:=cells7 hr4
  have f1:=frozen_heap ho4
  have f2:=frozen_heap hr4
  have l1:=lt_heap ho4
  have l2:=lt_heap hr4
  have l3:=lt_heap hv4
  have HR2:=Lib.hid hR2
  have HB4:=Lib.hid hB4
  have HO4:=Lib.hid ho4
  have HR4:=Lib.hid hr4
  clear hR hR2 hown hB4 hv4 hr4 ho4
  go_wp2
  have hw4:=heap_set_other (p:=⟨w.heap.size+1+1,2,none⟩) HR4.out (by show w.heap.size+1≠w.heap.size+1+1;omega) (.slice U s.length cu)
  obtain ⟨W6,e2,h6,hs6⟩:=set7 hw4 (.int .i64 11) (.int .i64 0) (.slice U s.length cu) (.int .i64 0) (.int .i64 0) (.slice none 0 0) (.slice none 0 0)
  rw [e2]
  obtain ⟨r0,r1,r2,r3,r4,r5,r6⟩:=cells7 h6
  refine bodyPost_ret (v:=.agg #[.int .i64 11,.int .i64 0,.slice U s.length cu,.int .i64 0,.int .i64 0,.slice none 0 0,.slice none 0 0]) (by simp [results,Tryz.results24,go_sem, *]) rfl ?_
  have hs5:Step [w.heap.size+1+1,w.heap.size+1] [w.heap.size+1+1,w.heap.size+1] W4 W6:=((Step.refl [w.heap.size+1+1,w.heap.size+1] W4).setCell (p:=⟨w.heap.size+1+1,2,none⟩) (.inl (by simp)) _).trans (hs6.more (S1:=[w.heap.size+1+1,w.heap.size+1]) (T1:=[w.heap.size+1+1,w.heap.size+1]) (fun k hk=>by simp only [List.mem_cons,List.not_mem_nil,or_false] at hk;rw [hk];simp) (fun k hk=>.inr (.inl hk)))
  have hB6:Below w.heap.size w W6:=(HB3.out.trans (HB4.out.mono (by omega))).trans (hs5.below w.heap.size (by omega) (fun b hb=>by simp only [List.mem_cons,List.not_mem_nil,or_false] at hb;omega))
  have hO6:=(HasO.txt HR2.out 11).move (w1:=W6) (fun b hb hl=>hs5.block b hl (by simp only [List.mem_cons,List.not_mem_nil,or_false];omega)) hs5.size
  exact ⟨[.int .i64 11,.int .i64 0,.slice U s.length cu,.int .i64 0,.int .i64 0,.slice none 0 0,.slice none 0 0],rfl,hO6.mono (fun b hb _=>by omega),hB6⟩

end Go.Proofs.YtmjcnomgpikncaaGreatDoor

namespace Go.Proofs.YtmjcnomgpikncaaGreatDoor

open Go.RowKit Go.Deep



open Go.Proofs.YtmjcnomgpikncaaGreatDoorW.PrintWords

def padTo (xs:List Int) (i:Nat):List Int:=(xs.take i++List.replicate 16 0).take 16

theorem padTo_length (xs:List Int) (i:Nat):(padTo xs i).length=16:=by
  unfold padTo
  rw [List.length_take,List.length_append,List.length_replicate]
  omega

theorem padTo_succ (xs:List Int) (i:Nat) (h:i < 16) (hx:i < xs.length):(padTo xs i).set i xs[i]=padTo xs (i+1):=by
  apply List.ext_getElem?
  intro j
  rw [List.getElem?_set,padTo_length]
  unfold padTo
  rw [List.getElem?_take,List.getElem?_take,List.getElem?_append,List.getElem?_append,List.length_take,List.length_take]
  rw [Nat.min_eq_left (by omega),Nat.min_eq_left (by omega)]
  by_cases hj:j < 16
  · rw [if_pos hj,if_pos hj]
    by_cases hij:i=j
    · subst hij
      rw [if_pos rfl,if_pos h,if_pos (by omega),List.getElem?_take,if_pos (by omega),List.getElem?_eq_getElem hx]
    · rw [if_neg hij]
      by_cases h2:j < i
      · rw [if_pos h2,if_pos (by omega),List.getElem?_take,List.getElem?_take,if_pos h2,if_pos (by omega)]
      · rw [if_neg h2,if_neg (by omega),List.getElem?_replicate,List.getElem?_replicate,if_pos (by omega),if_pos (by omega)]
  · rw [if_neg hj,if_neg hj,if_neg (by omega)]

theorem padTo_end (xs:List Int) (i:Nat) (h:i=16∨i=xs.length) (hi:i≤16):padTo xs i=padTo xs 16:=by
  rcases h with rfl | rfl
  · rfl
  · unfold padTo
    rw [List.take_of_length_le (Nat.le_refl _),List.take_of_length_le hi]

theorem padded_l0 (xs:List Int) (hl:xs.length < 9223372036854775807):∀ (k i:Nat),i+k=16→i≤xs.length→laws_padded.l0 (k+1) xs (padTo xs i) (i:Int)=some (padTo xs 16)
  | 0,i,h,hx=>by
    obtain rfl:i=16:=by omega
    rw [laws_padded.l0,if_neg (by omega)]
  | k+1,i,h,hx=>by
    rw [laws_padded.l0,if_pos (by omega)]
    by_cases h2:i < xs.length
    · have e1:rd xs (i:Int)=xs[i]:=by simp [rd,List.getD_eq_getElem?_getD,List.getElem?_eq_getElem h2]
      have e2:wrap64 ((i:Int)+1)=((i+1:Nat):Int):=by unfold wrap64;omega
      rw [if_pos (by omega),if_pos (by omega),padTo_length,if_pos (by omega),e1,e2,Int.toNat_natCast,padTo_succ xs i (by omega) h2]
      exact padded_l0 xs hl k (i+1) (by omega) (by omega)
    · rw [if_neg (by omega),padTo_end xs i (.inr (by omega)) (by omega)]

theorem padTo_u16 (xs:List Int) (h8:∀ x∈xs,0≤x∧x < 256):padTo xs 16=ints (u16 (toB xs)):=by
  have e:ints (u16 (toB xs))=((ints (toB xs))++List.replicate 16 0).take 16:=by
    unfold u16 ints
    rw [List.map_take,List.map_append,List.map_replicate]
    rfl
  rw [e,ints_toB h8]
  unfold padTo
  rw [List.take_append,List.take_append,List.take_take,List.length_take]
  simp only [List.take_replicate,Nat.min_self]
  congr 2
  omega

theorem padded_f (xs:List Int) (h8:∀ x∈xs,0≤x∧x < 256) (hl:xs.length < 9223372036854775807):laws_padded.f 17 xs=some (ints (u16 (toB xs))):=by
  have h:=padded_l0 xs hl 16 0 (by omega) (by omega)
  unfold laws_padded.f
  rw [if_pos (by omega),← padTo_u16 xs h8,← h]
  rfl

end Go.Proofs.YtmjcnomgpikncaaGreatDoor

namespace Go.Proofs.YtmjcnomgpikncaaGreatDoor

open Go.RowKit Go.Deep



open Go.Proofs.YtmjcnomgpikncaaGreatDoorW.PrintWords Go.Proofs.YtmjcnomgpikncaaGreatDoorW.PrintLast Go.Proofs.YtmjcnomgpikncaaGreatDoorW.PrintMore

theorem plain_uid (proto n k e:Int) (s:List Int) (A2 A5 A6:Option Addr) (c2 l5 c5 l6 c6:Nat) (w:World) (hs:s.length≤65536) (hC:(Kd.int .u8).C w A2 s.length s) (hc:s.length≤c2) (r:List Int) (hp:laws_padded.f 17 s=some r) :
    Calls Tryz.prog 24 #[.int .i64 proto,.agg #[.int .i64 16,.int .i64 n,.slice A2 s.length c2,.int .i64 k,.int .i64 e,.slice A5 l5 c5,.slice A6 l6 c6]] w (PlainV ⟨16,0,r,0,0,[],[]⟩ w):=by
  go_enter Tryz.func24,Tryz.ntmps24
  obtain ⟨W3,hW3⟩:∃ W3,W3=((((w.alloc (.cells #[.int .i64 16,.int .i64 n,.slice A2 s.length c2,.int .i64 k,.int .i64 e,.slice A5 l5 c5,.slice A6 l6 c6] 28)).alloc (.cells #[.int .i64 0,.int .i64 0,.slice none 0 0,.int .i64 0,.int .i64 0,.slice none 0 0,.slice none 0 0] 28)).alloc (.cells #[.int .i64 16,.int .i64 0,.slice none 0 0,.int .i64 0,.int .i64 0,.slice none 0 0,.slice none 0 0] 28))):=⟨_,rfl⟩
  have hsz:W3.heap.size=w.heap.size+1+1+1:=by rw [hW3];simp
  have hB3:Below w.heap.size w W3:=by rw [hW3];exact (((Below.refl _ w).alloc (by simp) _).alloc (by simp) _).alloc (by simp <;> omega) _
  have hv3:W3.heap[w.heap.size]?=some (.cells #[.int .i64 16,.int .i64 n,.slice A2 s.length c2,.int .i64 k,.int .i64 e,.slice A5 l5 c5,.slice A6 l6 c6] 28 (0,0)):=by rw [hW3];exact heap_alloc_old (heap_alloc_old (heap_alloc_new w _) _) _
  have hr3:W3.heap[w.heap.size+1]?=some (.cells #[.int .i64 0,.int .i64 0,.slice none 0 0,.int .i64 0,.int .i64 0,.slice none 0 0,.slice none 0 0] 28 (0,0)):=by rw [hW3];exact heap_alloc_old (heap_alloc_at (by simp) _) _
  have ho3:W3.heap[w.heap.size+1+1]?=some (.cells #[.int .i64 16,.int .i64 0,.slice none 0 0,.int .i64 0,.int .i64 0,.slice none 0 0,.slice none 0 0] 28 (0,0)):=by rw [hW3];exact heap_alloc_at (by simp) _
  have HJ:=Lib.hid (laws_padded.calls 17 A2 c2 s r W3 (Kd.C_below hC hB3) hc hp)
  have HB3:=Lib.hid hB3
  have HV3:=Lib.hid hv3
  have HR3:=Lib.hid hr3
  have HO3:=Lib.hid ho3
  clear hv3 hr3 ho3 hB3
  go_wp2_with (fail)
  rw [← hW3]
  clear hW3
  refine HJ.out.mono ?_
  rintro e9 W4 ⟨u,rfl,hR,hB4⟩
  obtain ⟨inner,hown⟩:=Kd.R_own hR
  have hR2:=Kd.R_flat (ok':=fun b=>w.heap.size+1+1 < b) (fun h=>h) hR (fun k hk _=>by have:=own_base hown k hk;omega)
  obtain ⟨U,cu,rfl,hcu,_⟩:=Kd.R_reads hR
  have hv4:=(hB4.block _ (by omega)).trans HV3.out
  have hr4:=(hB4.block _ (by omega)).trans HR3.out
  have ho4:=(hB4.block _ (by omega)).trans HO3.out
  obtain ⟨b0,b1,b2,b3,b4,b5,b6⟩:=cells7 hv4
  obtain ⟨c0,c1,c2',c3,c4,c5',c6'⟩:=cells7 ho4
  obtain ⟨d0,d1,d2,d3,d4,d5,d6⟩:=cells7 hr4
  have f1:=frozen_heap ho4
  have f2:=frozen_heap hr4
  have l1:=lt_heap ho4
  have l2:=lt_heap hr4
  have l3:=lt_heap hv4
  have HR2:=Lib.hid hR2
  have HB4:=Lib.hid hB4
  have HO4:=Lib.hid ho4
  have HR4:=Lib.hid hr4
  clear hR hR2 hown hB4 hv4 hr4 ho4
  go_wp2
  have hw4:=heap_set_other (p:=⟨w.heap.size+1+1,2,none⟩) HR4.out (by show w.heap.size+1≠w.heap.size+1+1;omega) (.slice U r.length cu)
  obtain ⟨W6,e2,h6,hs6⟩:=set7 hw4 (.int .i64 16) (.int .i64 0) (.slice U r.length cu) (.int .i64 0) (.int .i64 0) (.slice none 0 0) (.slice none 0 0)
  rw [e2]
  obtain ⟨r0,r1,r2,r3,r4,r5,r6⟩:=cells7 h6
  refine bodyPost_ret (v:=.agg #[.int .i64 16,.int .i64 0,.slice U r.length cu,.int .i64 0,.int .i64 0,.slice none 0 0,.slice none 0 0]) (by simp [results,Tryz.results24,go_sem, *]) rfl ?_
  have hs5:Step [w.heap.size+1+1,w.heap.size+1] [w.heap.size+1+1,w.heap.size+1] W4 W6:=((Step.refl [w.heap.size+1+1,w.heap.size+1] W4).setCell (p:=⟨w.heap.size+1+1,2,none⟩) (.inl (by simp)) _).trans (hs6.more (S1:=[w.heap.size+1+1,w.heap.size+1]) (T1:=[w.heap.size+1+1,w.heap.size+1]) (fun k hk=>by simp only [List.mem_cons,List.not_mem_nil,or_false] at hk;rw [hk];simp) (fun k hk=>.inr (.inl hk)))
  have hB6:Below w.heap.size w W6:=(HB3.out.trans (HB4.out.mono (by omega))).trans (hs5.below w.heap.size (by omega) (fun b hb=>by simp only [List.mem_cons,List.not_mem_nil,or_false] at hb;omega))
  have hO6:=(HasO.txt HR2.out 16).move (w1:=W6) (fun b hb hl=>hs5.block b hl (by simp only [List.mem_cons,List.not_mem_nil,or_false];omega)) hs5.size
  exact ⟨[.int .i64 16,.int .i64 0,.slice U r.length cu,.int .i64 0,.int .i64 0,.slice none 0 0,.slice none 0 0],rfl,hO6.mono (fun b hb _=>by omega),hB6⟩

end Go.Proofs.YtmjcnomgpikncaaGreatDoor

namespace Go.Proofs.YtmjcnomgpikncaaGreatDoor

open Go.RowKit Go.Deep



open Go.Proofs.YtmjcnomgpikncaaGreatDoorW.PrintWords Go.Proofs.YtmjcnomgpikncaaGreatDoorW.PrintLast Go.Proofs.YtmjcnomgpikncaaGreatDoorW.PrintMore

theorem hone7 (a b k e:Int) (A2 A5 A6:Option Addr) (l2 c2 l5 c5 l6 c6:Nat):∀ u∈[Value.int .i64 a,.int .i64 b,.slice A2 l2 c2,.int .i64 k,.int .i64 e,.slice A5 l5 c5,.slice A6 l6 c6],u.oneCell'=true:=by
  intro u hu
  simp only [List.mem_cons,List.not_mem_nil,or_false] at hu
  rcases hu with rfl | rfl | rfl | rfl | rfl | rfl | rfl <;> rfl

theorem heap_alloc_same (w:World) (o:Obj) {b:Nat} (h:b < w.heap.size):(w.alloc o).heap[b]?=w.heap[b]?:=Below.heap_alloc _ _ _ h

theorem heap_set_off (w:World) {p:Addr} {b:Nat} (h:b≠p.block) (v:Value):(w.setCell p v).heap[b]?=w.heap[b]?:=by
  cases hb:w.heap[b]? with
  | none =>
    have:=((Step.refl [p.block] w).setCell (p:=p) (.inl (by simp)) v)
    rw [Array.getElem?_eq_none_iff] at hb ⊢
    have hs:(w.setCell p v).heap.size=w.heap.size:=by simp
    omega
  | some o=>exact (((Step.refl [p.block] w).setCell (p:=p) (.inl (by simp)) v).block b (by rw [Array.getElem?_eq_some_iff] at hb;exact hb.1) (by simp;exact h)).trans hb

theorem grown_step {u:Value} {w w1:World} (h:w.grownBy w1 u.ownBlock):Step u.ownBlock.toList u.ownBlock.toList w w1 :=
  ⟨h.os,h.tape,h.output,h.size,fun b hb hn=>h.block b hb (fun e=>hn (Option.mem_toList.2 e.symm)),fun b hb=>.inl hb⟩

section

variable {ops:Array Oper} {o:Oper} {a:Act} {K:Act→World→Prop} {Q:Exit→Act→World→Prop} {E:Prop} {W:World} {base n q:Nat} {u:Value} {inner ds:List Value}

theorem row_step (hg:o.guard=none) (s x:Operand) (hop:o.op=.call { callee:=.builtin .append,args:=#[s,x],argTypes:=#[26,26] }) (hs:a.eval s=u) (hx:a.eval x=.slice (some ⟨q,0,none⟩) 1 1)
    (hown:W.ownsRow base 28 7 u n inner) (hq:W.heap[q]?=some (.cells ds.toArray 28 (0,0))) (hqn:u.ownBlock≠some q) (hxl:ds.length=7) (h1:∀ v∈ds,v.oneCell'=true) (hn:n < 1000000000) (hb:base≤W.heap.size)
    (hK:∀ g cap w1,w1.ownsRow base 28 7 (.slice (some ⟨g,0,none⟩) (n+1) cap) (n+1) (inner++ds)→W.grownBy w1 u.ownBlock→(u.ownBlock=some g∨g=W.heap.size)→g < w1.heap.size→K (a.put o.dst (.slice (some ⟨g,0,none⟩) (n+1) cap)) w1) :
    if Region.wanted o (yielded ops a.tmps)=true then Oper.wp Tryz.prog o a W K Q else E:=by
  obtain ⟨i0,hi,hz0,hz1,hz2⟩:=info_parts infoVal
  refine step_append_lies W hg s x 26 hop base 28 i0 (.agg #[.int .i64 0,.int .i64 0,.slice none 0 0,.int .i64 0,.int .i64 0,.slice none 0 0,.slice none 0 0]) 7 104 Tryz.underlying26 hi hz0 hz1 hz2 rfl (by omega) u n inner hs hown ⟨q,0,none⟩ 1 1 ds hx (by rw [hxl]) (World.news_of_block (cs:=ds.toArray) hq) h1 (by omega) (by unfold maxLen;omega) (by omega) (by omega) W.heap.size rfl ?_
  intro g cap w1 hown1 hgrow hat hlt
  exact hK g cap w1 hown1 hgrow hat hlt

end

end Go.Proofs.YtmjcnomgpikncaaGreatDoor

namespace Go.Proofs.YtmjcnomgpikncaaGreatDoor

open Go.RowKit Go.Deep



open Go.Proofs.YtmjcnomgpikncaaGreatDoorW.PrintWords Go.Proofs.YtmjcnomgpikncaaGreatDoorW.PrintLast Go.Proofs.YtmjcnomgpikncaaGreatDoorW.PrintMore

set_option maxRecDepth 100000 in
set_option maxHeartbeats 2000000 in
theorem plain_coll (proto t n k e K:Int) (xs ys:List Val) (A2 A5 A6:Option Addr) (l2 c2 l5 c5 c6:Nat) (w:World) (ht:t=13∨t=14∨t=15) (hcs:((t == 13)=false∧K=0)∨((t == 13)=true∧K=k∧(proto == 1)=false)∨((t == 13)=true∧K=k∧(proto == 1)=true∧¬ xs.length=0)) (hl:xs.length≤65536) (hC:kVal.C w A6 xs.length xs) (hc:xs.length≤c6) (hlen:ys.length=xs.length)
 (hG:∀ (j:Nat) (p q:Val),xs[j]?=some p→ys[j]?=some q→∀ W cs,Below w.heap.size w W→kVal.K W p cs→Calls Tryz.prog 24 #[.int .i64 proto,.agg cs.toArray] W (PlainV q W)) :
 Calls Tryz.prog 24 #[.int .i64 proto,.agg #[.int .i64 t,.int .i64 n,.slice A2 l2 c2,.int .i64 k,.int .i64 e,.slice A5 l5 c5,.slice A6 xs.length c6]] w (PlainV ⟨t,0,[],K,e,[],ys⟩ w):=by
 have HG:=Lib.hid hG
 have HC:=Lib.hid hC
 clear hG hC
 have b2:(t == 2)=false:=by simp;omega
 have b3:(t == 3)=false:=by simp;omega
 have b4:(t == 4)=false:=by simp;omega
 have b6:(t == 6)=false:=by simp;omega
 have b8:(t == 8)=false:=by simp;omega
 have b10:(t == 10)=false:=by simp;omega
 have b11:(t == 11)=false:=by simp;omega
 have b12:(t == 12)=false:=by simp;omega
 have b16:(t == 16)=false:=by simp;omega
 have bge:decide (12≤t)=true:=by simp;omega
 have ble:decide (t≤15)=true:=by simp;omega
 have hz0:∀ m:Nat,¬ m=0→((m:Int) == 0)=false:=fun m h=>by simp;omega
 clear ht
 rcases hcs with ⟨f13,hK⟩ | ⟨f13,hK,fp⟩ | ⟨f13,hK,fp,hz⟩
 all_goals (
 try (have hzb:=hz0 _ hz)
 have HK:=Lib.hid hK
 clear hK
 clear hz0
 go_enter Tryz.func24,Tryz.ntmps24
 go_upto_region 29 with (fail)
 go_wp2_with (fail)
 obtain ⟨W0,hW0⟩:∃ W0,W0=(((w.alloc (.cells #[.int .i64 t,.int .i64 n,.slice A2 l2 c2,.int .i64 k,.int .i64 e,.slice A5 l5 c5,.slice A6 xs.length c6] 28)).alloc (.cells #[.int .i64 0,.int .i64 0,.slice none 0 0,.int .i64 0,.int .i64 0,.slice none 0 0,.slice none 0 0] 28)).alloc (.cells #[.int .i64 t,.int .i64 0,.slice none 0 0,.int .i64 K,.int .i64 e,.slice none 0 0,.slice none 0 0] 28)):=⟨_,rfl⟩
 have hsz:W0.heap.size=w.heap.size+1+1+1:=by rw [hW0];simp
 have HB0:=Lib.hid (show Below w.heap.size w W0 by rw [hW0];exact (((Below.refl _ w).alloc (by simp) _).alloc (by simp) _).alloc (by simp <;> omega) _)
 have HV0:=Lib.hid (show W0.heap[w.heap.size]?=some (.cells #[.int .i64 t,.int .i64 n,.slice A2 l2 c2,.int .i64 k,.int .i64 e,.slice A5 l5 c5,.slice A6 xs.length c6] 28 (0,0)) by rw [hW0];exact heap_alloc_old (heap_alloc_old (heap_alloc_new w _) _) _)
 have HR0:=Lib.hid (show W0.heap[w.heap.size+1]?=some (.cells #[.int .i64 0,.int .i64 0,.slice none 0 0,.int .i64 0,.int .i64 0,.slice none 0 0,.slice none 0 0] 28 (0,0)) by rw [hW0];exact heap_alloc_old (heap_alloc_at (by simp) _) _)
 have HO0:=Lib.hid (show W0.heap[w.heap.size+1+1]?=some (.cells #[.int .i64 t,.int .i64 0,.slice none 0 0,.int .i64 K,.int .i64 e,.slice none 0 0,.slice none 0 0] 28 (0,0)) by rw [hW0];exact heap_alloc_at (by simp) _)
 rw [HK.out] at hW0
 rw [← hW0]
 clear hW0 HK
 go_loopw [7] (fun i wr=>∃ (j:Nat) (u:Value),i=.int .i64 (j:Nat)∧j≤xs.length∧Hid (Below w.heap.size w wr)∧Hid (wr.heap[w.heap.size]?=some (.cells #[.int .i64 t,.int .i64 n,.slice A2 l2 c2,.int .i64 k,.int .i64 e,.slice A5 l5 c5,.slice A6 xs.length c6] 28 (0,0)))∧Hid (wr.heap[w.heap.size+1]?=some (.cells #[.int .i64 0,.int .i64 0,.slice none 0 0,.int .i64 0,.int .i64 0,.slice none 0 0,.slice none 0 0] 28 (0,0)))∧Hid (wr.heap[w.heap.size+1+1]?=some (.cells #[.int .i64 t,.int .i64 0,.slice none 0 0,.int .i64 K,.int .i64 e,.slice none 0 0,u] 28 (0,0)))∧Hid (RowO (fun b=>w.heap.size+1+1 < b) wr w.heap.size u (ys.take j))) (fun i _=>xs.length - (intOf i).toNat)
 case atStart=>exact ⟨0,.slice none 0 0,rfl,by omega,HB0,HV0,HR0,HO0,Lib.hid (by rw [List.take_zero];exact RowO.nil _ _ _)⟩
 case round =>
  obtain ⟨j,u,rfl,hj,HB,HV,HR,HO,HRO⟩:=hrel
  clear HB0 HV0 HR0 HO0
  have hlr:=lt_heap HO.out
  by_cases hlt:j < xs.length
  case pos =>
   have hlt':(j:Int) < (xs.length:Int):=by omega
   obtain ⟨p,hp⟩:∃ p,xs[j]?=some p:=⟨_,List.getElem?_eq_getElem hlt⟩
   obtain ⟨q,hq⟩:∃ q,ys[j]?=some q:=⟨_,List.getElem?_eq_getElem (by omega)⟩
   obtain ⟨ad,y0,y1,y2,y3,y4,y5,y6,rfl,hcs,hKp,hal⟩:=at_V HC.out j p hp
   have hKp:=Lib.hid hKp
   have hlr3:w.heap.size+1+1+1≤wr.heap.size:=by omega
   have HCX:=Lib.hid (fun W (hB:Below (w.heap.size+1+1+1) wr W)=>show W.cell? ⟨w.heap.size+1+1,6,none⟩=some u∧W.cell? ⟨w.heap.size,6,none⟩=some (.slice (some ad) xs.length c6)∧W.cell? (ad.add (j * 7))=some y0∧W.cell? ⟨(ad.add (j * 7)).block,(ad.add (j * 7)).off+1,none⟩=some y1∧W.cell? ⟨(ad.add (j * 7)).block,(ad.add (j * 7)).off+2,none⟩=some y2∧W.cell? ⟨(ad.add (j * 7)).block,(ad.add (j * 7)).off+3,none⟩=some y3∧W.cell? ⟨(ad.add (j * 7)).block,(ad.add (j * 7)).off+4,none⟩=some y4∧W.cell? ⟨(ad.add (j * 7)).block,(ad.add (j * 7)).off+5,none⟩=some y5∧W.cell? ⟨(ad.add (j * 7)).block,(ad.add (j * 7)).off+6,none⟩=some y6 from by
    obtain ⟨h0,h1,h2,h3,h4,h5,h6⟩:=hcs
    have hd:∀ o,(⟨(ad.add (j * 7)).block,o,none⟩:Addr).block < w.heap.size:=fun o=>by show (ad.add (j * 7)).block < _;rw [Lib.block_add];exact hal
    have hBw:Below w.heap.size w W:=HB.out.trans (hB.mono (by omega))
    have v6:=(cells7 ((hB.block _ (by omega)).trans HV.out)).2.2.2.2.2.2
    have o6:=(cells7 ((hB.block _ (by omega)).trans HO.out)).2.2.2.2.2.2
    exact ⟨o6,v6,(hBw.cell (by rw [Lib.block_add];exact hal)).trans h0,(hBw.cell (hd _)).trans h1,(hBw.cell (hd _)).trans h2,(hBw.cell (hd _)).trans h3,(hBw.cell (hd _)).trans h4,(hBw.cell (hd _)).trans h5,(hBw.cell (hd _)).trans h6⟩)
   clear hcs
   obtain ⟨b0,b1,b2,b3,b4,b5,b6⟩:=cells7 HV.out
   go_wp2_with (fail)
   go_upto_region 33 with (fail)
   clear b0 b1 b2 b3 b4 b5 b6
   refine start_ (n:=13) (S:=(fun W=>W.cell? ⟨w.heap.size+1+1,6,none⟩=some u∧W.cell? ⟨w.heap.size,6,none⟩=some (.slice (some ad) xs.length c6)∧W.cell? (ad.add (j * 7))=some y0∧W.cell? ⟨(ad.add (j * 7)).block,(ad.add (j * 7)).off+1,none⟩=some y1∧W.cell? ⟨(ad.add (j * 7)).block,(ad.add (j * 7)).off+2,none⟩=some y2∧W.cell? ⟨(ad.add (j * 7)).block,(ad.add (j * 7)).off+3,none⟩=some y3∧W.cell? ⟨(ad.add (j * 7)).block,(ad.add (j * 7)).off+4,none⟩=some y4∧W.cell? ⟨(ad.add (j * 7)).block,(ad.add (j * 7)).off+5,none⟩=some y5∧W.cell? ⟨(ad.add (j * 7)).block,(ad.add (j * 7)).off+6,none⟩=some y6)) (ds:=[12]) #[false,false,false,false,false,false,false,false,false,false,false,false,false] (by kernel_rfl) rfl rfl (HCX.out _ (Below.drew (Below.refl _ _))) (fun hHeld=>?_)
   refine pure_ (i:=0) (N:=(some 119)) (v:=?_) (a':=?_) #[true,false,false,false,false,false,false,false,false,false,false,false,false] rfl rfl (by kernel_rfl) (fun _ _ _ h=>h) (Or.inl ⟨by rfl,?_⟩) ?_ ?_
   rotate_left
   · intro w'
     go_simp
     with_reducible rfl
   rotate_left
   · simp only [Act.put,List.setIfInBounds_toArray,List.set_cons_zero,List.set_cons_succ]
     rfl
   refine pure_ (i:=2) (N:=(some 121)) (v:=?_) (a':=?_) #[true,false,true,false,false,false,false,false,false,false,false,false,false] rfl rfl (by kernel_rfl) (fun _ _ _ h=>h) (Or.inl ⟨by rfl,?_⟩) ?_ ?_
   rotate_left
   · intro w'
     go_simp
     with_reducible rfl
   rotate_left
   · simp only [Act.put,List.setIfInBounds_toArray,List.set_cons_zero,List.set_cons_succ]
     rfl
   refine pure_ (i:=3) (N:=(some 122)) (v:=?_) (a':=?_) #[true,false,true,true,false,false,false,false,false,false,false,false,false] rfl rfl (by kernel_rfl) (fun _ _ _ h=>h) (Or.inl ⟨by rfl,?_⟩) ?_ ?_
   rotate_left
   · intro w'
     go_simp
     with_reducible rfl
   rotate_left
   · simp only [Act.put,List.setIfInBounds_toArray,List.set_cons_zero,List.set_cons_succ]
     rfl
   refine pure_ (i:=5) (N:=(some 124)) (v:=?_) (a':=?_) #[true,false,true,true,false,true,false,false,false,false,false,false,false] rfl rfl (by kernel_rfl) (fun _ _ _ h=>h) (Or.inl ⟨by rfl,?_⟩) ?_ ?_
   rotate_left
   · intro w'
     go_simp
     with_reducible rfl
   rotate_left
   · simp only [Act.put,List.setIfInBounds_toArray,List.set_cons_zero,List.set_cons_succ]
     rfl
   refine take_ (i:=1) (N:=(some 120)) (v:=?_) (a':=?_) #[true,true,true,true,false,true,false,false,false,false,false,false,false] rfl rfl (by kernel_rfl) (fun _ _ _ h=>h) (Or.inl ⟨by rfl,?_⟩) hHeld ?_ ?_
   rotate_left
   · rintro w' ⟨s0,s1,s2,s3,s4,s5,s6,s7,s8⟩
     go_simp
     with_reducible rfl
   rotate_left
   · simp only [Act.put,List.setIfInBounds_toArray,List.set_cons_zero,List.set_cons_succ]
     rfl
   refine take_ (i:=4) (N:=(some 123)) (v:=?_) (a':=?_) #[true,true,true,true,true,true,false,false,false,false,false,false,false] rfl rfl (by kernel_rfl) (fun _ _ _ h=>h) (Or.inl ⟨by rfl,?_⟩) hHeld ?_ ?_
   rotate_left
   · rintro w' ⟨s0,s1,s2,s3,s4,s5,s6,s7,s8⟩
     go_simp
     with_reducible rfl
   rotate_left
   · simp only [Act.put,List.setIfInBounds_toArray,List.set_cons_zero,List.set_cons_succ]
     rfl
   refine take_ (i:=6) (N:=(some 125)) (v:=?_) (a':=?_) #[true,true,true,true,true,true,true,false,false,false,false,false,false] rfl rfl (by kernel_rfl) (fun _ _ _ h=>h) (Or.inl ⟨by rfl,?_⟩) hHeld ?_ ?_
   rotate_left
   · rintro w' ⟨s0,s1,s2,s3,s4,s5,s6,s7,s8⟩
     go_simp
     with_reducible rfl
   rotate_left
   · simp only [Act.put,List.setIfInBounds_toArray,List.set_cons_zero,List.set_cons_succ]
     rfl
   refine take_ (i:=7) (N:=(some 126)) (v:=?_) (a':=?_) #[true,true,true,true,true,true,true,true,false,false,false,false,false] rfl rfl (by kernel_rfl) (fun _ _ _ h=>h) (Or.inl ⟨by rfl,?_⟩) hHeld ?_ ?_
   rotate_left
   · rintro w' ⟨s0,s1,s2,s3,s4,s5,s6,s7,s8⟩
     go_simp
     with_reducible rfl
   rotate_left
   · simp only [Act.put,List.setIfInBounds_toArray,List.set_cons_zero,List.set_cons_succ]
     rfl
   refine one_ (i:=8) (N:=(some 127)) #[true,true,true,true,true,true,true,true,true,false,false,false,false] rfl rfl (by kernel_rfl) (by decide) (fun K hK=>?_)
   refine goes_ Tryz.func24 (by kernel_rfl) rfl #[.int .i64 proto,.agg #[y0,y1,y2,y3,y4,y5,y6]] (by rfl) rfl rfl (by simp only [Act.eval,List.map_toArray,List.map_cons,List.map_nil];rfl) ?_
   refine (HG.out j p q hp hq wr.drew [y0,y1,y2,y3,y4,y5,y6] HB.out.drew (kVal.K_below HB.out.drew hKp.out)).mono ?_
   rintro e1 W1 ⟨ds,rfl,hO1,hB1⟩
   obtain ⟨Z2,z2,Z5,z5,Z6,z6,rfl,-⟩:=kVal_open hO1.now
   refine ⟨_,rfl,?_⟩
   have hW1:Below (w.heap.size+1+1+1) wr W1:=(Below.drew (Below.refl _ _)).trans (hB1.mono hlr3)
   refine hK.out _ _ (HCX.out _ hW1) (fun hHeld=>?_)
   clear hK K
   refine norm_ (a':=?_) ?_ ?_
   rotate_left
   · show Act.put _ (some 127) _=_
     simp only [Act.put,List.setIfInBounds_toArray,List.set_cons_zero,List.set_cons_succ]
     rfl
   refine one_ (i:=9) (N:=(some 128)) #[true,true,true,true,true,true,true,true,true,true,false,false,false] rfl rfl (by kernel_rfl) (by decide) (fun K hK=>?_)
   refine value_ (w1:=W1.alloc (.cells #[.int .i64 q.f0,.int .i64 q.f1,.slice Z2 q.f2.length z2,.int .i64 q.f3,.int .i64 q.f4,.slice Z5 q.f5.length z5,.slice Z6 q.f6.length z6] 28)) (v:=.slice (some ⟨W1.heap.size,0,none⟩) 1 1) (by rfl) rfl (by go_simp) ?_
   have hW2:Below (w.heap.size+1+1+1) wr (W1.alloc (.cells #[.int .i64 q.f0,.int .i64 q.f1,.slice Z2 q.f2.length z2,.int .i64 q.f3,.int .i64 q.f4,.slice Z5 q.f5.length z5,.slice Z6 q.f6.length z6] 28)):=hW1.alloc (Nat.le_trans hlr3 hW1.size) _
   refine hK.out _ _ (HCX.out _ hW2) (fun hHeld=>?_)
   clear hK K
   refine norm_ (a':=?_) ?_ ?_
   rotate_left
   · show Act.put _ (some 128) _=_
     simp only [Act.put,List.setIfInBounds_toArray,List.set_cons_zero,List.set_cons_succ]
     rfl
   have hmv:=HRO.out.move (w1:=W1.alloc (.cells #[.int .i64 q.f0,.int .i64 q.f1,.slice Z2 q.f2.length z2,.int .i64 q.f3,.int .i64 q.f4,.slice Z5 q.f5.length z5,.slice Z6 q.f6.length z6] 28)) (fun b hb hlt=>(heap_alloc_same W1 _ (Nat.lt_of_lt_of_le hlt hB1.size)).trans (hB1.block b hlt)) (Nat.le_trans hB1.size (by simp))
   have hown0:=hmv
   obtain ⟨hok,inner,hown,hreps⟩:=hown0
   have hqn:u.ownBlock≠some W1.heap.size:=fun e=>by
    obtain ⟨_,i2,h2,_⟩:=HRO.out
    have h3:=own_lt h2 _ e
    have:=hB1.size
    simp at this
    omega
   refine one_ (i:=10) (N:=(some 129)) #[true,true,true,true,true,true,true,true,true,true,true,false,false] rfl rfl (by kernel_rfl) (by decide) (fun K hK=>?_)
   apply row_step (W:=W1.alloc (.cells #[.int .i64 q.f0,.int .i64 q.f1,.slice Z2 q.f2.length z2,.int .i64 q.f3,.int .i64 q.f4,.slice Z5 q.f5.length z5,.slice Z6 q.f6.length z6] 28)) (hown:=hown) (hq:=heap_alloc_new W1 _) (ds:=[.int .i64 q.f0,.int .i64 q.f1,.slice Z2 q.f2.length z2,.int .i64 q.f3,.int .i64 q.f4,.slice Z5 q.f5.length z5,.slice Z6 q.f6.length z6])
   · rfl
   · rfl
   · rfl
   · rfl
   · exact hqn
   · rfl
   · exact hone7 _ _ _ _ _ _ _ _ _ _ _ _ _
   · have:=List.length_take_le j ys;omega
   · have:=hW2.size;omega
   intro g cap w3 hown3 hgrow hat hlt3
   have hstp:=grown_step hgrow
   have hW3:Below (w.heap.size+1+1+1) wr w3:=hW2.trans (hstp.below _ (Nat.le_trans hlr3 hW2.size) (fun b hb=>by have:=hok b (Option.mem_toList.1 hb);omega))
   refine hK.out _ _ (HCX.out _ hW3) (fun hHeld=>?_)
   clear hK K
   refine norm_ (a':=?_) ?_ ?_
   rotate_left
   · show Act.put _ (some 129) _=_
     simp only [Act.put,List.setIfInBounds_toArray,List.set_cons_zero,List.set_cons_succ]
     rfl
   refine pure_ (i:=11) (N:=(some 130)) (v:=?_) (a':=?_) #[true,true,true,true,true,true,true,true,true,true,true,true,false] rfl rfl (by kernel_rfl) (fun _ _ _ h=>h) (Or.inl ⟨by rfl,?_⟩) ?_ ?_
   rotate_left
   · intro w'
     go_simp
     with_reducible rfl
   rotate_left
   · simp only [Act.put,List.setIfInBounds_toArray,List.set_cons_zero,List.set_cons_succ]
     rfl
   have ho3:=(hW3.block _ (by omega)).trans HO.out
   have fz9:=frozen_heap ho3
   have lt9:=lt_heap ho3
   obtain ⟨k0,k1,k2,k3,k4,k5,k6⟩:=cells7 ho3
   have hx1:HasO (fun b=>w.heap.size+1+1 < b∧some b≠u.ownBlock) (W1.alloc (.cells #[.int .i64 q.f0,.int .i64 q.f1,.slice Z2 q.f2.length z2,.int .i64 q.f3,.int .i64 q.f4,.slice Z5 q.f5.length z5,.slice Z6 q.f6.length z6] 28)) q [.int .i64 q.f0,.int .i64 q.f1,.slice Z2 q.f2.length z2,.int .i64 q.f3,.int .i64 q.f4,.slice Z5 q.f5.length z5,.slice Z6 q.f6.length z6] :=
    (hO1.move (w1:=W1.alloc (.cells #[.int .i64 q.f0,.int .i64 q.f1,.slice Z2 q.f2.length z2,.int .i64 q.f3,.int .i64 q.f4,.slice Z5 q.f5.length z5,.slice Z6 q.f6.length z6] 28)) (fun b _ hlt=>heap_alloc_same W1 _ hlt) (by simp)).mono (fun b hb hlt=>by
     have hb':wr.heap.size≤b:=hb
     refine ⟨by omega,fun e=>?_⟩
     obtain ⟨_,i2,h2,_⟩:=HRO.out
     have h3:=own_lt h2 b e.symm
     omega)
   have hpush:=RowO.push (ok:=fun b=>w.heap.size+1+1 < b) (x:=q) hok hreps hx1 (by have:=hW2.size;omega) hown3 hgrow hat
   have hjl:(ys.take j).length=j:=by rw [List.length_take];omega
   have htk:ys.take j++[q]=ys.take (j+1):=by rw [List.take_add_one,hq];rfl
   rw [htk,hjl] at hpush
   rw [hjl]
   have HPU:=Lib.hid hpush
   have HW3:=Lib.hid hW3
   have HO3:=Lib.hid ho3
   have hln3:=hW3.size
   clear hpush hown3 hgrow hat hown hreps hmv hok hstp hO1 hW1 hW2 hW3 ho3
   refine last_ (i:=12) (N:=none) #[true,true,true,true,true,true,true,true,true,true,true,true,true] rfl rfl (by kernel_rfl) (by decide) (fun K hK=>?_)
   refine skip_ (w1:=w3.setCell ⟨w.heap.size+1+1,6,none⟩ (.slice (some ⟨g,0,none⟩) (j+1) cap)) (by rfl) rfl (by go_simp) ?_
   refine hK.out _ _ ?_
   clear hK K
   refine done_ (by kernel_rfl) ?_
   go_wp2_with (fail)
   have hne0:w.heap.size≠w.heap.size+1+1:=by omega
   have hne1:w.heap.size+1≠w.heap.size+1+1:=by omega
   have hB9:Below w.heap.size w w3:=HB.out.trans (HW3.out.mono (by omega))
   refine ⟨⟨j+1,_,by go_num,by omega,Lib.hid (hB9.setCell (p:=⟨w.heap.size+1+1,6,none⟩) (by show _≤w.heap.size+1+1;omega) _),Lib.hid (heap_set_other ((HW3.out.block _ (by omega)).trans HV.out) hne0 _),Lib.hid (heap_set_other ((HW3.out.block _ (by omega)).trans HR.out) hne1 _),Lib.hid (by rw [heap_set_same HO3.out];rfl),Lib.hid (HPU.out.move (fun b hb hlt=>heap_set_off w3 (by show b≠w.heap.size+1+1;omega) _) (by simp))⟩,by simp [intOf];omega⟩
  case neg =>
   have e0:j=xs.length:=by omega
   subst e0
   have hlt':¬ ((xs.length:Int) < (xs.length:Int)):=by omega
   have hys:ys.take xs.length=ys:=by rw [← hlen];exact List.take_length
   have hro:=HRO.out
   rw [hys] at hro
   clear HRO
   obtain ⟨b0,b1,b2,b3,b4,b5,b6⟩:=cells7 HV.out
   obtain ⟨U,cu,hu,_,_⟩:=hro.reads
   rw [hlen] at hu
   subst hu
   have HRO:=Lib.hid hro
   clear hro
   obtain ⟨d0,d1,d2,d3,d4,d5,d6⟩:=cells7 HO.out
   obtain ⟨c0,c1,c2',c3,c4,c5',c6'⟩:=cells7 HR.out
   have f1:=frozen_heap HR.out
   have l1:=lt_heap HR.out
   go_wp2
   obtain ⟨W6,e2,h6,hs6⟩:=set7 HR.out (.int .i64 t) (.int .i64 0) (.slice none 0 0) (.int .i64 K) (.int .i64 e) (.slice none 0 0) (.slice U xs.length cu)
   rw [e2]
   obtain ⟨r0,r1,r2,r3,r4,r5,r6⟩:=cells7 h6
   refine bodyPost_ret (v:=.agg #[.int .i64 t,.int .i64 0,.slice none 0 0,.int .i64 K,.int .i64 e,.slice none 0 0,.slice U xs.length cu]) (by simp [results,Tryz.results24,go_sem, *]) rfl ?_
   have hB6:=HB.out.trans (hs6.below w.heap.size HB.out.size (fun b hb=>by simp only [List.mem_cons,List.not_mem_nil,or_false] at hb;omega))
   have hval:=(HRO.out.move (w1:=W6) (fun b hb hl=>hs6.block b hl (by simp only [List.mem_cons,List.not_mem_nil,or_false];omega)) hs6.size).val t (K) (e)
   have hval2:HasO (fun b=>w.heap.size+1+1 < b) W6 ⟨t,0,[],K,e,[],ys⟩ [.int .i64 t,.int .i64 0,.slice none 0 0,.int .i64 K,.int .i64 e,.slice none 0 0,.slice U xs.length cu]:=by
    exact hval
   exact ⟨_,rfl,hval2.mono (fun b hb _=>by omega),hB6⟩)

theorem plain_map00 (n k e:Int) (A2 A5 A6:Option Addr) (l2 c2 l5 c5 c6:Nat) (w:World) :
    Calls Tryz.prog 24 #[.int .i64 1,.agg #[.int .i64 13,.int .i64 n,.slice A2 l2 c2,.int .i64 k,.int .i64 e,.slice A5 l5 c5,.slice A6 0 c6]] w (PlainV ⟨13,0,[],0,0,[],[]⟩ w):=by
  go_enter Tryz.func24,Tryz.ntmps24
  go_upto_region 29 with (fail)
  go_wp2_with (fail)
  refine wp_loop_rounds 1 ?_
  rw [rounds_succ]
  go_wp2_with (fail)
  have hB:Below w.heap.size w (((w.alloc (.cells #[.int .i64 13,.int .i64 n,.slice A2 l2 c2,.int .i64 k,.int .i64 e,.slice A5 l5 c5,.slice A6 0 c6] 28)).alloc (.cells #[.int .i64 13,.int .i64 0,.slice none 0 0,.int .i64 0,.int .i64 0,.slice none 0 0,.slice none 0 0] 28)).alloc (.cells #[.int .i64 13,.int .i64 0,.slice none 0 0,.int .i64 0,.int .i64 0,.slice none 0 0,.slice none 0 0] 28)):=(((Below.refl _ w).alloc (by simp) _).alloc (by simp) _).alloc (by simp <;> omega) _
  obtain ⟨r0,r1,r2,r3,r4,r5,r6⟩:=cells7 (show (((w.alloc (.cells #[.int .i64 13,.int .i64 n,.slice A2 l2 c2,.int .i64 k,.int .i64 e,.slice A5 l5 c5,.slice A6 0 c6] 28)).alloc (.cells #[.int .i64 13,.int .i64 0,.slice none 0 0,.int .i64 0,.int .i64 0,.slice none 0 0,.slice none 0 0] 28)).alloc (.cells #[.int .i64 13,.int .i64 0,.slice none 0 0,.int .i64 0,.int .i64 0,.slice none 0 0,.slice none 0 0] 28)).heap[w.heap.size+1]?=some (.cells #[.int .i64 13,.int .i64 0,.slice none 0 0,.int .i64 0,.int .i64 0,.slice none 0 0,.slice none 0 0] 28 (0,0)) from heap_alloc_old (heap_alloc_at (by simp) _) _)
  refine bodyPost_ret (v:=.agg #[.int .i64 13,.int .i64 0,.slice none 0 0,.int .i64 0,.int .i64 0,.slice none 0 0,.slice none 0 0]) (by simp [results,Tryz.results24,go_sem, *]) rfl ?_
  exact ⟨[.int .i64 13,.int .i64 0,.slice none 0 0,.int .i64 0,.int .i64 0,.slice none 0 0,.slice none 0 0],rfl,HasO.num hB.size _ _,hB⟩

theorem plain_map0 (proto n k e:Int) (xs ys:List Val) (A2 A5 A6:Option Addr) (l2 c2 l5 c5 c6:Nat) (w:World) (hpr:proto=1) (hz:xs.length=0) (hlen:ys.length=xs.length) :
    Calls Tryz.prog 24 #[.int .i64 proto,.agg #[.int .i64 13,.int .i64 n,.slice A2 l2 c2,.int .i64 k,.int .i64 e,.slice A5 l5 c5,.slice A6 xs.length c6]] w (PlainV ⟨13,0,[],0,0,[],ys⟩ w):=by
  subst hpr
  obtain rfl:xs=[]:=List.eq_nil_of_length_eq_zero hz
  obtain rfl:ys=[]:=List.eq_nil_of_length_eq_zero (by simpa using hlen)
  exact plain_map00 n k e A2 A5 A6 l2 c2 l5 c5 c6 w

end Go.Proofs.YtmjcnomgpikncaaGreatDoor

namespace Go.Proofs.YtmjcnomgpikncaaGreatDoor

open Go.RowKit Go.Deep



open Go.Proofs.YtmjcnomgpikncaaGreatDoorW.PrintWords Go.Proofs.YtmjcnomgpikncaaGreatDoorW.PrintLast Go.Proofs.YtmjcnomgpikncaaGreatDoorW.PrintMore

section

variable {ops:Array Oper} {o:Oper} {a:Act} {K:Act→World→Prop} {Q:Exit→Act→World→Prop} {E:Prop} {W:World} {base n q:Nat} {u:Value} {inner:List Value}

theorem row_stepI {x0:Int} (hg:o.guard=none) (s x:Operand) (hop:o.op=.call { callee:=.builtin .append,args:=#[s,x],argTypes:=#[25,25] }) (hs:a.eval s=u) (hx:a.eval x=.slice (some ⟨q,0,none⟩) 1 1)
    (hown:W.ownsRow base 3 1 u n inner) (hq:W.heap[q]?=some (.cells #[.int .i64 x0] 3 (0,0))) (hqn:u.ownBlock≠some q) (hn:n < 1000000000) (hb:base≤W.heap.size)
    (hK:∀ g cap w1,w1.ownsRow base 3 1 (.slice (some ⟨g,0,none⟩) (n+1) cap) (n+1) (inner++[.int .i64 x0])→W.grownBy w1 u.ownBlock→(u.ownBlock=some g∨g=W.heap.size)→g < w1.heap.size→K (a.put o.dst (.slice (some ⟨g,0,none⟩) (n+1) cap)) w1) :
    if Region.wanted o (yielded ops a.tmps)=true then Oper.wp Tryz.prog o a W K Q else E:=by
  obtain ⟨i0,hi,hz0,hz1,hz2⟩:=info_parts infoInt
  refine step_append_lies W hg s x 25 hop base 3 i0 (.int .i64 0) 1 8 Tryz.underlying25 hi hz0 hz1 hz2 rfl (by omega) u n inner hs hown ⟨q,0,none⟩ 1 1 [.int .i64 x0] hx rfl (World.news_of_block (cs:=#[.int .i64 x0]) hq) (fun v hv=>by simp at hv;subst hv;rfl) (by omega) (by unfold maxLen;omega) (by omega) (by omega) W.heap.size rfl ?_
  intro g cap w1 hown1 hgrow hat hlt
  exact hK g cap w1 hown1 hgrow hat hlt

end

set_option maxRecDepth 100000 in
set_option maxHeartbeats 2000000 in
theorem plain_struct (proto n k e:Int) (ids:List Int) (xs ys:List Val) (A2 A5 A6:Option Addr) (l2 c2 c5 c6:Nat) (w:World) (hl:xs.length≤65536) (hli:ids.length≤65536) (hC5:(Kd.int .i64).C w A5 ids.length ids) (hc5:ids.length≤c5) (hC:kVal.C w A6 xs.length xs) (hc:xs.length≤c6) (hlen:ys.length=xs.length)
 (hG:∀ (j:Nat) (p q:Val),xs[j]?=some p→ys[j]?=some q→∀ W cs,Below w.heap.size w W→kVal.K W p cs→Calls Tryz.prog 24 #[.int .i64 proto,.agg cs.toArray] W (PlainV q W)) :
 Calls Tryz.prog 24 #[.int .i64 proto,.agg #[.int .i64 12,.int .i64 n,.slice A2 l2 c2,.int .i64 k,.int .i64 e,.slice A5 ids.length c5,.slice A6 xs.length c6]] w (PlainV ⟨12,0,[],0,0,ids.map w16,ys⟩ w):=by
 have HG:=Lib.hid hG
 have HC:=Lib.hid hC
 have HC5:=Lib.hid hC5
 have hwy:∀ y:Int,IntKind.i64.wrap (IntKind.i16.wrap y)=w16 y:=fun y=>by rw [wrap_i16,IntKind.wrap_i64];unfold w16;omega
 have hwz:∀ y:Int,wrap64 (IntKind.i16.wrap y)=w16 y:=fun y=>by rw [wrap_i16];unfold wrap64 w16;omega
 clear hG hC hC5
 go_enter Tryz.func24,Tryz.ntmps24
 go_wp2_with (fail)
 obtain ⟨W0,hW0⟩:∃ W0,W0=(((w.alloc (.cells #[.int .i64 12,.int .i64 n,.slice A2 l2 c2,.int .i64 k,.int .i64 e,.slice A5 ids.length c5,.slice A6 xs.length c6] 28)).alloc (.cells #[.int .i64 0,.int .i64 0,.slice none 0 0,.int .i64 0,.int .i64 0,.slice none 0 0,.slice none 0 0] 28)).alloc (.cells #[.int .i64 12,.int .i64 0,.slice none 0 0,.int .i64 0,.int .i64 0,.slice none 0 0,.slice none 0 0] 28)):=⟨_,rfl⟩
 have hsz:W0.heap.size=w.heap.size+1+1+1:=by rw [hW0];simp
 have HB0:=Lib.hid (show Below w.heap.size w W0 by rw [hW0];exact (((Below.refl _ w).alloc (by simp) _).alloc (by simp) _).alloc (by simp <;> omega) _)
 have HV0:=Lib.hid (show W0.heap[w.heap.size]?=some (.cells #[.int .i64 12,.int .i64 n,.slice A2 l2 c2,.int .i64 k,.int .i64 e,.slice A5 ids.length c5,.slice A6 xs.length c6] 28 (0,0)) by rw [hW0];exact heap_alloc_old (heap_alloc_old (heap_alloc_new w _) _) _)
 have HR0:=Lib.hid (show W0.heap[w.heap.size+1]?=some (.cells #[.int .i64 0,.int .i64 0,.slice none 0 0,.int .i64 0,.int .i64 0,.slice none 0 0,.slice none 0 0] 28 (0,0)) by rw [hW0];exact heap_alloc_old (heap_alloc_at (by simp) _) _)
 have HO0:=Lib.hid (show W0.heap[w.heap.size+1+1]?=some (.cells #[.int .i64 12,.int .i64 0,.slice none 0 0,.int .i64 0,.int .i64 0,.slice none 0 0,.slice none 0 0] 28 (0,0)) by rw [hW0];exact heap_alloc_at (by simp) _)
 rw [← hW0]
 clear hW0
 go_loopw [6] (fun i wr=>∃ (j:Nat) (u:Value),i=.int .i64 (j:Nat)∧j≤ids.length∧Hid (Below w.heap.size w wr)∧Hid (wr.heap[w.heap.size]?=some (.cells #[.int .i64 12,.int .i64 n,.slice A2 l2 c2,.int .i64 k,.int .i64 e,.slice A5 ids.length c5,.slice A6 xs.length c6] 28 (0,0)))∧Hid (wr.heap[w.heap.size+1]?=some (.cells #[.int .i64 0,.int .i64 0,.slice none 0 0,.int .i64 0,.int .i64 0,.slice none 0 0,.slice none 0 0] 28 (0,0)))∧Hid (wr.heap[w.heap.size+1+1]?=some (.cells #[.int .i64 12,.int .i64 0,.slice none 0 0,.int .i64 0,.int .i64 0,u,.slice none 0 0] 28 (0,0)))∧Hid (RowI (fun b=>w.heap.size+1+1 < b) wr w.heap.size u ((ids.take j).map w16))) (fun i _=>ids.length - (intOf i).toNat)
 case atStart=>exact ⟨0,.slice none 0 0,rfl,by omega,HB0,HV0,HR0,HO0,Lib.hid (by rw [List.take_zero];exact RowI.nil _ _ _)⟩
 case round =>
  obtain ⟨j,u,rfl,hj,HB,HV,HR,HO,HRI⟩:=hrel
  clear HB0 HV0 HR0 HO0
  have hlr:=lt_heap HO.out
  by_cases hlt:j < ids.length
  case pos =>
   have hlt':(j:Int) < (ids.length:Int):=by omega
   obtain ⟨y,hp⟩:∃ y,ids[j]?=some y:=⟨_,List.getElem?_eq_getElem hlt⟩
   obtain ⟨ad,rfl,hcs,hal⟩:=at_I HC5.out j y hp
   have hlr3:w.heap.size+1+1+1≤wr.heap.size:=by omega
   have HCX:=Lib.hid (fun W (hB:Below (w.heap.size+1+1+1) wr W)=>show W.cell? ⟨w.heap.size+1+1,5,none⟩=some u∧W.cell? ⟨w.heap.size,5,none⟩=some (.slice (some ad) ids.length c5)∧W.cell? (ad.add j)=some (.int .i64 y) from by
    have hBw:Below w.heap.size w W:=HB.out.trans (hB.mono (by omega))
    have v6:=(cells7 ((hB.block _ (by omega)).trans HV.out)).2.2.2.2.2.1
    have o6:=(cells7 ((hB.block _ (by omega)).trans HO.out)).2.2.2.2.2.1
    exact ⟨o6,v6,(hBw.cell (by rw [Lib.block_add];exact hal)).trans hcs⟩)
   clear hcs
   obtain ⟨b0,b1,b2,b3,b4,b5,b6⟩:=cells7 HV.out
   go_wp2_with (fail)
   go_upto_region 28 with (fail)
   clear b0 b1 b2 b3 b4 b5 b6
   refine start_ (n:=13) (S:=(fun W=>W.cell? ⟨w.heap.size+1+1,5,none⟩=some u∧W.cell? ⟨w.heap.size,5,none⟩=some (.slice (some ad) ids.length c5)∧W.cell? (ad.add j)=some (.int .i64 y))) (ds:=[12]) #[false,false,false,false,false,false,false,false,false,false,false,false,false] (by kernel_rfl) rfl rfl (HCX.out _ (Below.drew (Below.refl _ _))) (fun hHeld=>?_)
   refine pure_ (i:=0) (N:=(some 92)) (v:=?_) (a':=?_) #[true,false,false,false,false,false,false,false,false,false,false,false,false] rfl rfl (by kernel_rfl) (fun _ _ _ h=>h) (Or.inl ⟨by rfl,?_⟩) ?_ ?_
   rotate_left
   · intro w'
     go_simp
     with_reducible rfl
   rotate_left
   · simp only [Act.put,List.setIfInBounds_toArray,List.set_cons_zero,List.set_cons_succ]
     rfl
   refine pure_ (i:=2) (N:=(some 94)) (v:=?_) (a':=?_) #[true,false,true,false,false,false,false,false,false,false,false,false,false] rfl rfl (by kernel_rfl) (fun _ _ _ h=>h) (Or.inl ⟨by rfl,?_⟩) ?_ ?_
   rotate_left
   · intro w'
     go_simp
     with_reducible rfl
   rotate_left
   · simp only [Act.put,List.setIfInBounds_toArray,List.set_cons_zero,List.set_cons_succ]
     rfl
   refine pure_ (i:=4) (N:=(some 96)) (v:=?_) (a':=?_) #[true,false,true,false,true,false,false,false,false,false,false,false,false] rfl rfl (by kernel_rfl) (fun _ _ _ h=>h) (Or.inl ⟨by rfl,?_⟩) ?_ ?_
   rotate_left
   · intro w'
     go_simp
     with_reducible rfl
   rotate_left
   · simp only [Act.put,List.setIfInBounds_toArray,List.set_cons_zero,List.set_cons_succ]
     rfl
   refine take_ (i:=1) (N:=(some 93)) (v:=?_) (a':=?_) #[true,true,true,false,true,false,false,false,false,false,false,false,false] rfl rfl (by kernel_rfl) (fun _ _ _ h=>h) (Or.inl ⟨by rfl,?_⟩) hHeld ?_ ?_
   rotate_left
   · rintro w' ⟨s0,s1,s2⟩
     go_simp
     with_reducible rfl
   rotate_left
   · simp only [Act.put,List.setIfInBounds_toArray,List.set_cons_zero,List.set_cons_succ]
     rfl
   refine take_ (i:=3) (N:=(some 95)) (v:=?_) (a':=?_) #[true,true,true,true,true,false,false,false,false,false,false,false,false] rfl rfl (by kernel_rfl) (fun _ _ _ h=>h) (Or.inl ⟨by rfl,?_⟩) hHeld ?_ ?_
   rotate_left
   · rintro w' ⟨s0,s1,s2⟩
     go_simp
     with_reducible rfl
   rotate_left
   · simp only [Act.put,List.setIfInBounds_toArray,List.set_cons_zero,List.set_cons_succ]
     rfl
   refine take_ (i:=5) (N:=(some 97)) (v:=?_) (a':=?_) #[true,true,true,true,true,true,false,false,false,false,false,false,false] rfl rfl (by kernel_rfl) (fun _ _ _ h=>h) (Or.inl ⟨by rfl,?_⟩) hHeld ?_ ?_
   rotate_left
   · rintro w' ⟨s0,s1,s2⟩
     go_simp
     with_reducible rfl
   rotate_left
   · simp only [Act.put,List.setIfInBounds_toArray,List.set_cons_zero,List.set_cons_succ]
     rfl
   refine take_ (i:=6) (N:=(some 98)) (v:=?_) (a':=?_) #[true,true,true,true,true,true,true,false,false,false,false,false,false] rfl rfl (by kernel_rfl) (fun _ _ _ h=>h) (Or.inl ⟨by rfl,?_⟩) hHeld ?_ ?_
   rotate_left
   · rintro w' ⟨s0,s1,s2⟩
     go_simp
     with_reducible rfl
   rotate_left
   · simp only [Act.put,List.setIfInBounds_toArray,List.set_cons_zero,List.set_cons_succ]
     rfl
   refine pure_ (i:=7) (N:=(some 99)) (v:=?_) (a':=?_) #[true,true,true,true,true,true,true,true,false,false,false,false,false] rfl rfl (by kernel_rfl) (fun _ _ _ h=>h) (Or.inl ⟨by rfl,?_⟩) ?_ ?_
   rotate_left
   · intro w'
     go_simp
     with_reducible rfl
   rotate_left
   · simp only [Act.put,List.setIfInBounds_toArray,List.set_cons_zero,List.set_cons_succ]
     rfl
   refine pure_ (i:=8) (N:=(some 100)) (v:=?_) (a':=?_) #[true,true,true,true,true,true,true,true,true,false,false,false,false] rfl rfl (by kernel_rfl) (fun _ _ _ h=>h) (Or.inl ⟨by rfl,?_⟩) ?_ ?_
   rotate_left
   · intro w'
     go_simp
     with_reducible rfl
   rotate_left
   · simp only [Act.put,List.setIfInBounds_toArray,List.set_cons_zero,List.set_cons_succ]
     rfl
   refine one_ (i:=9) (N:=(some 101)) #[true,true,true,true,true,true,true,true,true,true,false,false,false] rfl rfl (by kernel_rfl) (by decide) (fun K hK=>?_)
   refine value_ (w1:=(wr.alloc (.cells #[.int .i64 (w16 y)] 3)).drew) (v:=.slice (some ⟨wr.heap.size,0,none⟩) 1 1) (by rfl) rfl (by go_simp) ?_
   have hW2:Below (w.heap.size+1+1+1) wr (wr.alloc (.cells #[.int .i64 (w16 y)] 3)).drew:=((Below.refl _ wr).alloc hlr3 _).drew
   refine hK.out _ _ (HCX.out _ hW2) (fun hHeld=>?_)
   clear hK K
   refine norm_ (a':=?_) ?_ ?_
   rotate_left
   · show Act.put _ (some 101) _=_
     simp only [Act.put,List.setIfInBounds_toArray,List.set_cons_zero,List.set_cons_succ]
     rfl
   obtain ⟨hok,hown⟩:=HRI.out.move (w1:=(wr.alloc (.cells #[.int .i64 (w16 y)] 3)).drew) (fun b hb hlt=>heap_alloc_same wr _ hlt)
   have hqn:u.ownBlock≠some wr.heap.size:=fun e=>Nat.lt_irrefl _ (own_lt HRI.out.2 _ e)
   refine one_ (i:=10) (N:=(some 102)) #[true,true,true,true,true,true,true,true,true,true,true,false,false] rfl rfl (by kernel_rfl) (by decide) (fun K hK=>?_)
   apply row_stepI (W:=(wr.alloc (.cells #[.int .i64 (w16 y)] 3)).drew) (hown:=hown) (hq:=heap_alloc_new wr _) (x0:=w16 y)
   · rfl
   · rfl
   · rfl
   · rfl
   · exact hqn
   · rw [List.length_map];have:=List.length_take_le j ids;omega
   · have:=hW2.size;omega
   intro g cap w3 hown3 hgrow hat hlt3
   have hstp:=grown_step hgrow
   have hW3:Below (w.heap.size+1+1+1) wr w3:=hW2.trans (hstp.below _ (Nat.le_trans hlr3 hW2.size) (fun b hb=>by have:=hok b (Option.mem_toList.1 hb);omega))
   refine hK.out _ _ (HCX.out _ hW3) (fun hHeld=>?_)
   clear hK K
   refine norm_ (a':=?_) ?_ ?_
   rotate_left
   · show Act.put _ (some 102) _=_
     simp only [Act.put,List.setIfInBounds_toArray,List.set_cons_zero,List.set_cons_succ]
     rfl
   refine pure_ (i:=11) (N:=(some 103)) (v:=?_) (a':=?_) #[true,true,true,true,true,true,true,true,true,true,true,true,false] rfl rfl (by kernel_rfl) (fun _ _ _ h=>h) (Or.inl ⟨by rfl,?_⟩) ?_ ?_
   rotate_left
   · intro w'
     go_simp
     with_reducible rfl
   rotate_left
   · simp only [Act.put,List.setIfInBounds_toArray,List.set_cons_zero,List.set_cons_succ]
     rfl
   have ho3:=(hW3.block _ (by omega)).trans HO.out
   have fz9:=frozen_heap ho3
   have lt9:=lt_heap ho3
   obtain ⟨k0,k1,k2,k3,k4,k5,k6⟩:=cells7 ho3
   have hjl:((ids.take j).map w16).length=j:=by rw [List.length_map,List.length_take];omega
   have htk:(ids.take j).map w16++[w16 y]=(ids.take (j+1)).map w16:=by rw [List.take_add_one,hp,List.map_append];rfl
   have hpush:RowI (fun b=>w.heap.size+1+1 < b) w3 w.heap.size (.slice (some ⟨g,0,none⟩) (j+1) cap) ((ids.take (j+1)).map w16):=by
    refine ⟨fun b hb=>?_,?_⟩
    · have e:g=b:=by simpa [Value.ownBlock] using hb
      subst e
      rcases hat with h | h
      · exact hok _ h
      · show w.heap.size+1+1 < g
        rw [h]
        have:=hW2.size
        omega
    · rw [← htk,List.length_append,hjl]
      rw [hjl] at hown3
      have e2:encs (Value.int .i64) ((ids.take j).map w16++[w16 y])=encs (Value.int .i64) ((ids.take j).map w16)++[.int .i64 (w16 y)]:=by simp [encs]
      rw [e2]
      exact hown3
   rw [hjl]
   have HPU:=Lib.hid hpush
   have HW3:=Lib.hid hW3
   have HO3:=Lib.hid ho3
   have hln3:=hW3.size
   clear hpush hown3 hgrow hat hown hok hstp hW2 hW3 ho3
   refine last_ (i:=12) (N:=none) #[true,true,true,true,true,true,true,true,true,true,true,true,true] rfl rfl (by kernel_rfl) (by decide) (fun K hK=>?_)
   refine skip_ (w1:=w3.setCell ⟨w.heap.size+1+1,5,none⟩ (.slice (some ⟨g,0,none⟩) (j+1) cap)) (by rfl) rfl (by go_simp) ?_
   refine hK.out _ _ ?_
   clear hK K
   refine done_ (by kernel_rfl) ?_
   go_wp2_with (fail)
   have hne0:w.heap.size≠w.heap.size+1+1:=by omega
   have hne1:w.heap.size+1≠w.heap.size+1+1:=by omega
   have hB9:Below w.heap.size w w3:=HB.out.trans (HW3.out.mono (by omega))
   refine ⟨⟨j+1,_,by go_num,by omega,Lib.hid (hB9.setCell (p:=⟨w.heap.size+1+1,5,none⟩) (by show _≤w.heap.size+1+1;omega) _),Lib.hid (heap_set_other ((HW3.out.block _ (by omega)).trans HV.out) hne0 _),Lib.hid (heap_set_other ((HW3.out.block _ (by omega)).trans HR.out) hne1 _),Lib.hid (by rw [heap_set_same HO3.out];rfl),Lib.hid (HPU.out.move (fun b hb hlt=>heap_set_off w3 (by show b≠w.heap.size+1+1;omega) _))⟩,by simp [intOf];omega⟩
  case neg =>
  have e0:j=ids.length:=by omega
  subst e0
  have hlt':¬ ((ids.length:Int) < (ids.length:Int)):=by omega
  have hri:=HRI.out
  rw [show ids.take ids.length=ids from List.take_length] at hri
  clear HRI
  obtain ⟨hok5,hown5⟩:=hri
  obtain ⟨U5,cu5,hu5⟩:∃ U5 cu5,u=.slice U5 (ids.map w16).length cu5:=by
   have h0:(Kd.int .i64).R 3 wr w.heap.size (fun b=>w.heap.size+1+1 < b) u (ids.map w16):=Kd.R_of_own hown5 hok5
   obtain ⟨A,c,h1,-⟩:=Kd.R_reads h0
   exact ⟨A,c,h1⟩
  rw [List.length_map] at hu5
  subst hu5
  have HRI:=Lib.hid (show RowI (fun b=>w.heap.size+1+1 < b) wr w.heap.size (.slice U5 ids.length cu5) (ids.map w16) from ⟨hok5,hown5⟩)
  clear hok5 hown5
  obtain ⟨b0,b1,b2,b3,b4,b5,b6⟩:=cells7 HV.out
  obtain ⟨WI,hWI⟩:∃ WI,WI=wr:=⟨_,rfl⟩
  have HRI:=Lib.hid (show RowI (fun b=>w.heap.size+1+1 < b) WI w.heap.size (.slice U5 ids.length cu5) (ids.map w16) from by rw [hWI];exact HRI.out)
  have hsI:w.heap.size+1+1+1≤WI.heap.size:=by rw [hWI];omega
  have HB1:=HB
  have HV1:=HV
  have HR1:=HR
  have HO1:=HO
  go_wp2_with (fail)
  clear HB HV HR HO b0 b1 b2 b3 b4 b5 b6
  go_loopw [7] (fun i wr=>∃ (j:Nat) (u:Value),i=.int .i64 (j:Nat)∧j≤xs.length∧Hid (Below w.heap.size w wr)∧Hid (wr.heap[w.heap.size]?=some (.cells #[.int .i64 12,.int .i64 n,.slice A2 l2 c2,.int .i64 k,.int .i64 e,.slice A5 ids.length c5,.slice A6 xs.length c6] 28 (0,0)))∧Hid (wr.heap[w.heap.size+1]?=some (.cells #[.int .i64 0,.int .i64 0,.slice none 0 0,.int .i64 0,.int .i64 0,.slice none 0 0,.slice none 0 0] 28 (0,0)))∧Hid (wr.heap[w.heap.size+1+1]?=some (.cells #[.int .i64 12,.int .i64 0,.slice none 0 0,.int .i64 0,.int .i64 0,.slice U5 ids.length cu5,u] 28 (0,0)))∧Hid (∀ b,b < WI.heap.size→b≠w.heap.size+1+1→wr.heap[b]?=WI.heap[b]?)∧Hid (WI.heap.size≤wr.heap.size)∧Hid (RowO (fun b=>WI.heap.size≤b) wr w.heap.size u (ys.take j))) (fun i _=>xs.length - (intOf i).toNat)
  case atStart=>exact ⟨0,.slice none 0 0,rfl,by omega,HB1,HV1,HR1,HO1,Lib.hid (fun b _ _=>by rw [hWI]),Lib.hid (by rw [hWI];exact Nat.le_refl _),Lib.hid (by rw [List.take_zero];exact RowO.nil _ _ _)⟩
  case round =>
  obtain ⟨j,u,rfl,hj,HB,HV,HR,HO,HKP,HSI,HRO⟩:=hrel
  have hsI2:=HSI.out
  clear HB1 HV1 HR1 HO1 hWI hlr
  have hlr:=lt_heap HO.out
  by_cases hlt:j < xs.length
  case pos =>
   have hlt':(j:Int) < (xs.length:Int):=by omega
   obtain ⟨p,hp⟩:∃ p,xs[j]?=some p:=⟨_,List.getElem?_eq_getElem hlt⟩
   obtain ⟨q,hq⟩:∃ q,ys[j]?=some q:=⟨_,List.getElem?_eq_getElem (by omega)⟩
   obtain ⟨ad,y0,y1,y2,y3,y4,y5,y6,rfl,hcs,hKp,hal⟩:=at_V HC.out j p hp
   have hKp:=Lib.hid hKp
   have hlr3:w.heap.size+1+1+1≤wr.heap.size:=by omega
   have HCX:=Lib.hid (fun W (hB:Below (w.heap.size+1+1+1) wr W)=>show W.cell? ⟨w.heap.size+1+1,6,none⟩=some u∧W.cell? ⟨w.heap.size,6,none⟩=some (.slice (some ad) xs.length c6)∧W.cell? (ad.add (j * 7))=some y0∧W.cell? ⟨(ad.add (j * 7)).block,(ad.add (j * 7)).off+1,none⟩=some y1∧W.cell? ⟨(ad.add (j * 7)).block,(ad.add (j * 7)).off+2,none⟩=some y2∧W.cell? ⟨(ad.add (j * 7)).block,(ad.add (j * 7)).off+3,none⟩=some y3∧W.cell? ⟨(ad.add (j * 7)).block,(ad.add (j * 7)).off+4,none⟩=some y4∧W.cell? ⟨(ad.add (j * 7)).block,(ad.add (j * 7)).off+5,none⟩=some y5∧W.cell? ⟨(ad.add (j * 7)).block,(ad.add (j * 7)).off+6,none⟩=some y6 from by
    obtain ⟨h0,h1,h2,h3,h4,h5,h6⟩:=hcs
    have hd:∀ o,(⟨(ad.add (j * 7)).block,o,none⟩:Addr).block < w.heap.size:=fun o=>by show (ad.add (j * 7)).block < _;rw [Lib.block_add];exact hal
    have hBw:Below w.heap.size w W:=HB.out.trans (hB.mono (by omega))
    have v6:=(cells7 ((hB.block _ (by omega)).trans HV.out)).2.2.2.2.2.2
    have o6:=(cells7 ((hB.block _ (by omega)).trans HO.out)).2.2.2.2.2.2
    exact ⟨o6,v6,(hBw.cell (by rw [Lib.block_add];exact hal)).trans h0,(hBw.cell (hd _)).trans h1,(hBw.cell (hd _)).trans h2,(hBw.cell (hd _)).trans h3,(hBw.cell (hd _)).trans h4,(hBw.cell (hd _)).trans h5,(hBw.cell (hd _)).trans h6⟩)
   clear hcs
   obtain ⟨b0,b1,b2,b3,b4,b5,b6⟩:=cells7 HV.out
   go_wp2_with (fail)
   go_upto_region 33 with (fail)
   clear b0 b1 b2 b3 b4 b5 b6
   refine start_ (n:=13) (S:=(fun W=>W.cell? ⟨w.heap.size+1+1,6,none⟩=some u∧W.cell? ⟨w.heap.size,6,none⟩=some (.slice (some ad) xs.length c6)∧W.cell? (ad.add (j * 7))=some y0∧W.cell? ⟨(ad.add (j * 7)).block,(ad.add (j * 7)).off+1,none⟩=some y1∧W.cell? ⟨(ad.add (j * 7)).block,(ad.add (j * 7)).off+2,none⟩=some y2∧W.cell? ⟨(ad.add (j * 7)).block,(ad.add (j * 7)).off+3,none⟩=some y3∧W.cell? ⟨(ad.add (j * 7)).block,(ad.add (j * 7)).off+4,none⟩=some y4∧W.cell? ⟨(ad.add (j * 7)).block,(ad.add (j * 7)).off+5,none⟩=some y5∧W.cell? ⟨(ad.add (j * 7)).block,(ad.add (j * 7)).off+6,none⟩=some y6)) (ds:=[12]) #[false,false,false,false,false,false,false,false,false,false,false,false,false] (by kernel_rfl) rfl rfl (HCX.out _ (Below.drew (Below.refl _ _))) (fun hHeld=>?_)
   refine pure_ (i:=0) (N:=(some 119)) (v:=?_) (a':=?_) #[true,false,false,false,false,false,false,false,false,false,false,false,false] rfl rfl (by kernel_rfl) (fun _ _ _ h=>h) (Or.inl ⟨by rfl,?_⟩) ?_ ?_
   rotate_left
   · intro w'
     go_simp
     with_reducible rfl
   rotate_left
   · simp only [Act.put,List.setIfInBounds_toArray,List.set_cons_zero,List.set_cons_succ]
     rfl
   refine pure_ (i:=2) (N:=(some 121)) (v:=?_) (a':=?_) #[true,false,true,false,false,false,false,false,false,false,false,false,false] rfl rfl (by kernel_rfl) (fun _ _ _ h=>h) (Or.inl ⟨by rfl,?_⟩) ?_ ?_
   rotate_left
   · intro w'
     go_simp
     with_reducible rfl
   rotate_left
   · simp only [Act.put,List.setIfInBounds_toArray,List.set_cons_zero,List.set_cons_succ]
     rfl
   refine pure_ (i:=3) (N:=(some 122)) (v:=?_) (a':=?_) #[true,false,true,true,false,false,false,false,false,false,false,false,false] rfl rfl (by kernel_rfl) (fun _ _ _ h=>h) (Or.inl ⟨by rfl,?_⟩) ?_ ?_
   rotate_left
   · intro w'
     go_simp
     with_reducible rfl
   rotate_left
   · simp only [Act.put,List.setIfInBounds_toArray,List.set_cons_zero,List.set_cons_succ]
     rfl
   refine pure_ (i:=5) (N:=(some 124)) (v:=?_) (a':=?_) #[true,false,true,true,false,true,false,false,false,false,false,false,false] rfl rfl (by kernel_rfl) (fun _ _ _ h=>h) (Or.inl ⟨by rfl,?_⟩) ?_ ?_
   rotate_left
   · intro w'
     go_simp
     with_reducible rfl
   rotate_left
   · simp only [Act.put,List.setIfInBounds_toArray,List.set_cons_zero,List.set_cons_succ]
     rfl
   refine take_ (i:=1) (N:=(some 120)) (v:=?_) (a':=?_) #[true,true,true,true,false,true,false,false,false,false,false,false,false] rfl rfl (by kernel_rfl) (fun _ _ _ h=>h) (Or.inl ⟨by rfl,?_⟩) hHeld ?_ ?_
   rotate_left
   · rintro w' ⟨s0,s1,s2,s3,s4,s5,s6,s7,s8⟩
     go_simp
     with_reducible rfl
   rotate_left
   · simp only [Act.put,List.setIfInBounds_toArray,List.set_cons_zero,List.set_cons_succ]
     rfl
   refine take_ (i:=4) (N:=(some 123)) (v:=?_) (a':=?_) #[true,true,true,true,true,true,false,false,false,false,false,false,false] rfl rfl (by kernel_rfl) (fun _ _ _ h=>h) (Or.inl ⟨by rfl,?_⟩) hHeld ?_ ?_
   rotate_left
   · rintro w' ⟨s0,s1,s2,s3,s4,s5,s6,s7,s8⟩
     go_simp
     with_reducible rfl
   rotate_left
   · simp only [Act.put,List.setIfInBounds_toArray,List.set_cons_zero,List.set_cons_succ]
     rfl
   refine take_ (i:=6) (N:=(some 125)) (v:=?_) (a':=?_) #[true,true,true,true,true,true,true,false,false,false,false,false,false] rfl rfl (by kernel_rfl) (fun _ _ _ h=>h) (Or.inl ⟨by rfl,?_⟩) hHeld ?_ ?_
   rotate_left
   · rintro w' ⟨s0,s1,s2,s3,s4,s5,s6,s7,s8⟩
     go_simp
     with_reducible rfl
   rotate_left
   · simp only [Act.put,List.setIfInBounds_toArray,List.set_cons_zero,List.set_cons_succ]
     rfl
   refine take_ (i:=7) (N:=(some 126)) (v:=?_) (a':=?_) #[true,true,true,true,true,true,true,true,false,false,false,false,false] rfl rfl (by kernel_rfl) (fun _ _ _ h=>h) (Or.inl ⟨by rfl,?_⟩) hHeld ?_ ?_
   rotate_left
   · rintro w' ⟨s0,s1,s2,s3,s4,s5,s6,s7,s8⟩
     go_simp
     with_reducible rfl
   rotate_left
   · simp only [Act.put,List.setIfInBounds_toArray,List.set_cons_zero,List.set_cons_succ]
     rfl
   refine one_ (i:=8) (N:=(some 127)) #[true,true,true,true,true,true,true,true,true,false,false,false,false] rfl rfl (by kernel_rfl) (by decide) (fun K hK=>?_)
   refine goes_ Tryz.func24 (by kernel_rfl) rfl #[.int .i64 proto,.agg #[y0,y1,y2,y3,y4,y5,y6]] (by rfl) rfl rfl (by simp only [Act.eval,List.map_toArray,List.map_cons,List.map_nil];rfl) ?_
   refine (HG.out j p q hp hq wr.drew [y0,y1,y2,y3,y4,y5,y6] HB.out.drew (kVal.K_below HB.out.drew hKp.out)).mono ?_
   rintro e1 W1 ⟨ds,rfl,hO1,hB1⟩
   obtain ⟨Z2,z2,Z5,z5,Z6,z6,rfl,-⟩:=kVal_open hO1.now
   refine ⟨_,rfl,?_⟩
   have hW1:Below (w.heap.size+1+1+1) wr W1:=(Below.drew (Below.refl _ _)).trans (hB1.mono hlr3)
   refine hK.out _ _ (HCX.out _ hW1) (fun hHeld=>?_)
   clear hK K
   refine norm_ (a':=?_) ?_ ?_
   rotate_left
   · show Act.put _ (some 127) _=_
     simp only [Act.put,List.setIfInBounds_toArray,List.set_cons_zero,List.set_cons_succ]
     rfl
   refine one_ (i:=9) (N:=(some 128)) #[true,true,true,true,true,true,true,true,true,true,false,false,false] rfl rfl (by kernel_rfl) (by decide) (fun K hK=>?_)
   refine value_ (w1:=W1.alloc (.cells #[.int .i64 q.f0,.int .i64 q.f1,.slice Z2 q.f2.length z2,.int .i64 q.f3,.int .i64 q.f4,.slice Z5 q.f5.length z5,.slice Z6 q.f6.length z6] 28)) (v:=.slice (some ⟨W1.heap.size,0,none⟩) 1 1) (by rfl) rfl (by go_simp) ?_
   have hW2:Below (w.heap.size+1+1+1) wr (W1.alloc (.cells #[.int .i64 q.f0,.int .i64 q.f1,.slice Z2 q.f2.length z2,.int .i64 q.f3,.int .i64 q.f4,.slice Z5 q.f5.length z5,.slice Z6 q.f6.length z6] 28)):=hW1.alloc (Nat.le_trans hlr3 hW1.size) _
   refine hK.out _ _ (HCX.out _ hW2) (fun hHeld=>?_)
   clear hK K
   refine norm_ (a':=?_) ?_ ?_
   rotate_left
   · show Act.put _ (some 128) _=_
     simp only [Act.put,List.setIfInBounds_toArray,List.set_cons_zero,List.set_cons_succ]
     rfl
   have hmv:=HRO.out.move (w1:=W1.alloc (.cells #[.int .i64 q.f0,.int .i64 q.f1,.slice Z2 q.f2.length z2,.int .i64 q.f3,.int .i64 q.f4,.slice Z5 q.f5.length z5,.slice Z6 q.f6.length z6] 28)) (fun b hb hlt=>(heap_alloc_same W1 _ (Nat.lt_of_lt_of_le hlt hB1.size)).trans (hB1.block b hlt)) (Nat.le_trans hB1.size (by simp))
   have hown0:=hmv
   obtain ⟨hok,inner,hown,hreps⟩:=hown0
   have hqn:u.ownBlock≠some W1.heap.size:=fun e=>by
    obtain ⟨_,i2,h2,_⟩:=HRO.out
    have h3:=own_lt h2 _ e
    have:=hB1.size
    simp at this
    omega
   refine one_ (i:=10) (N:=(some 129)) #[true,true,true,true,true,true,true,true,true,true,true,false,false] rfl rfl (by kernel_rfl) (by decide) (fun K hK=>?_)
   apply row_step (W:=W1.alloc (.cells #[.int .i64 q.f0,.int .i64 q.f1,.slice Z2 q.f2.length z2,.int .i64 q.f3,.int .i64 q.f4,.slice Z5 q.f5.length z5,.slice Z6 q.f6.length z6] 28)) (hown:=hown) (hq:=heap_alloc_new W1 _) (ds:=[.int .i64 q.f0,.int .i64 q.f1,.slice Z2 q.f2.length z2,.int .i64 q.f3,.int .i64 q.f4,.slice Z5 q.f5.length z5,.slice Z6 q.f6.length z6])
   · rfl
   · rfl
   · rfl
   · rfl
   · exact hqn
   · rfl
   · exact hone7 _ _ _ _ _ _ _ _ _ _ _ _ _
   · have:=List.length_take_le j ys;omega
   · have:=hW2.size;omega
   intro g cap w3 hown3 hgrow hat hlt3
   have hstp:=grown_step hgrow
   have hW3:Below (w.heap.size+1+1+1) wr w3:=hW2.trans (hstp.below _ (Nat.le_trans hlr3 hW2.size) (fun b hb=>by have h9:WI.heap.size≤b:=hok b (Option.mem_toList.1 hb);omega))
   have HK3:=Lib.hid (show ∀ b,b < WI.heap.size→w3.heap[b]?=wr.heap[b]? from fun b hb=>(hgrow.block b (by have:=hB1.size;simp at this ⊢;omega) (fun e=>by have h9:WI.heap.size≤b:=hok b e.symm;omega)).trans ((heap_alloc_same W1 _ (by have:=hB1.size;simp at this;omega)).trans (hB1.block b (by show b < wr.heap.size;omega))))
   refine hK.out _ _ (HCX.out _ hW3) (fun hHeld=>?_)
   clear hK K
   refine norm_ (a':=?_) ?_ ?_
   rotate_left
   · show Act.put _ (some 129) _=_
     simp only [Act.put,List.setIfInBounds_toArray,List.set_cons_zero,List.set_cons_succ]
     rfl
   refine pure_ (i:=11) (N:=(some 130)) (v:=?_) (a':=?_) #[true,true,true,true,true,true,true,true,true,true,true,true,false] rfl rfl (by kernel_rfl) (fun _ _ _ h=>h) (Or.inl ⟨by rfl,?_⟩) ?_ ?_
   rotate_left
   · intro w'
     go_simp
     with_reducible rfl
   rotate_left
   · simp only [Act.put,List.setIfInBounds_toArray,List.set_cons_zero,List.set_cons_succ]
     rfl
   have ho3:=(hW3.block _ (by omega)).trans HO.out
   have fz9:=frozen_heap ho3
   have lt9:=lt_heap ho3
   obtain ⟨k0,k1,k2,k3,k4,k5,k6⟩:=cells7 ho3
   have hx1:HasO (fun b=>WI.heap.size≤b∧some b≠u.ownBlock) (W1.alloc (.cells #[.int .i64 q.f0,.int .i64 q.f1,.slice Z2 q.f2.length z2,.int .i64 q.f3,.int .i64 q.f4,.slice Z5 q.f5.length z5,.slice Z6 q.f6.length z6] 28)) q [.int .i64 q.f0,.int .i64 q.f1,.slice Z2 q.f2.length z2,.int .i64 q.f3,.int .i64 q.f4,.slice Z5 q.f5.length z5,.slice Z6 q.f6.length z6] :=
    (hO1.move (w1:=W1.alloc (.cells #[.int .i64 q.f0,.int .i64 q.f1,.slice Z2 q.f2.length z2,.int .i64 q.f3,.int .i64 q.f4,.slice Z5 q.f5.length z5,.slice Z6 q.f6.length z6] 28)) (fun b _ hlt=>heap_alloc_same W1 _ hlt) (by simp)).mono (fun b hb hlt=>by
     have hb':wr.heap.size≤b:=hb
     refine ⟨by omega,fun e=>?_⟩
     obtain ⟨_,i2,h2,_⟩:=HRO.out
     have h3:=own_lt h2 b e.symm
     omega)
   have hpush:=RowO.push (ok:=fun b=>WI.heap.size≤b) (x:=q) hok hreps hx1 (by have:=hW2.size;omega) hown3 hgrow hat
   have hjl:(ys.take j).length=j:=by rw [List.length_take];omega
   have htk:ys.take j++[q]=ys.take (j+1):=by rw [List.take_add_one,hq];rfl
   rw [htk,hjl] at hpush
   rw [hjl]
   have HPU:=Lib.hid hpush
   have HW3:=Lib.hid hW3
   have HO3:=Lib.hid ho3
   have hln3:=hW3.size
   clear hpush hown3 hgrow hat hown hreps hmv hok hstp hO1 hW1 hW2 hW3 ho3
   refine last_ (i:=12) (N:=none) #[true,true,true,true,true,true,true,true,true,true,true,true,true] rfl rfl (by kernel_rfl) (by decide) (fun K hK=>?_)
   refine skip_ (w1:=w3.setCell ⟨w.heap.size+1+1,6,none⟩ (.slice (some ⟨g,0,none⟩) (j+1) cap)) (by rfl) rfl (by go_simp) ?_
   refine hK.out _ _ ?_
   clear hK K
   refine done_ (by kernel_rfl) ?_
   go_wp2_with (fail)
   have hne0:w.heap.size≠w.heap.size+1+1:=by omega
   have hne1:w.heap.size+1≠w.heap.size+1+1:=by omega
   have hB9:Below w.heap.size w w3:=HB.out.trans (HW3.out.mono (by omega))
   have hkp:∀ b,b < WI.heap.size→b≠w.heap.size+1+1→(w3.setCell ⟨w.heap.size+1+1,6,none⟩ (.slice (some ⟨g,0,none⟩) (j+1) cap)).heap[b]?=WI.heap[b]?:=fun b hb hn=>(heap_set_off w3 (by show b≠w.heap.size+1+1;exact hn) _).trans ((HK3.out b hb).trans (HKP.out b hb hn))
   refine ⟨⟨j+1,_,by go_num,by omega,Lib.hid (hB9.setCell (p:=⟨w.heap.size+1+1,6,none⟩) (by show _≤w.heap.size+1+1;omega) _),Lib.hid (heap_set_other ((HW3.out.block _ (by omega)).trans HV.out) hne0 _),Lib.hid (heap_set_other ((HW3.out.block _ (by omega)).trans HR.out) hne1 _),Lib.hid (by rw [heap_set_same HO3.out];rfl),Lib.hid hkp,Lib.hid (by simp;omega),Lib.hid (HPU.out.move (fun b hb hlt=>heap_set_off w3 (by show b≠w.heap.size+1+1;omega) _) (by simp))⟩,by simp [intOf];omega⟩
  case neg =>
   have e0:j=xs.length:=by omega
   subst e0
   have hlt':¬ ((xs.length:Int) < (xs.length:Int)):=by omega
   have hys:ys.take xs.length=ys:=by rw [← hlen];exact List.take_length
   have hro:=HRO.out
   rw [hys] at hro
   clear HRO
   obtain ⟨b0,b1,b2,b3,b4,b5,b6⟩:=cells7 HV.out
   obtain ⟨U,cu,hu,_,_⟩:=hro.reads
   rw [hlen] at hu
   subst hu
   have HRO:=Lib.hid hro
   clear hro
   obtain ⟨d0,d1,d2,d3,d4,d5,d6⟩:=cells7 HO.out
   obtain ⟨c0,c1,c2',c3,c4,c5',c6'⟩:=cells7 HR.out
   have f1:=frozen_heap HR.out
   have l1:=lt_heap HR.out
   go_wp2
   obtain ⟨W6,e2,h6,hs6⟩:=set7 HR.out (.int .i64 12) (.int .i64 0) (.slice none 0 0) (.int .i64 0) (.int .i64 0) (.slice U5 ids.length cu5) (.slice U xs.length cu)
   rw [e2]
   obtain ⟨r0,r1,r2,r3,r4,r5,r6⟩:=cells7 h6
   refine bodyPost_ret (v:=.agg #[.int .i64 12,.int .i64 0,.slice none 0 0,.int .i64 0,.int .i64 0,.slice U5 ids.length cu5,.slice U xs.length cu]) (by simp [results,Tryz.results24,go_sem, *]) rfl ?_
   have hB6:=HB.out.trans (hs6.below w.heap.size HB.out.size (fun b hb=>by simp only [List.mem_cons,List.not_mem_nil,or_false] at hb;omega))
   have hro6:=(HRO.out.move (w1:=W6) (fun b hb hl=>hs6.block b hl (by simp only [List.mem_cons,List.not_mem_nil,or_false];omega)) hs6.size).mono (ok':=fun b=>w.heap.size+1+1 < b) (fun b hb _=>by omega)
   have hri6:=HRI.out.move (w1:=W6) (fun b hb hl=>(hs6.block b (by omega) (by simp only [List.mem_cons,List.not_mem_nil,or_false];omega)).trans (HKP.out b hl (by omega)))
   have hval2:HasO (fun b=>w.heap.size+1+1 < b) W6 ⟨12,0,[],0,0,ids.map w16,ys⟩ [.int .i64 12,.int .i64 0,.slice none 0 0,.int .i64 0,.int .i64 0,.slice U5 ids.length cu5,.slice U xs.length cu]:=RowO.valF hro6 (base':=w.heap.size) (show (Kd.int .i64).R 3 W6 w.heap.size (fun b=>w.heap.size+1+1 < b) (.slice U5 ids.length cu5) (ids.map w16) from Kd.R_of_own hri6.2 hri6.1) 12
   exact ⟨_,rfl,hval2.mono (fun b hb _=>by omega),hB6⟩

end Go.Proofs.YtmjcnomgpikncaaGreatDoor

namespace Go.Proofs.YtmjcnomgpikncaaGreatDoor

open Go.RowKit Go.Deep



open Go.Proofs.YtmjcnomgpikncaaGreatDoorW.PrintWords

theorem plL_map (z:Bool):∀ (l:List Val),plL z l=l.map (plV z)
  | []=>by simp [plL]
  | v :: l=>by rw [plL,plL_map z l];rfl

theorem plain_any (proto:Int):∀ (N:Nat) (V:Val),tot V < N→rightV V=true→wfV V→tot V≤65536→∀ (w:World) (cs:List Value),kVal.K w V cs→Calls Tryz.prog 24 #[.int .i64 proto,.agg cs.toArray] w (PlainV (plV (decide (proto=1)) V) w)
  | 0,V,hN,hR,hw,ht,w,cs,hK=>by omega
  | N+1,⟨t,n,s,k,e,ids,l⟩,hN,hR,hw,ht,w,cs,hK=>by
    obtain ⟨hT,v12,v13,v14⟩:=right_is hR
    obtain ⟨A2,c2,A5,c5,A6,c6,rfl,l2,g2,l5,g5,l6,g6⟩:=kVal_open hK
    dsimp only [Val.f0,Val.f1,Val.f2,Val.f3,Val.f4,Val.f5,Val.f6] at l2 g2 l5 g5 l6 g6 ⊢
    simp only [tot] at hN ht
    simp only [wfV] at hw
    have hll:=totL_len l
    have hg:∀ tt kk ee:Int,rightL tt kk ee 0 l=true→∀ (j:Nat) (p q:Val),l[j]?=some p→(plL (decide (proto=1)) l)[j]?=some q→∀ W cs,Below w.heap.size w W→kVal.K W p cs→Calls Tryz.prog 24 #[.int .i64 proto,.agg cs.toArray] W (PlainV q W):=fun tt kk ee hr j p q hp hq W cs hB hKp=>by
      rw [plL_map,List.getElem?_map,hp] at hq
      injection hq with hq
      subst hq
      have h1:=totL_get hp
      exact plain_any proto N p (by omega) (rightL_get hr hp) (wfL_get hw.2.2.2.2.2.2.2 hp) (by omega) W cs hKp
    have hlen:(plL (decide (proto=1)) l).length=l.length:=by rw [plL_map,List.length_map]
    have hsl:s.length≤65536:=by omega
    rcases isT_is hT with rfl | rfl | rfl | rfl | rfl | rfl | rfl | rfl | rfl | rfl | rfl | rfl
    · by_cases hn:n=0
      · subst hn
        have e1:plV (decide (proto=1)) ⟨2,0,s,k,e,ids,l⟩=⟨2,0,[],0,0,[],[]⟩:=by simp [plV,numO,txtO,ints]
        rw [e1]
        exact plain_num2a proto 0 k e A2 A5 A6 _ c2 _ c5 _ c6 w rfl
      · have e1:plV (decide (proto=1)) ⟨2,n,s,k,e,ids,l⟩=⟨2,1,[],0,0,[],[]⟩:=by simp [plV,numO,txtO,ints,hn]
        rw [e1]
        exact plain_num2b proto n k e A2 A5 A6 _ c2 _ c5 _ c6 w hn
    · have e1:plV (decide (proto=1)) ⟨3,n,s,k,e,ids,l⟩=⟨3,w8 n,[],0,0,[],[]⟩:=by simp [plV,numO,txtO,ints]
      rw [e1]
      exact plain_num3 proto n k e A2 A5 A6 _ c2 _ c5 _ c6 w
    · have e1:plV (decide (proto=1)) ⟨4,n,s,k,e,ids,l⟩=⟨4,n,[],0,0,[],[]⟩:=by simp [plV,numO,txtO,ints]
      rw [e1]
      exact plain_num4 proto n k e A2 A5 A6 _ c2 _ c5 _ c6 w
    · have e1:plV (decide (proto=1)) ⟨6,n,s,k,e,ids,l⟩=⟨6,w16 n,[],0,0,[],[]⟩:=by simp [plV,numO,txtO,ints]
      rw [e1]
      exact plain_num6 proto n k e A2 A5 A6 _ c2 _ c5 _ c6 w
    · have e1:plV (decide (proto=1)) ⟨8,n,s,k,e,ids,l⟩=⟨8,wrap32 n,[],0,0,[],[]⟩:=by simp [plV,numO,txtO,ints]
      rw [e1]
      exact plain_num8 proto n k e A2 A5 A6 _ c2 _ c5 _ c6 w
    · have e1:plV (decide (proto=1)) ⟨10,n,s,k,e,ids,l⟩=⟨10,n,[],0,0,[],[]⟩:=by simp [plV,numO,txtO,ints]
      rw [e1]
      exact plain_num10 proto n k e A2 A5 A6 _ c2 _ c5 _ c6 w
    · have e1:plV (decide (proto=1)) ⟨11,n,s,k,e,ids,l⟩=⟨11,0,s,0,0,[],[]⟩:=by simp [plV,numO,txtO,ints_toB hw.2.2.1]
      rw [e1]
      exact plain_txt proto n k e s A2 A5 A6 c2 _ c5 _ c6 w hsl g2 l2 hw.2.2.1
    · have e1:plV (decide (proto=1)) ⟨12,n,s,k,e,ids,l⟩=⟨12,0,[],0,0,ids.map w16,plL (decide (proto=1)) l⟩:=by simp [plV,numO,txtO,ints]
      rw [e1]
      exact plain_struct proto n k e ids l _ A2 A5 A6 _ c2 c5 c6 w (by omega) (by omega) g5 l5 g6 l6 hlen (hg 12 k e (v12 rfl).2)
    · by_cases h0:proto=1∧l.length=0
      · have hz:=h0.2
        have e1:plV (decide (proto=1)) ⟨13,n,s,k,e,ids,l⟩=⟨13,0,[],0,0,[],plL (decide (proto=1)) l⟩:=by simp [plV,numO,txtO,ints,h0]
        rw [e1]
        exact plain_map0 proto n k e l _ A2 A5 A6 _ c2 _ c5 c6 w h0.1 hz hlen
      · have e1:plV (decide (proto=1)) ⟨13,n,s,k,e,ids,l⟩=⟨13,0,[],k,e,[],plL (decide (proto=1)) l⟩:=by
          have h0':proto=1→¬ l=[]:=fun h1 h2=>h0 ⟨h1,by rw [h2];rfl⟩
          simp [plV,numO,txtO,ints]
          exact ⟨fun h1 h2=>absurd h2 (h0' h1),fun h1 h2=>absurd h2 (h0' h1)⟩
        rw [e1]
        by_cases h1:proto=1
        · exact plain_coll proto 13 n k e k l _ A2 A5 A6 _ c2 _ c5 c6 w (by omega) (.inr (.inr ⟨by decide,rfl,by simp [h1],fun h2=>h0 ⟨h1,h2⟩⟩)) (by omega) g6 l6 hlen (hg 13 k e (v13 rfl).2.2)
        · exact plain_coll proto 13 n k e k l _ A2 A5 A6 _ c2 _ c5 c6 w (by omega) (.inr (.inl ⟨by decide,rfl,by simp [h1]⟩)) (by omega) g6 l6 hlen (hg 13 k e (v13 rfl).2.2)
    · have e1:plV (decide (proto=1)) ⟨14,n,s,k,e,ids,l⟩=⟨14,0,[],0,e,[],plL (decide (proto=1)) l⟩:=by simp [plV,numO,txtO,ints]
      rw [e1]
      exact plain_coll proto 14 n k e 0 l _ A2 A5 A6 _ c2 _ c5 c6 w (by omega) (.inl ⟨by decide,rfl⟩) (by omega) g6 l6 hlen (hg 14 k e (v14 (.inl rfl)).2)
    · have e1:plV (decide (proto=1)) ⟨15,n,s,k,e,ids,l⟩=⟨15,0,[],0,e,[],plL (decide (proto=1)) l⟩:=by simp [plV,numO,txtO,ints]
      rw [e1]
      exact plain_coll proto 15 n k e 0 l _ A2 A5 A6 _ c2 _ c5 c6 w (by omega) (.inl ⟨by decide,rfl⟩) (by omega) g6 l6 hlen (hg 15 k e (v14 (.inr rfl)).2)
    · have e1:plV (decide (proto=1)) ⟨16,n,s,k,e,ids,l⟩=⟨16,0,ints (u16 (toB s)),0,0,[],[]⟩:=by simp [plV,numO,txtO]
      rw [e1]
      exact plain_uid proto n k e s A2 A5 A6 c2 _ c5 _ c6 w hsl g2 l2 _ (padded_f s hw.2.2.1 (by omega))

end Go.Proofs.YtmjcnomgpikncaaGreatDoor
