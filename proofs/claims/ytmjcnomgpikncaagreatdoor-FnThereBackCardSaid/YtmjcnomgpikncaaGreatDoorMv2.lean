/- Numbers are read by whatever protocol. No condition. -/
import Derived.Test.YtmjcnomgpikncaaGreatDoorMt3
import Derived.Test.YtmjcnomgpikncaaGreatDoorMd1
import Derived.Test.YtmjcnomgpikncaaGreatDoorMb2
import Derived.Test.YtmjcnomgpikncaaGreatDoorMt2
import Derived.Stop.Asserts
set_option linter.unusedVariables false
set_option linter.unusedSimpArgs false
namespace Go.Proofs.YtmjcnomgpikncaaGreatDoor

open Go.RowKit Go.Deep



set_option maxRecDepth 100000 in
set_option maxHeartbeats 2000000 in
theorem read_bool0 (P:PR) (y1 y2 y3 y4 y5 y6:Value) {S:List Nat} {s:P.σ} {w:World} (h:P.Is S s w) {g:RGot} {k:Nat} {s1:P.σ} (hr:P.run s .bool=some (g,k,s1)) (hb:g.n=0) :
    Calls Tryz.prog 73 #[.iface P.ty P.ptr,.agg #[.int .i64 13,y1,y2,y3,y4,y5,y6]] w (TellsV P.Is (fun ev=>.tuple #[gotN g.n,ev]) k s1 S w):=by
  obtain ⟨hm,hn,hen⟩:=P.m_bool
  have hc:=ctx_any
  have hfit:=P.fits hr
  have hg:-9223372036854775808≤g.n∧g.n < 9223372036854775808:=hfit.2.2.2.2.2.2.1
  obtain ⟨n,hgn⟩:∃ n,g.n=n:=⟨_,rfl⟩
  rw [hb] at hgn
  subst hgn
  rw [hb]
  have hO:∀ W,Step [] [] w W→Calls Tryz.prog (P.fn "ReadBool") #[P.ptr,ctxV] W (TellsV P.Is (fun ev=>.tuple #[.bool (g.n == 1),ev]) k s1 S W):=fun W hW=>P.at_ h hr W hW
  rw [hb] at hO
  change ∀ W,Step [] [] w W→Calls Tryz.prog (P.fn "ReadBool") #[P.ptr,ctxV] W (TellsV P.Is (fun ev=>.tuple #[.bool false,ev]) k s1 S W) at hO
  have HO:=Lib.hid hO
  have HF:=Lib.hid (P.lt h)
  clear hO hfit hr h
  go_enter Tryz.func73,Tryz.ntmps73
  go_wp2_with (fail)
  go_region_held3 (fun _=>True) (trivial)
    (first
      | (go_at_call 53;refine (hc _).mono ?_;rintro e w' ⟨rfl,rfl⟩)
      | (refine (HO.out _ ?_).mono ?_;exact (((Step.refl _ _).alloc _).alloc _).drew;rintro e W1 ⟨ev,S1,rfl,he,hI,hs⟩;have hbx:=(hs.block (w.heap.size+1) (by simp) (fun hm=>by have:=HF.out _ hm;omega)).trans (heap_alloc_at (by simp) _);obtain ⟨c0,c1,c2,c3,c4,c5,c6⟩:=cells7 hbx;have hfz:=frozen_heap hbx;have HX:=Lib.hid hbx;have HE:=Lib.hid he;have HI:=Lib.hid hI;have HS:=Lib.hid hs;clear he hI hs hbx))
  all_goals go_wp2
  all_goals (
    obtain ⟨W2,e2,h2,hs2⟩:=set7 HX.out (.int .i64 0) (.int .i64 0) (.int .i64 0) (.int .i64 0) (.int .i64 0) (.int .i64 0) (.slice none 0 0)
    obtain ⟨r0,r1,r2,r3,r4,r5,r6⟩:=cells7 h2
    rw [e2]
    refine bodyPost_ret (v:=.tuple #[gotN 0,ev]) (by simp [results,Tryz.results73,go_sem, *]) rfl ?_
    have hsz:∀ j,j∈S1→j∉[w.heap.size+1]:=fun j hj hm=>by
      simp only [List.mem_cons,List.not_mem_nil,or_false] at hm
      rcases HS.out.own j hj with h' | h'
      · have:=HF.out _ h';omega
      · simp at h';omega
    exact ⟨ev,S1,rfl,HE.out.step_at hs2 (fun b hb=>by simp only [List.mem_cons,List.not_mem_nil,or_false] at hb;subst hb;exact ⟨_,_,_,HX.out,by decide⟩),P.step HI.out hs2 hsz,(((((Step.refl _ _).alloc _).alloc _).drew).trans HS.out).fresh hs2 (by simp)⟩)

set_option maxRecDepth 100000 in
set_option maxHeartbeats 2000000 in
theorem read_bool1 (P:PR) (y1 y2 y3 y4 y5 y6:Value) {S:List Nat} {s:P.σ} {w:World} (h:P.Is S s w) {g:RGot} {k:Nat} {s1:P.σ} (hr:P.run s .bool=some (g,k,s1)) (hb:g.n=1) :
    Calls Tryz.prog 73 #[.iface P.ty P.ptr,.agg #[.int .i64 13,y1,y2,y3,y4,y5,y6]] w (TellsV P.Is (fun ev=>.tuple #[gotN g.n,ev]) k s1 S w):=by
  obtain ⟨hm,hn,hen⟩:=P.m_bool
  have hc:=ctx_any
  have hfit:=P.fits hr
  have hg:-9223372036854775808≤g.n∧g.n < 9223372036854775808:=hfit.2.2.2.2.2.2.1
  obtain ⟨n,hgn⟩:∃ n,g.n=n:=⟨_,rfl⟩
  rw [hb] at hgn
  subst hgn
  rw [hb]
  have hO:∀ W,Step [] [] w W→Calls Tryz.prog (P.fn "ReadBool") #[P.ptr,ctxV] W (TellsV P.Is (fun ev=>.tuple #[.bool (g.n == 1),ev]) k s1 S W):=fun W hW=>P.at_ h hr W hW
  rw [hb] at hO
  change ∀ W,Step [] [] w W→Calls Tryz.prog (P.fn "ReadBool") #[P.ptr,ctxV] W (TellsV P.Is (fun ev=>.tuple #[.bool true,ev]) k s1 S W) at hO
  have HO:=Lib.hid hO
  have HF:=Lib.hid (P.lt h)
  clear hO hfit hr h
  go_enter Tryz.func73,Tryz.ntmps73
  go_wp2_with (fail)
  go_region_held3 (fun _=>True) (trivial)
    (first
      | (go_at_call 53;refine (hc _).mono ?_;rintro e w' ⟨rfl,rfl⟩)
      | (refine (HO.out _ ?_).mono ?_;exact (((Step.refl _ _).alloc _).alloc _).drew;rintro e W1 ⟨ev,S1,rfl,he,hI,hs⟩;have hbx:=(hs.block (w.heap.size+1) (by simp) (fun hm=>by have:=HF.out _ hm;omega)).trans (heap_alloc_at (by simp) _);obtain ⟨c0,c1,c2,c3,c4,c5,c6⟩:=cells7 hbx;have hfz:=frozen_heap hbx;have HX:=Lib.hid hbx;have HE:=Lib.hid he;have HI:=Lib.hid hI;have HS:=Lib.hid hs;clear he hI hs hbx))
  all_goals go_wp2
  all_goals (
    obtain ⟨W2,e2,h2,hs2⟩:=set7 HX.out (.int .i64 0) (.int .i64 0) (.int .i64 0) (.int .i64 0) (.int .i64 0) (.int .i64 1) (.slice none 0 0)
    obtain ⟨r0,r1,r2,r3,r4,r5,r6⟩:=cells7 h2
    rw [e2]
    refine bodyPost_ret (v:=.tuple #[gotN 1,ev]) (by simp [results,Tryz.results73,go_sem, *]) rfl ?_
    have hsz:∀ j,j∈S1→j∉[w.heap.size+1]:=fun j hj hm=>by
      simp only [List.mem_cons,List.not_mem_nil,or_false] at hm
      rcases HS.out.own j hj with h' | h'
      · have:=HF.out _ h';omega
      · simp at h';omega
    exact ⟨ev,S1,rfl,HE.out.step_at hs2 (fun b hb=>by simp only [List.mem_cons,List.not_mem_nil,or_false] at hb;subst hb;exact ⟨_,_,_,HX.out,by decide⟩),P.step HI.out hs2 hsz,(((((Step.refl _ _).alloc _).alloc _).drew).trans HS.out).fresh hs2 (by simp)⟩)

theorem read_bool (P:PR) (y1 y2 y3 y4 y5 y6:Value) {S:List Nat} {s:P.σ} {w:World} (h:P.Is S s w) {g:RGot} {k:Nat} {s1:P.σ} (hr:P.run s .bool=some (g,k,s1)) :
    Calls Tryz.prog 73 #[.iface P.ty P.ptr,.agg #[.int .i64 13,y1,y2,y3,y4,y5,y6]] w (TellsV P.Is (fun ev=>.tuple #[gotN g.n,ev]) k s1 S w):=by
  rcases (P.fits hr).2.2.2.2.2.2.2.1 rfl with hb | hb
  · exact read_bool0 P y1 y2 y3 y4 y5 y6 h hr hb
  · exact read_bool1 P y1 y2 y3 y4 y5 y6 h hr hb

set_option maxRecDepth 100000 in
set_option maxHeartbeats 2000000 in
theorem read_byte (P:PR) (y1 y2 y3 y4 y5 y6:Value) {S:List Nat} {s:P.σ} {w:World} (h:P.Is S s w) {g:RGot} {k:Nat} {s1:P.σ} (hr:P.run s .byte=some (g,k,s1)) :
    Calls Tryz.prog 73 #[.iface P.ty P.ptr,.agg #[.int .i64 14,y1,y2,y3,y4,y5,y6]] w (TellsV P.Is (fun ev=>.tuple #[gotN g.n,ev]) k s1 S w):=by
  obtain ⟨hm,hn,hen⟩:=P.m_byte
  have hc:=ctx_any
  have hfit:=P.fits hr
  have hg:-9223372036854775808≤g.n∧g.n < 9223372036854775808:=hfit.2.2.2.2.2.2.1
  obtain ⟨n,hgn⟩:∃ n,g.n=n:=⟨_,rfl⟩
  rw [hgn] at hg ⊢
  have hO:∀ W,Step [] [] w W→Calls Tryz.prog (P.fn "ReadByte") #[P.ptr,ctxV] W (TellsV P.Is (fun ev=>.tuple #[.int .i8 g.n,ev]) k s1 S W):=fun W hW=>P.at_ h hr W hW
  rw [hgn] at hO
  have hwr:IntKind.i64.wrap n=n:=by rw [IntKind.wrap_i64];omega
  have HO:=Lib.hid hO
  have HF:=Lib.hid (P.lt h)
  clear hO hfit hr h
  go_enter Tryz.func73,Tryz.ntmps73
  go_wp2_with (fail)
  go_region_held3 (fun _=>True) (trivial)
    (first
      | (go_at_call 53;refine (hc _).mono ?_;rintro e w' ⟨rfl,rfl⟩)
      | (refine (HO.out _ ?_).mono ?_;exact (((Step.refl _ _).alloc _).alloc _).drew;rintro e W1 ⟨ev,S1,rfl,he,hI,hs⟩;have hbx:=(hs.block (w.heap.size+1) (by simp) (fun hm=>by have:=HF.out _ hm;omega)).trans (heap_alloc_at (by simp) _);obtain ⟨c0,c1,c2,c3,c4,c5,c6⟩:=cells7 hbx;have hfz:=frozen_heap hbx;have HX:=Lib.hid hbx;have HE:=Lib.hid he;have HI:=Lib.hid hI;have HS:=Lib.hid hs;clear he hI hs hbx))
  all_goals go_wp2
  all_goals (
    obtain ⟨W2,e2,h2,hs2⟩:=set7 HX.out (.int .i64 0) (.int .i64 0) (.int .i64 0) (.int .i64 0) (.int .i64 0) (.int .i64 n) (.slice none 0 0)
    obtain ⟨r0,r1,r2,r3,r4,r5,r6⟩:=cells7 h2
    rw [e2]
    refine bodyPost_ret (v:=.tuple #[gotN n,ev]) (by simp [results,Tryz.results73,go_sem, *]) rfl ?_
    have hsz:∀ j,j∈S1→j∉[w.heap.size+1]:=fun j hj hm=>by
      simp only [List.mem_cons,List.not_mem_nil,or_false] at hm
      rcases HS.out.own j hj with h' | h'
      · have:=HF.out _ h';omega
      · simp at h';omega
    exact ⟨ev,S1,rfl,HE.out.step_at hs2 (fun b hb=>by simp only [List.mem_cons,List.not_mem_nil,or_false] at hb;subst hb;exact ⟨_,_,_,HX.out,by decide⟩),P.step HI.out hs2 hsz,(((((Step.refl _ _).alloc _).alloc _).drew).trans HS.out).fresh hs2 (by simp)⟩)

set_option maxRecDepth 100000 in
set_option maxHeartbeats 2000000 in
theorem read_i16 (P:PR) (y1 y2 y3 y4 y5 y6:Value) {S:List Nat} {s:P.σ} {w:World} (h:P.Is S s w) {g:RGot} {k:Nat} {s1:P.σ} (hr:P.run s .i16=some (g,k,s1)) :
    Calls Tryz.prog 73 #[.iface P.ty P.ptr,.agg #[.int .i64 15,y1,y2,y3,y4,y5,y6]] w (TellsV P.Is (fun ev=>.tuple #[gotN g.n,ev]) k s1 S w):=by
  obtain ⟨hm,hn,hen⟩:=P.m_i16
  have hc:=ctx_any
  have hfit:=P.fits hr
  have hg:-9223372036854775808≤g.n∧g.n < 9223372036854775808:=hfit.2.2.2.2.2.2.1
  obtain ⟨n,hgn⟩:∃ n,g.n=n:=⟨_,rfl⟩
  rw [hgn] at hg ⊢
  have hO:∀ W,Step [] [] w W→Calls Tryz.prog (P.fn "ReadI16") #[P.ptr,ctxV] W (TellsV P.Is (fun ev=>.tuple #[.int .i16 g.n,ev]) k s1 S W):=fun W hW=>P.at_ h hr W hW
  rw [hgn] at hO
  have hwr:IntKind.i64.wrap n=n:=by rw [IntKind.wrap_i64];omega
  have HO:=Lib.hid hO
  have HF:=Lib.hid (P.lt h)
  clear hO hfit hr h
  go_enter Tryz.func73,Tryz.ntmps73
  go_wp2_with (fail)
  go_region_held3 (fun _=>True) (trivial)
    (first
      | (go_at_call 53;refine (hc _).mono ?_;rintro e w' ⟨rfl,rfl⟩)
      | (refine (HO.out _ ?_).mono ?_;exact (((Step.refl _ _).alloc _).alloc _).drew;rintro e W1 ⟨ev,S1,rfl,he,hI,hs⟩;have hbx:=(hs.block (w.heap.size+1) (by simp) (fun hm=>by have:=HF.out _ hm;omega)).trans (heap_alloc_at (by simp) _);obtain ⟨c0,c1,c2,c3,c4,c5,c6⟩:=cells7 hbx;have hfz:=frozen_heap hbx;have HX:=Lib.hid hbx;have HE:=Lib.hid he;have HI:=Lib.hid hI;have HS:=Lib.hid hs;clear he hI hs hbx))
  all_goals go_wp2
  all_goals (
    obtain ⟨W2,e2,h2,hs2⟩:=set7 HX.out (.int .i64 0) (.int .i64 0) (.int .i64 0) (.int .i64 0) (.int .i64 0) (.int .i64 n) (.slice none 0 0)
    obtain ⟨r0,r1,r2,r3,r4,r5,r6⟩:=cells7 h2
    rw [e2]
    refine bodyPost_ret (v:=.tuple #[gotN n,ev]) (by simp [results,Tryz.results73,go_sem, *]) rfl ?_
    have hsz:∀ j,j∈S1→j∉[w.heap.size+1]:=fun j hj hm=>by
      simp only [List.mem_cons,List.not_mem_nil,or_false] at hm
      rcases HS.out.own j hj with h' | h'
      · have:=HF.out _ h';omega
      · simp at h';omega
    exact ⟨ev,S1,rfl,HE.out.step_at hs2 (fun b hb=>by simp only [List.mem_cons,List.not_mem_nil,or_false] at hb;subst hb;exact ⟨_,_,_,HX.out,by decide⟩),P.step HI.out hs2 hsz,(((((Step.refl _ _).alloc _).alloc _).drew).trans HS.out).fresh hs2 (by simp)⟩)

set_option maxRecDepth 100000 in
set_option maxHeartbeats 2000000 in
theorem read_i32 (P:PR) (y1 y2 y3 y4 y5 y6:Value) {S:List Nat} {s:P.σ} {w:World} (h:P.Is S s w) {g:RGot} {k:Nat} {s1:P.σ} (hr:P.run s .i32=some (g,k,s1)) :
    Calls Tryz.prog 73 #[.iface P.ty P.ptr,.agg #[.int .i64 16,y1,y2,y3,y4,y5,y6]] w (TellsV P.Is (fun ev=>.tuple #[gotN g.n,ev]) k s1 S w):=by
  obtain ⟨hm,hn,hen⟩:=P.m_i32
  have hc:=ctx_any
  have hfit:=P.fits hr
  have hg:-9223372036854775808≤g.n∧g.n < 9223372036854775808:=hfit.2.2.2.2.2.2.1
  obtain ⟨n,hgn⟩:∃ n,g.n=n:=⟨_,rfl⟩
  rw [hgn] at hg ⊢
  have hO:∀ W,Step [] [] w W→Calls Tryz.prog (P.fn "ReadI32") #[P.ptr,ctxV] W (TellsV P.Is (fun ev=>.tuple #[.int .i32 g.n,ev]) k s1 S W):=fun W hW=>P.at_ h hr W hW
  rw [hgn] at hO
  have hwr:IntKind.i64.wrap n=n:=by rw [IntKind.wrap_i64];omega
  have HO:=Lib.hid hO
  have HF:=Lib.hid (P.lt h)
  clear hO hfit hr h
  go_enter Tryz.func73,Tryz.ntmps73
  go_wp2_with (fail)
  go_region_held3 (fun _=>True) (trivial)
    (first
      | (go_at_call 53;refine (hc _).mono ?_;rintro e w' ⟨rfl,rfl⟩)
      | (refine (HO.out _ ?_).mono ?_;exact (((Step.refl _ _).alloc _).alloc _).drew;rintro e W1 ⟨ev,S1,rfl,he,hI,hs⟩;have hbx:=(hs.block (w.heap.size+1) (by simp) (fun hm=>by have:=HF.out _ hm;omega)).trans (heap_alloc_at (by simp) _);obtain ⟨c0,c1,c2,c3,c4,c5,c6⟩:=cells7 hbx;have hfz:=frozen_heap hbx;have HX:=Lib.hid hbx;have HE:=Lib.hid he;have HI:=Lib.hid hI;have HS:=Lib.hid hs;clear he hI hs hbx))
  all_goals go_wp2
  all_goals (
    obtain ⟨W2,e2,h2,hs2⟩:=set7 HX.out (.int .i64 0) (.int .i64 0) (.int .i64 0) (.int .i64 0) (.int .i64 0) (.int .i64 n) (.slice none 0 0)
    obtain ⟨r0,r1,r2,r3,r4,r5,r6⟩:=cells7 h2
    rw [e2]
    refine bodyPost_ret (v:=.tuple #[gotN n,ev]) (by simp [results,Tryz.results73,go_sem, *]) rfl ?_
    have hsz:∀ j,j∈S1→j∉[w.heap.size+1]:=fun j hj hm=>by
      simp only [List.mem_cons,List.not_mem_nil,or_false] at hm
      rcases HS.out.own j hj with h' | h'
      · have:=HF.out _ h';omega
      · simp at h';omega
    exact ⟨ev,S1,rfl,HE.out.step_at hs2 (fun b hb=>by simp only [List.mem_cons,List.not_mem_nil,or_false] at hb;subst hb;exact ⟨_,_,_,HX.out,by decide⟩),P.step HI.out hs2 hsz,(((((Step.refl _ _).alloc _).alloc _).drew).trans HS.out).fresh hs2 (by simp)⟩)

set_option maxRecDepth 100000 in
set_option maxHeartbeats 2000000 in
theorem read_i64 (P:PR) (y1 y2 y3 y4 y5 y6:Value) {S:List Nat} {s:P.σ} {w:World} (h:P.Is S s w) {g:RGot} {k:Nat} {s1:P.σ} (hr:P.run s .i64=some (g,k,s1)) :
    Calls Tryz.prog 73 #[.iface P.ty P.ptr,.agg #[.int .i64 17,y1,y2,y3,y4,y5,y6]] w (TellsV P.Is (fun ev=>.tuple #[gotN g.n,ev]) k s1 S w):=by
  obtain ⟨hm,hn,hen⟩:=P.m_i64
  have hc:=ctx_any
  have hfit:=P.fits hr
  have hg:-9223372036854775808≤g.n∧g.n < 9223372036854775808:=hfit.2.2.2.2.2.2.1
  obtain ⟨n,hgn⟩:∃ n,g.n=n:=⟨_,rfl⟩
  rw [hgn] at hg ⊢
  have hO:∀ W,Step [] [] w W→Calls Tryz.prog (P.fn "ReadI64") #[P.ptr,ctxV] W (TellsV P.Is (fun ev=>.tuple #[.int .i64 g.n,ev]) k s1 S W):=fun W hW=>P.at_ h hr W hW
  rw [hgn] at hO
  have hwr:IntKind.i64.wrap n=n:=by rw [IntKind.wrap_i64];omega
  have HO:=Lib.hid hO
  have HF:=Lib.hid (P.lt h)
  clear hO hfit hr h
  go_enter Tryz.func73,Tryz.ntmps73
  go_wp2_with (fail)
  go_region_held3 (fun _=>True) (trivial)
    (first
      | (go_at_call 53;refine (hc _).mono ?_;rintro e w' ⟨rfl,rfl⟩)
      | (refine (HO.out _ ?_).mono ?_;exact (((Step.refl _ _).alloc _).alloc _).drew;rintro e W1 ⟨ev,S1,rfl,he,hI,hs⟩;have hbx:=(hs.block (w.heap.size+1) (by simp) (fun hm=>by have:=HF.out _ hm;omega)).trans (heap_alloc_at (by simp) _);obtain ⟨c0,c1,c2,c3,c4,c5,c6⟩:=cells7 hbx;have hfz:=frozen_heap hbx;have HX:=Lib.hid hbx;have HE:=Lib.hid he;have HI:=Lib.hid hI;have HS:=Lib.hid hs;clear he hI hs hbx))
  all_goals go_wp2
  all_goals (
    obtain ⟨W2,e2,h2,hs2⟩:=set7 HX.out (.int .i64 0) (.int .i64 0) (.int .i64 0) (.int .i64 0) (.int .i64 0) (.int .i64 n) (.slice none 0 0)
    obtain ⟨r0,r1,r2,r3,r4,r5,r6⟩:=cells7 h2
    rw [e2]
    refine bodyPost_ret (v:=.tuple #[gotN n,ev]) (by simp [results,Tryz.results73,go_sem, *]) rfl ?_
    have hsz:∀ j,j∈S1→j∉[w.heap.size+1]:=fun j hj hm=>by
      simp only [List.mem_cons,List.not_mem_nil,or_false] at hm
      rcases HS.out.own j hj with h' | h'
      · have:=HF.out _ h';omega
      · simp at h';omega
    exact ⟨ev,S1,rfl,HE.out.step_at hs2 (fun b hb=>by simp only [List.mem_cons,List.not_mem_nil,or_false] at hb;subst hb;exact ⟨_,_,_,HX.out,by decide⟩),P.step HI.out hs2 hsz,(((((Step.refl _ _).alloc _).alloc _).drew).trans HS.out).fresh hs2 (by simp)⟩)

set_option maxRecDepth 100000 in
set_option maxHeartbeats 2000000 in
theorem read_dbl (P:PR) (y1 y2 y3 y4 y5 y6:Value) {S:List Nat} {s:P.σ} {w:World} (h:P.Is S s w) {g:RGot} {k:Nat} {s1:P.σ} (hr:P.run s .dbl=some (g,k,s1)) :
    Calls Tryz.prog 73 #[.iface P.ty P.ptr,.agg #[.int .i64 18,y1,y2,y3,y4,y5,y6]] w (TellsV P.Is (fun ev=>.tuple #[gotN g.n,ev]) k s1 S w):=by
  obtain ⟨hm,hn,hen⟩:=P.m_dbl
  have hc:=ctx_any
  have hfb:=f64bits
  have hfit:=P.fits hr
  have hg:-9223372036854775808≤g.n∧g.n < 9223372036854775808:=hfit.2.2.2.2.2.2.1
  obtain ⟨n,hgn⟩:∃ n,g.n=n:=⟨_,rfl⟩
  rw [hgn] at hg ⊢
  have hO:∀ W,Step [] [] w W→Calls Tryz.prog (P.fn "ReadDouble") #[P.ptr,ctxV] W (TellsV P.Is (fun ev=>.tuple #[.float .f64 (IntKind.u64.wrap g.n).toNat,ev]) k s1 S W):=fun W hW=>P.at_ h hr W hW
  rw [hgn] at hO
  have hwr:IntKind.i64.wrap n=n:=by rw [IntKind.wrap_i64];omega
  have hN:IntKind.i64.wrap ((IntKind.u64.wrap n).toNat:Int)=n:=by rw [IntKind.wrap_i64,IntKind.wrap_u64];omega
  obtain ⟨N,hNe⟩:∃ N,(IntKind.u64.wrap n).toNat=N:=⟨_,rfl⟩
  rw [hNe] at hO hN
  clear hNe
  have HO:=Lib.hid hO
  have HF:=Lib.hid (P.lt h)
  clear hO hfit hr h
  go_enter Tryz.func73,Tryz.ntmps73
  go_wp2_with (fail)
  go_region_held3 (fun _=>True) (trivial)
    (first
      | (go_at_call 53;refine (hc _).mono ?_;rintro e w' ⟨rfl,rfl⟩)
      | (refine (HO.out _ ?_).mono ?_;exact (((Step.refl _ _).alloc _).alloc _).drew;rintro e W1 ⟨ev,S1,rfl,he,hI,hs⟩;have hbx:=(hs.block (w.heap.size+1) (by simp) (fun hm=>by have:=HF.out _ hm;omega)).trans (heap_alloc_at (by simp) _);obtain ⟨c0,c1,c2,c3,c4,c5,c6⟩:=cells7 hbx;have hfz:=frozen_heap hbx;have HX:=Lib.hid hbx;have HE:=Lib.hid he;have HI:=Lib.hid hI;have HS:=Lib.hid hs;clear he hI hs hbx))
  all_goals go_wp2
  all_goals (
    obtain ⟨W2,e2,h2,hs2⟩:=set7 HX.out (.int .i64 0) (.int .i64 0) (.int .i64 0) (.int .i64 0) (.int .i64 0) (.int .i64 n) (.slice none 0 0)
    obtain ⟨r0,r1,r2,r3,r4,r5,r6⟩:=cells7 h2
    rw [e2]
    refine bodyPost_ret (v:=.tuple #[gotN n,ev]) (by simp [results,Tryz.results73,go_sem, *]) rfl ?_
    have hsz:∀ j,j∈S1→j∉[w.heap.size+1]:=fun j hj hm=>by
      simp only [List.mem_cons,List.not_mem_nil,or_false] at hm
      rcases HS.out.own j hj with h' | h'
      · have:=HF.out _ h';omega
      · simp at h';omega
    exact ⟨ev,S1,rfl,HE.out.step_at hs2 (fun b hb=>by simp only [List.mem_cons,List.not_mem_nil,or_false] at hb;subst hb;exact ⟨_,_,_,HX.out,by decide⟩),P.step HI.out hs2 hsz,(((((Step.refl _ _).alloc _).alloc _).drew).trans HS.out).fresh hs2 (by simp)⟩)

end Go.Proofs.YtmjcnomgpikncaaGreatDoor

namespace Go.Proofs.YtmjcnomgpikncaaGreatDoor

open Go.RowKit Go.Deep



def EofAt (w:World):Prop:=∃ a b:Addr,w.cell? ⟨0,0,none⟩=some (.iface 238 (.pointer (some a)))∧w.cell? ⟨1,0,none⟩=some (.iface 238 (.pointer (some b)))

theorem EofAt.lt {w:World} (h:EofAt w):1 < w.heap.size:=by
  obtain ⟨a,b,h1,h2⟩:=h
  exact World.block_lt_of_cell? w _ h2

theorem EofAt.below {w w1:World} (h:EofAt w) {B:Nat} (hB:Below B w w1) (hb:1 < B):EofAt w1:=by
  obtain ⟨a,b,h1,h2⟩:=h
  exact ⟨a,b,(hB.cell (p:=⟨0,0,none⟩) (by show 0 < B;omega)).trans h1,(hB.cell (p:=⟨1,0,none⟩) hb).trans h2⟩

theorem exc_own (b:Nat) (w:World):(Instr.typeAssert (.iface 235 (.pointer (some ⟨b,0,none⟩))) 83 157 true).run Tryz.prog w=.ok (.tuple #[.int .i64 0,.bool false]) w:=by kernel_rfl

theorem exc_texc (b:Nat) (w:World):(Instr.typeAssert (.iface 235 (.pointer (some ⟨b,0,none⟩))) 83 160 true).run Tryz.prog w=.ok (.tuple #[.iface 235 (.pointer (some ⟨b,0,none⟩)),.bool true]) w:=by kernel_rfl

theorem exc_prot (b:Nat) (w:World):(Instr.typeAssert (.iface 235 (.pointer (some ⟨b,0,none⟩))) 160 165 true).run Tryz.prog w=.ok (.tuple #[.iface 235 (.pointer (some ⟨b,0,none⟩)),.bool true]) w:=by kernel_rfl

noncomputable def rowP:Method:=(((Tryz.prog.info? 235).getD default).methods.find? (·.name == "TExceptionType")).getD default

theorem rowP_is:((Tryz.prog.info? 235).getD default).methods.find? (·.name == "TExceptionType")=some rowP:=by kernel_rfl

theorem rowP_path:rowP.path.size=0:=by kernel_rfl

theorem rowP_func:rowP.func=some (280,false):=by kernel_rfl

theorem rowP_recv (s:String) (p:Nat) (w:World):(receiverAt 235 (.val (.pointer (some ⟨p,0,none⟩))) false (some s)).run Tryz.prog w=(loadVar 237 ⟨p,0,none⟩).run Tryz.prog w:=by kernel_rfl

theorem exc_m1 (k p:Nat) (a b c:Value) (w:World) (h0:w.cell? ⟨p,0,none⟩=some a) (h1:w.cell? ⟨p,1,none⟩=some b) (h2:w.cell? ⟨p,2,none⟩=some c) :
    (method (k+1) 235 (.pointer (some ⟨p,0,none⟩)) "TExceptionType").run Tryz.prog w=.ok (280,.agg #[a,b,c]) w:=by
  have ht:(typeInfo 235).run Tryz.prog w=.ok ((Tryz.prog.info? 235).getD default) w:=by kernel_rfl
  have hp:rowP.path=#[]:=Array.eq_empty_of_size_eq_zero rowP_path
  have hf:(follow [] 235 (.val (.pointer (some ⟨p,0,none⟩)))).run Tryz.prog w=.ok (235,.val (.pointer (some ⟨p,0,none⟩))) w:=by kernel_rfl
  have hv:(loadVar 237 ⟨p,0,none⟩).run Tryz.prog w=.ok (.agg #[a,b,c]) w:=by go_simp
  unfold method
  generalize ("TExceptionType".splitOn ".").getLastD "TExceptionType" = s
  simp only [Sem.run_bind,ht,Result.andThen,rowP_is,rowP_func,hp,hf]
  rw [show (if (#[]:Array FieldStep).isEmpty=true then some s else none)=some s from rfl,rowP_recv s p w,hv]
  rfl

theorem exc_n1 (k b:Nat) (w:World):(nilAhead (k+1) 235 (.pointer (some ⟨b,0,none⟩)) "TExceptionType").run Tryz.prog w=.ok (some false) w:=by kernel_rfl

theorem exc_m2 (k b:Nat) (w:World):(method (k+1) 235 (.pointer (some ⟨b,0,none⟩)) "TypeId").run Tryz.prog w=.ok (281,.pointer (some ⟨b,0,none⟩)) w:=by kernel_rfl

theorem exc_n2 (k b:Nat) (w:World):(nilAhead (k+1) 235 (.pointer (some ⟨b,0,none⟩)) "TypeId").run Tryz.prog w=.ok (some false) w:=by kernel_rfl

set_option maxRecDepth 100000 in
set_option maxHeartbeats 2000000 in
theorem kind_exc (b t:Nat) (er ms:Value) (w:World) (ht:t≤6) (hb:w.heap[b]?=some (.cells #[.int .i64 (t:Nat),er,ms] 237 (0,0))) (hE:EofAt w) :
    Calls Tryz.prog 47 #[.iface 235 (.pointer (some ⟨b,0,none⟩))] w fun e w'=>e=.returned (.int .i64 ((10+t:Nat):Int))∧Below w.heap.size w w':=by
  obtain ⟨a0,a1,e0,e1⟩:=hE
  have h1:=exc_own b
  have h2:=exc_texc b
  have h3:=exc_prot b
  have h4:=exc_m1
  have h5:=exc_n1
  have h6:=exc_m2
  have h7:=exc_n2
  have hbl:=lt_heap hb
  have c0:w.cell? ⟨b,0,none⟩=some (.int .i64 (t:Nat)):=(cell_heap hb 0).trans rfl
  have c1:w.cell? ⟨b,1,none⟩=some er:=(cell_heap hb 1).trans rfl
  have c2:w.cell? ⟨b,2,none⟩=some ms:=(cell_heap hb 2).trans rfl
  clear hb
  have hq0:∀ w:World,(binOp .eql 83 (.iface 235 (.pointer (some ⟨b,0,none⟩))) (.iface 238 (.pointer (some a0)))).run Tryz.prog w=.ok (.bool false) w:=fun w=>run_eql_iface_types _ _ _ _ Tryz.underlying83 (by decide) w
  have hq1:∀ w:World,(binOp .eql 83 (.iface 235 (.pointer (some ⟨b,0,none⟩))) (.iface 238 (.pointer (some a1)))).run Tryz.prog w=.ok (.bool false) w:=fun w=>run_eql_iface_types _ _ _ _ Tryz.underlying83 (by decide) w
  go_enter Tryz.func47,Tryz.ntmps47
  go_wp2_with (first | (go_at_call 280;go_in) | (go_at_call 281;go_in))
  go_ret
  exact ⟨by congr 2,(Below.refl _ _).alloc (Nat.le_refl _) _⟩

theorem kind_any {k:Nat} {ev:Value} {w:World} (h:IsErr k ev w) (hE:EofAt w):Calls Tryz.prog 47 #[ev] w fun e w'=>e=.returned (.int .i64 (k:Nat))∧Below w.heap.size w w':=by
  rcases h with ⟨rfl,rfl⟩ | ⟨b,t,er,ms,rfl,h2,rfl,h4⟩
  · exact (kind_nil w).mono fun e w' ⟨h1,h2⟩=>⟨h1,by subst h2;exact Below.refl _ _⟩
  · exact kind_exc b t er ms w h2 h4 hE

end Go.Proofs.YtmjcnomgpikncaaGreatDoor
