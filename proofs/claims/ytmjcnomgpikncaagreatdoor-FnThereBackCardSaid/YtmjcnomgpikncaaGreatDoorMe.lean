/- Put of single values. No condition. -/
import Derived.Test.YtmjcnomgpikncaaGreatDoorMc
import Derived.Test.YtmjcnomgpikncaaGreatDoorMd1
import Derived.Outline
import Derived.Deep.LoopGhost
import Derived.Deep.DeepCutAuto
import Derived.Deep.CutBlock
set_option linter.unusedVariables false
set_option linter.unusedSimpArgs false
namespace Go.Proofs.YtmjcnomgpikncaaGreatDoor

open Go.RowKit Go.Deep Go.Proofs.YtmjcnomgpikncaaGreatDoorW.PrintWords



theorem runs_one {σ:Type} (run:σ→WOp→σ × Nat) (o:WOp) (s:σ):runs run [o] s=run s o:=by
  simp only [runs]
  split
  · rename_i h
    exact Prod.ext rfl h.symm
  · rfl

theorem PW.at_ (P:PW) {S:List Nat} {s:P.σ} {w:World} (h:P.Is S s w) (o:WOp) (hb:o.isBin=false) (hf:o.fit) (hr:P.room s+o.cost≤140737488355328) :
    ∀ W,Step [] [] w W→Calls Tryz.prog (P.fn o.nm) (o.argv P.ptr) W (Did P.Is S W (P.run s o)):=fun W hW =>
  P.does (P.step h hW (by simp)) o hb hf hr

theorem uuid_of {A:Option Addr} (c:Nat) {xs:List Int} {W:World} (h:(Kd.int .u8).C W A xs.length xs) (h8:∀ x∈xs,0≤x∧x < 256) :
    Calls Tryz.prog 66 #[.slice A xs.length c] W fun e w'=>e=.returned (.agg (Lib.byteCells (u16 (toB xs))).toArray)∧Below W.heap.size W w':=by
  by_cases h0:xs.length=0
  · obtain rfl:xs=[]:=List.length_eq_zero_iff.1 h0
    exact uuid_none A c W
  · obtain ⟨ad,rfl,hc⟩:=h.2.2 (by omega)
    have hcell:∀ j v,(Lib.byteCells (toB xs))[j]?=some v→W.cell? (ad.add j)=some v:=fun j v hj=>by
      have hj':∃ x,xs[j]?=some x∧v=.int .u8 x:=by
        simp only [Lib.byteCells,toB,List.map_map,List.getElem?_map,Option.map_eq_some_iff] at hj
        obtain ⟨x,hx,rfl⟩:=hj
        refine ⟨x,hx,?_⟩
        have:=h8 x (List.mem_of_getElem? hx)
        simp only [Function.comp]
        congr 1
        show ((x.toNat % 256:Nat):Int)=x
        omega
      obtain ⟨x,hx,rfl⟩:=hj'
      obtain ⟨cs,hl,he,hcs⟩:=hc j x hx
      obtain rfl:cs=[.int .u8 x]:=he
      have:=hcs 0 _ rfl
      simpa [Kd.int,Kd.scalar] using this
    have hblk:ad.block < W.heap.size:=by
      obtain ⟨x,hx⟩:∃ x,(Lib.byteCells (toB xs))[0]?=some x:=by
        cases xs with
        | nil=>simp at h0
        | cons x l=>exact ⟨_,rfl⟩
      have:=hcell 0 x hx
      have h3:=block_lt_of_cell this
      rwa [Lib.block_add] at h3
    exact uuid_some ad xs.length c (toB xs) W (by simp [toB]) hblk hcell

theorem PW.fresh (P:PW) {S:List Nat} {s:P.σ} {w:World} (h:P.Is S s w):w.heap.size∉S:=fun hm=>Nat.lt_irrefl _ (P.lt h _ hm)

set_option maxRecDepth 100000 in
set_option maxHeartbeats 4000000 in
theorem put_bool (P:PW) (t n:Int) (v2 v3 v4 v5 v6:Value) (ht:t % 256=2) {S:List Nat} {s:P.σ} {w:World} (h:P.Is S s w) (hr:P.room s+32≤140737488355328) :
    Calls Tryz.prog 44 #[.iface P.ty P.ptr,.agg #[.int .i64 t,.int .i64 n,v2,v3,v4,v5,v6]] w (Did P.Is S w (P.run s (.bool (n != 0)))):=by
  have hm:=P.meth (.bool (n != 0))
  have hn:=P.ahead (.bool (n != 0))
  have hen:=P.ent (.bool (n != 0))
  have hc:=ctx_any
  obtain ⟨r,hrr⟩:∃ r,P.run s (.bool (n != 0))=r:=⟨_,rfl⟩
  have hO:=P.at_ h (.bool (n != 0)) rfl trivial hr
  rw [hrr] at hO ⊢
  have HO:=Lib.hid hO
  have HF:=Lib.hid (P.fresh h)
  clear hO hrr
  change ∀ (args:Array Value) (w:World),(callFunc (P.fn "WriteBool") args).run Tryz.prog w=.ok (.enter (P.fn "WriteBool") args) w at hen
  change ∀ (k:Nat) (w:World),(method (k+1) P.ty P.ptr "WriteBool").run Tryz.prog w=.ok (P.fn "WriteBool",P.ptr) w at hm
  change ∀ (k:Nat) (w:World),(nilAhead (k+1) P.ty P.ptr "WriteBool").run Tryz.prog w=.ok (some false) w at hn
  go_enter Tryz.func44,Tryz.ntmps44
  go_wp2_with (first | (go_at_call 50;go_in))
  go_region_held3 (fun W'=>W'.cell? ⟨w.heap.size,1,none⟩=some (.int .i64 n)) (first | assumption | (simp [go_sem]))
    (first
      | (go_at_call 53;refine (hc _).mono ?_;rintro e w' ⟨rfl,rfl⟩)
      | (refine (HO.out _ ?_).mono ?_;exact ((Step.refl _ _).alloc _).drew;rintro e W1 ⟨ev,S1,rfl,he,hI,hs⟩;have hx1:=(hs.cell (p:=⟨w.heap.size,1,none⟩) (by simp) HF.out).trans (cell_heap (heap_alloc_new _ _) 1)))
  all_goals go_wp2
  all_goals go_ret
  all_goals exact ⟨_,_,rfl,he,hI,(((Step.refl _ _).alloc _).drew).trans hs⟩

set_option maxRecDepth 100000 in
set_option maxHeartbeats 4000000 in
theorem put_byte (P:PW) (t n:Int) (v2 v3 v4 v5 v6:Value) (ht:t % 256=3) {S:List Nat} {s:P.σ} {w:World} (h:P.Is S s w) (hr:P.room s+32≤140737488355328) :
    Calls Tryz.prog 44 #[.iface P.ty P.ptr,.agg #[.int .i64 t,.int .i64 n,v2,v3,v4,v5,v6]] w (Did P.Is S w (P.run s (.byte (w8 n)))):=by
  have hm:=P.meth (.byte (w8 n))
  have hn:=P.ahead (.byte (w8 n))
  have hen:=P.ent (.byte (w8 n))
  have hc:=ctx_any
  obtain ⟨r,hrr⟩:∃ r,P.run s (.byte (w8 n))=r:=⟨_,rfl⟩
  have hO:=P.at_ h (.byte (w8 n)) rfl (by unfold w8;exact ⟨by omega,by omega⟩) hr
  rw [hrr] at hO ⊢
  have HO:=Lib.hid hO
  have HF:=Lib.hid (P.fresh h)
  clear hO hrr
  have hw:IntKind.i8.wrap n=w8 n:=by rw [wrap_i8];rfl
  change ∀ (args:Array Value) (w:World),(callFunc (P.fn "WriteByte") args).run Tryz.prog w=.ok (.enter (P.fn "WriteByte") args) w at hen
  change ∀ (k:Nat) (w:World),(method (k+1) P.ty P.ptr "WriteByte").run Tryz.prog w=.ok (P.fn "WriteByte",P.ptr) w at hm
  change ∀ (k:Nat) (w:World),(nilAhead (k+1) P.ty P.ptr "WriteByte").run Tryz.prog w=.ok (some false) w at hn
  go_enter Tryz.func44,Tryz.ntmps44
  go_wp2_with (first | (go_at_call 50;go_in))
  go_region_held3 (fun W'=>W'.cell? ⟨w.heap.size,1,none⟩=some (.int .i64 n)) (first | assumption | (simp [go_sem]))
    (first
      | (go_at_call 53;refine (hc _).mono ?_;rintro e w' ⟨rfl,rfl⟩)
      | (refine (HO.out _ ?_).mono ?_;exact ((Step.refl _ _).alloc _).drew;rintro e W1 ⟨ev,S1,rfl,he,hI,hs⟩;have hx1:=(hs.cell (p:=⟨w.heap.size,1,none⟩) (by simp) HF.out).trans (cell_heap (heap_alloc_new _ _) 1)))
  all_goals go_wp2
  all_goals go_ret
  all_goals exact ⟨_,_,rfl,he,hI,(((Step.refl _ _).alloc _).drew).trans hs⟩

set_option maxRecDepth 100000 in
set_option maxHeartbeats 4000000 in
theorem put_i16 (P:PW) (t n:Int) (v2 v3 v4 v5 v6:Value) (ht:t % 256=6) {S:List Nat} {s:P.σ} {w:World} (h:P.Is S s w) (hr:P.room s+32≤140737488355328) :
    Calls Tryz.prog 44 #[.iface P.ty P.ptr,.agg #[.int .i64 t,.int .i64 n,v2,v3,v4,v5,v6]] w (Did P.Is S w (P.run s (.i16 (w16 n)))):=by
  have hm:=P.meth (.i16 (w16 n))
  have hn:=P.ahead (.i16 (w16 n))
  have hen:=P.ent (.i16 (w16 n))
  have hc:=ctx_any
  obtain ⟨r,hrr⟩:∃ r,P.run s (.i16 (w16 n))=r:=⟨_,rfl⟩
  have hO:=P.at_ h (.i16 (w16 n)) rfl (by unfold w16;exact ⟨by omega,by omega⟩) hr
  rw [hrr] at hO ⊢
  have HO:=Lib.hid hO
  have HF:=Lib.hid (P.fresh h)
  clear hO hrr
  have hw:IntKind.i16.wrap n=w16 n:=by rw [wrap_i16];rfl
  change ∀ (args:Array Value) (w:World),(callFunc (P.fn "WriteI16") args).run Tryz.prog w=.ok (.enter (P.fn "WriteI16") args) w at hen
  change ∀ (k:Nat) (w:World),(method (k+1) P.ty P.ptr "WriteI16").run Tryz.prog w=.ok (P.fn "WriteI16",P.ptr) w at hm
  change ∀ (k:Nat) (w:World),(nilAhead (k+1) P.ty P.ptr "WriteI16").run Tryz.prog w=.ok (some false) w at hn
  go_enter Tryz.func44,Tryz.ntmps44
  go_wp2_with (first | (go_at_call 50;go_in))
  go_region_held3 (fun W'=>W'.cell? ⟨w.heap.size,1,none⟩=some (.int .i64 n)) (first | assumption | (simp [go_sem]))
    (first
      | (go_at_call 53;refine (hc _).mono ?_;rintro e w' ⟨rfl,rfl⟩)
      | (refine (HO.out _ ?_).mono ?_;exact ((Step.refl _ _).alloc _).drew;rintro e W1 ⟨ev,S1,rfl,he,hI,hs⟩;have hx1:=(hs.cell (p:=⟨w.heap.size,1,none⟩) (by simp) HF.out).trans (cell_heap (heap_alloc_new _ _) 1)))
  all_goals go_wp2
  all_goals go_ret
  all_goals exact ⟨_,_,rfl,he,hI,(((Step.refl _ _).alloc _).drew).trans hs⟩

set_option maxRecDepth 100000 in
set_option maxHeartbeats 4000000 in
theorem put_i32 (P:PW) (t n:Int) (v2 v3 v4 v5 v6:Value) (ht:t % 256=8) {S:List Nat} {s:P.σ} {w:World} (h:P.Is S s w) (hr:P.room s+32≤140737488355328) :
    Calls Tryz.prog 44 #[.iface P.ty P.ptr,.agg #[.int .i64 t,.int .i64 n,v2,v3,v4,v5,v6]] w (Did P.Is S w (P.run s (.i32 (wrap32 n)))):=by
  have hm:=P.meth (.i32 (wrap32 n))
  have hn:=P.ahead (.i32 (wrap32 n))
  have hen:=P.ent (.i32 (wrap32 n))
  have hc:=ctx_any
  obtain ⟨r,hrr⟩:∃ r,P.run s (.i32 (wrap32 n))=r:=⟨_,rfl⟩
  have hO:=P.at_ h (.i32 (wrap32 n)) rfl (by unfold wrap32;exact ⟨by omega,by omega⟩) hr
  rw [hrr] at hO ⊢
  have HO:=Lib.hid hO
  have HF:=Lib.hid (P.fresh h)
  clear hO hrr
  have hw:IntKind.i32.wrap n=wrap32 n:=by rw [IntKind.wrap_i32];unfold wrap32;omega
  change ∀ (args:Array Value) (w:World),(callFunc (P.fn "WriteI32") args).run Tryz.prog w=.ok (.enter (P.fn "WriteI32") args) w at hen
  change ∀ (k:Nat) (w:World),(method (k+1) P.ty P.ptr "WriteI32").run Tryz.prog w=.ok (P.fn "WriteI32",P.ptr) w at hm
  change ∀ (k:Nat) (w:World),(nilAhead (k+1) P.ty P.ptr "WriteI32").run Tryz.prog w=.ok (some false) w at hn
  go_enter Tryz.func44,Tryz.ntmps44
  go_wp2_with (first | (go_at_call 50;go_in))
  go_region_held3 (fun W'=>W'.cell? ⟨w.heap.size,1,none⟩=some (.int .i64 n)) (first | assumption | (simp [go_sem]))
    (first
      | (go_at_call 53;refine (hc _).mono ?_;rintro e w' ⟨rfl,rfl⟩)
      | (refine (HO.out _ ?_).mono ?_;exact ((Step.refl _ _).alloc _).drew;rintro e W1 ⟨ev,S1,rfl,he,hI,hs⟩;have hx1:=(hs.cell (p:=⟨w.heap.size,1,none⟩) (by simp) HF.out).trans (cell_heap (heap_alloc_new _ _) 1)))
  all_goals go_wp2
  all_goals go_ret
  all_goals exact ⟨_,_,rfl,he,hI,(((Step.refl _ _).alloc _).drew).trans hs⟩

set_option maxRecDepth 100000 in
set_option maxHeartbeats 4000000 in
theorem put_i64 (P:PW) (t n:Int) (v2 v3 v4 v5 v6:Value) (ht:t % 256=10) (h0:-9223372036854775808≤n) (h1:n < 9223372036854775808) {S:List Nat} {s:P.σ} {w:World} (h:P.Is S s w) (hr:P.room s+32≤140737488355328) :
    Calls Tryz.prog 44 #[.iface P.ty P.ptr,.agg #[.int .i64 t,.int .i64 n,v2,v3,v4,v5,v6]] w (Did P.Is S w (P.run s (.i64 n))):=by
  have hm:=P.meth (.i64 n)
  have hn:=P.ahead (.i64 n)
  have hen:=P.ent (.i64 n)
  have hc:=ctx_any
  obtain ⟨r,hrr⟩:∃ r,P.run s (.i64 n)=r:=⟨_,rfl⟩
  have hO:=P.at_ h (.i64 n) rfl ⟨by omega,by omega⟩ hr
  rw [hrr] at hO ⊢
  have HO:=Lib.hid hO
  have HF:=Lib.hid (P.fresh h)
  clear hO hrr
  clear h0 h1
  change ∀ (args:Array Value) (w:World),(callFunc (P.fn "WriteI64") args).run Tryz.prog w=.ok (.enter (P.fn "WriteI64") args) w at hen
  change ∀ (k:Nat) (w:World),(method (k+1) P.ty P.ptr "WriteI64").run Tryz.prog w=.ok (P.fn "WriteI64",P.ptr) w at hm
  change ∀ (k:Nat) (w:World),(nilAhead (k+1) P.ty P.ptr "WriteI64").run Tryz.prog w=.ok (some false) w at hn
  go_enter Tryz.func44,Tryz.ntmps44
  go_wp2_with (first | (go_at_call 50;go_in))
  go_region_held3 (fun W'=>W'.cell? ⟨w.heap.size,1,none⟩=some (.int .i64 n)) (first | assumption | (simp [go_sem]))
    (first
      | (go_at_call 53;refine (hc _).mono ?_;rintro e w' ⟨rfl,rfl⟩)
      | (refine (HO.out _ ?_).mono ?_;exact ((Step.refl _ _).alloc _).drew;rintro e W1 ⟨ev,S1,rfl,he,hI,hs⟩;have hx1:=(hs.cell (p:=⟨w.heap.size,1,none⟩) (by simp) HF.out).trans (cell_heap (heap_alloc_new _ _) 1)))
  all_goals go_wp2
  all_goals go_ret
  all_goals exact ⟨_,_,rfl,he,hI,(((Step.refl _ _).alloc _).drew).trans hs⟩

set_option maxRecDepth 100000 in
set_option maxHeartbeats 4000000 in
theorem put_dbl (P:PW) (t n:Int) (v2 v3 v4 v5 v6:Value) (ht:t % 256=4) {S:List Nat} {s:P.σ} {w:World} (h:P.Is S s w) (hr:P.room s+32≤140737488355328) :
    Calls Tryz.prog 44 #[.iface P.ty P.ptr,.agg #[.int .i64 t,.int .i64 n,v2,v3,v4,v5,v6]] w (Did P.Is S w (P.run s (.dbl (IntKind.u64.wrap n).toNat))):=by
  have hm:=P.meth (.dbl (IntKind.u64.wrap n).toNat)
  have hn:=P.ahead (.dbl (IntKind.u64.wrap n).toNat)
  have hen:=P.ent (.dbl (IntKind.u64.wrap n).toNat)
  have hc:=ctx_any
  obtain ⟨r,hrr⟩:∃ r,P.run s (.dbl (IntKind.u64.wrap n).toNat)=r:=⟨_,rfl⟩
  have hO:=P.at_ h (.dbl (IntKind.u64.wrap n).toNat) rfl (by show (IntKind.u64.wrap n).toNat < _;rw [IntKind.wrap_u64];omega) hr
  rw [hrr] at hO ⊢
  have HO:=Lib.hid hO
  have HF:=Lib.hid (P.fresh h)
  clear hO hrr
  have hfo:=f64of
  change ∀ (args:Array Value) (w:World),(callFunc (P.fn "WriteDouble") args).run Tryz.prog w=.ok (.enter (P.fn "WriteDouble") args) w at hen
  change ∀ (k:Nat) (w:World),(method (k+1) P.ty P.ptr "WriteDouble").run Tryz.prog w=.ok (P.fn "WriteDouble",P.ptr) w at hm
  change ∀ (k:Nat) (w:World),(nilAhead (k+1) P.ty P.ptr "WriteDouble").run Tryz.prog w=.ok (some false) w at hn
  go_enter Tryz.func44,Tryz.ntmps44
  go_wp2_with (first | (go_at_call 50;go_in))
  go_region_held3 (fun W'=>W'.cell? ⟨w.heap.size,1,none⟩=some (.int .i64 n)) (first | assumption | (simp [go_sem]))
    (first
      | (go_at_call 53;refine (hc _).mono ?_;rintro e w' ⟨rfl,rfl⟩)
      | (refine (HO.out _ ?_).mono ?_;exact ((Step.refl _ _).alloc _).drew;rintro e W1 ⟨ev,S1,rfl,he,hI,hs⟩;have hx1:=(hs.cell (p:=⟨w.heap.size,1,none⟩) (by simp) HF.out).trans (cell_heap (heap_alloc_new _ _) 1)))
  all_goals go_wp2
  all_goals go_ret
  all_goals exact ⟨_,_,rfl,he,hI,(((Step.refl _ _).alloc _).drew).trans hs⟩

end Go.Proofs.YtmjcnomgpikncaaGreatDoor

namespace Go.Proofs.YtmjcnomgpikncaaGreatDoor

open Go.RowKit Go.Deep Go.Proofs.YtmjcnomgpikncaaGreatDoorW.PrintWords



set_option maxRecDepth 100000 in
set_option maxHeartbeats 4000000 in
theorem put_str (P:PW) (t:Int) (v1 v3 v4 v5 v6:Value) (A:Option Addr) (c:Nat) (xs:List Int) (ht:t % 256=11) {S:List Nat} {s:P.σ} {w w0:World} (h:P.Is S s w) (hx:(Kd.int .u8).C w0 A xs.length xs) (hB:Below w0.heap.size w0 w) (hS:∀ k,k∈S→w0.heap.size≤k) (hl:xs.length≤2147483647) (hr:P.room s+WOp.cost (.str (toB xs))≤140737488355328) :
    Calls Tryz.prog 44 #[.iface P.ty P.ptr,.agg #[.int .i64 t,v1,.slice A xs.length c,v3,v4,v5,v6]] w (Did P.Is S w (P.run s (.str (toB xs)))):=by
  have hm:=P.meth (.str (toB xs))
  have hn:=P.ahead (.str (toB xs))
  have hen:=P.ent (.str (toB xs))
  have hc:=ctx_any
  obtain ⟨r,hrr⟩:∃ r,P.run s (.str (toB xs))=r:=⟨_,rfl⟩
  have hO:=P.at_ h (.str (toB xs)) rfl (by show (toB xs).length≤_;unfold toB;simpa using hl) hr
  rw [hrr] at hO ⊢
  have HO:=Lib.hid hO
  have HF:=Lib.hid (P.fresh h)
  have hC:∀ o,(Kd.int .u8).C (w.alloc o).drew A xs.length xs:=fun o=>Kd.C_below hx ((hB.alloc hB.size o).drew)
  have hV:∀ W,Below w0.heap.size w0 W→(convert 24 9 (.slice A xs.length c)).run Tryz.prog W=.ok (strV (toB xs)) W:=fun W hW=>Kd.C_string Tryz.underlying24 Tryz.underlying5 Tryz.underlying9 (Kd.C_below hx hW)
  have HV:=Lib.hid hV
  have HB:=Lib.hid (show ∀ o,Below w0.heap.size w0 (w.alloc o).drew from fun o=>(hB.alloc hB.size o).drew)
  have hI2:∀ {o S1 W1},Step S S1 (w.alloc o).drew W1→Below w0.heap.size w0 W1:=fun {o S1 W1} hs=>((hB.alloc hB.size o).drew).trans (hs.below _ (by have:=hB.size;simp;omega) hS)
  clear hC hl hV
  clear hO hrr
  change ∀ (args:Array Value) (w:World),(callFunc (P.fn "WriteString") args).run Tryz.prog w=.ok (.enter (P.fn "WriteString") args) w at hen
  change ∀ (k:Nat) (w:World),(method (k+1) P.ty P.ptr "WriteString").run Tryz.prog w=.ok (P.fn "WriteString",P.ptr) w at hm
  change ∀ (k:Nat) (w:World),(nilAhead (k+1) P.ty P.ptr "WriteString").run Tryz.prog w=.ok (some false) w at hn
  go_enter Tryz.func44,Tryz.ntmps44
  go_wp2_with (first | (go_at_call 50;go_in))
  go_region_held3 (fun W'=>W'.cell? ⟨w.heap.size,2,none⟩=some (.slice A xs.length c)∧(convert 24 9 (.slice A xs.length c)).run Tryz.prog W'=.ok (strV (toB xs)) W') (first | exact ⟨hx1,HV.out _ (hI2 hs)⟩ | exact ⟨by simp [go_sem],HV.out _ (HB.out _)⟩)
    (first
      | (go_at_call 53;refine (hc _).mono ?_;rintro e w' ⟨rfl,rfl⟩)
      | (refine (HO.out _ ?_).mono ?_;exact ((Step.refl _ _).alloc _).drew;rintro e W1 ⟨ev,S1,rfl,he,hI,hs⟩;have hx1:=(hs.cell (p:=⟨w.heap.size,2,none⟩) (by simp) HF.out).trans (cell_heap (heap_alloc_new _ _) 2)))
  all_goals go_wp2
  all_goals go_ret
  all_goals exact ⟨_,_,rfl,he,hI,(((Step.refl _ _).alloc _).drew).trans hs⟩

set_option maxRecDepth 100000 in
set_option maxHeartbeats 4000000 in
theorem put_uuid (P:PW) (t:Int) (v1 v3 v4 v5 v6:Value) (A:Option Addr) (c:Nat) (xs:List Int) (ht:t % 256=16) {S:List Nat} {s:P.σ} {w w0:World} (h:P.Is S s w) (hx:(Kd.int .u8).C w0 A xs.length xs) (hB:Below w0.heap.size w0 w) (hS:∀ k,k∈S→w0.heap.size≤k) (h8:∀ x∈xs,0≤x∧x < 256) (hr:P.room s+WOp.cost (.uuid (u16 (toB xs)))≤140737488355328) :
    Calls Tryz.prog 44 #[.iface P.ty P.ptr,.agg #[.int .i64 t,v1,.slice A xs.length c,v3,v4,v5,v6]] w (Did P.Is S w (P.run s (.uuid (u16 (toB xs))))):=by
  have hm:=P.meth (.uuid (u16 (toB xs)))
  have hn:=P.ahead (.uuid (u16 (toB xs)))
  have hen:=P.ent (.uuid (u16 (toB xs)))
  have hc:=ctx_any
  obtain ⟨r,hrr⟩:∃ r,P.run s (.uuid (u16 (toB xs)))=r:=⟨_,rfl⟩
  have hO:=P.at_ h (.uuid (u16 (toB xs))) rfl (u16_length _) hr
  rw [hrr] at hO ⊢
  have HO:=Lib.hid hO
  have HF:=Lib.hid (P.fresh h)
  have hC:∀ o,(Kd.int .u8).C (w.alloc o).drew A xs.length xs:=fun o=>Kd.C_below hx ((hB.alloc hB.size o).drew)
  have hU:∀ o,Calls Tryz.prog 66 #[.slice A xs.length c] (w.alloc o).drew fun e w'=>e=.returned (.agg (Lib.byteCells (u16 (toB xs))).toArray)∧Below (w.alloc o).drew.heap.size (w.alloc o).drew w':=fun o=>uuid_of c (hC o) h8
  have HU:=Lib.hid hU
  clear hU hC h8
  clear hO hrr
  change ∀ (args:Array Value) (w:World),(callFunc (P.fn "WriteUUID") args).run Tryz.prog w=.ok (.enter (P.fn "WriteUUID") args) w at hen
  change ∀ (k:Nat) (w:World),(method (k+1) P.ty P.ptr "WriteUUID").run Tryz.prog w=.ok (P.fn "WriteUUID",P.ptr) w at hm
  change ∀ (k:Nat) (w:World),(nilAhead (k+1) P.ty P.ptr "WriteUUID").run Tryz.prog w=.ok (some false) w at hn
  go_enter Tryz.func44,Tryz.ntmps44
  go_wp2_with (first | (go_at_call 50;go_in))
  go_region_held3 (fun W'=>W'.cell? ⟨w.heap.size,2,none⟩=some (.slice A xs.length c)) (first | assumption | (simp [go_sem]) | exact hx2)
    (first
      | (go_at_call 53;refine (hc _).mono ?_;rintro e w' ⟨rfl,rfl⟩)
      | (go_at_call 66;refine (HU.out _).mono ?_;rintro e W0 ⟨rfl,hb⟩;have hx2:W0.cell? ⟨w.heap.size,2,none⟩=some (.slice A xs.length c):=(hb.cell (p:=⟨w.heap.size,2,none⟩) (by show w.heap.size < _;simp)).trans (cell_heap (heap_alloc_new _ _) 2))
      | (refine (HO.out _ ?_).mono ?_;exact (((Step.refl _ _).alloc _).drew).trans (Step.ofBelow hb);rintro e W1 ⟨ev,S1,rfl,he,hI,hs⟩;have hx1:=(hs.cell (p:=⟨w.heap.size,2,none⟩) (by show w.heap.size < W0.heap.size;have:=hb.size;simp at this;omega) HF.out).trans (hx2)))
  all_goals go_wp2
  all_goals go_ret
  all_goals exact ⟨_,_,rfl,he,hI,((((Step.refl _ _).alloc _).drew).trans (Step.ofBelow hb)).trans hs⟩

end Go.Proofs.YtmjcnomgpikncaaGreatDoor

namespace Go.Proofs.YtmjcnomgpikncaaGreatDoor

open Go.RowKit Go.Deep Go.Proofs.YtmjcnomgpikncaaGreatDoorW.PrintWords



def Puts (P:PW) (w0:World) (V:Val):Prop :=
  ∀ (S:List Nat) (s:P.σ) (w:World) (cs:List Value),P.Is S s w→(∀ k,k∈S→w0.heap.size≤k)→Below w0.heap.size w0 w→kVal.K w0 V cs→P.room s+costs (ops V)≤140737488355328 →
    Calls Tryz.prog 44 #[.iface P.ty P.ptr,.agg cs.toArray] w (Did P.Is S w (runs P.run (ops V) s))

set_option maxRecDepth 100000 in
set_option maxHeartbeats 4000000 in
theorem putAll_any (P:PW) (w0:World) (l:List Val) (hl:∀ v,v∈l→Puts P w0 v) (A:Option Addr) (c:Nat) {S:List Nat} {s:P.σ} {w:World} (h:P.Is S s w) (hS:∀ k,k∈S→w0.heap.size≤k) (hB:Below w0.heap.size w0 w)
    (hC:kVal.C w0 A l.length l) (hr:P.room s+costs (opsL l l.length)≤140737488355328) :
    Calls Tryz.prog 68 #[.iface P.ty P.ptr,.slice A l.length c] w (Did P.Is S w (runs P.run (opsL l l.length) s)):=by
  have hmx:=hC.2.1
  have HC:=Lib.hid hC
  have HL:=Lib.hid hl
  have HR:=Lib.hid hr
  have H0:=Lib.hid (show runs P.run (opsL l 0) s=(s,0) by cases l <;> simp [opsL,runs])
  have HI0:=Lib.hid h
  clear hC hl hr
  obtain ⟨r,hrr⟩:∃ r,runs P.run (opsL l l.length) s=r:=⟨_,rfl⟩
  rw [hrr]
  have HRR:=Lib.hid hrr
  clear hrr
  go_enter Tryz.func68,Tryz.ntmps68
  go_wp2_with (fail)
  go_loopw [10] (fun i wr=>∃ k S1 s1,k≤l.length∧i=.int .i64 (k:Nat)∧Hid (runs P.run (opsL l k) s=(s1,0))∧P.Is S1 s1 wr∧Step S S1 w wr) (fun i _=>l.length - (intOf i).toNat)
  case atStart=>exact ⟨0,S,s,by omega,rfl,H0,HI0.out,Step.refl _ _⟩
  case round =>
    obtain ⟨k,S1,s1,hk,rfl,hrun,hI,hs⟩:=hrel
    have hBr:Below w0.heap.size w0 wr:=hB.trans (hs.below _ hB.size hS)
    by_cases hlt:k < l.length
    · obtain ⟨ad,cc,rfl,hcl,hK,hc0⟩:=Kd.C_get HC.out zVal (k:Int) (by omega) (by omega)
      have hK2:=hK
      obtain ⟨A2,c2,A5,c5,A6,c6,rfl,-⟩:=kVal_open hK2
      have hc:∀ j u,_→wr.cell? (ad.add (k * 7+j))=some u:=fun j u hj=>pw_cell_below (hBr) (hc0 j u hj)
      have g0:=hc 0 _ rfl
      have g1:=hc 1 _ rfl
      have g2:=hc 2 _ rfl
      have g3:=hc 3 _ rfl
      have g4:=hc 4 _ rfl
      have g5:=hc 5 _ rfl
      have g6:=hc 6 _ rfl
      rw [add_field _ _ _ (by omega)] at g1 g2 g3 g4 g5 g6
      rw [Nat.add_zero] at g0
      clear hc hc0 hK2
      have hv:l.getD ((k:Int)).toNat zVal=l[k]:=by simp [hlt]
      have hP:=fun o=>HL.out l[k] (List.getElem_mem hlt) S1 s1 (wr.alloc o) _ (P.step hI ((Step.refl [] wr).alloc o) (by simp)) (fun j hj=>by rcases hs.own j hj with hh | hh;exact hS j hh;have:=hB.size;omega) (hBr.alloc hBr.size o) (hv ▸ hK) (room_at P l k hlt s s1 hrun.out _ HR.out)
      rw [hv] at g0 g1 g2 g3 g4 g5 g6
      have HP:=Lib.hid hP
      clear hP hv hK hcl
      go_wp2_with (fail)
      refine (HP.out _).mono ?_
      rintro e W1 ⟨ev,S2,rfl,he,hI2,hs2⟩
      by_cases hz:(runs P.run (ops l[k]) s1).2=0
      · have hnx:=runs_next P.run l k hlt s s1 hrun.out
        have hne:runs P.run (opsL l (k+1)) s=((runs P.run (ops l[k]) s1).1,0):=by rw [hnx];exact Prod.ext rfl hz
        rw [hz] at he
        obtain rfl:=he.zero
        have HN:=Lib.hid hne
        clear hz hnx hne he g0 g1 g2 g3 g4 g5 g6
        go_wp2
        go_roundw
        case rel=>exact ⟨k+1,S2,_,by omega,by go_num,HN,hI2,hs.trans (((Step.refl _ _).alloc _).trans hs2)⟩
        case measure=>simp [intOf];omega
      · have hha:=runs_halt P.run l k hlt s s1 hrun.out hz
        rw [HRR.out] at hha
        rcases he with ⟨h0,_⟩ | he
        · exact absurd h0 hz
        have HE:=Lib.hid he
        obtain ⟨b,t,er,ms,hk1,hk2,rfl,hb⟩:=he
        have HH:=Lib.hid hha
        clear hk1 hk2 hb hha hz g0 g1 g2 g3 g4 g5 g6
        go_wp2
        go_ret
        rw [HH.out]
        exact ⟨_,_,rfl,.inr HE.out,hI2,hs.trans (((Step.refl _ _).alloc _).trans hs2)⟩
    · obtain rfl:k=l.length:=by omega
      go_wp2
      go_ret
      rw [hrun.out] at HRR
      rw [← HRR.out]
      exact ⟨_,_,rfl,IsErr.nil _,hI,hs⟩

end Go.Proofs.YtmjcnomgpikncaaGreatDoor

namespace Go.Proofs.YtmjcnomgpikncaaGreatDoor

open Go.RowKit Go.Deep Go.Proofs.YtmjcnomgpikncaaGreatDoorW.PrintWords



def Aft (P:PW) (S:List Nat) (w:World) (r:P.σ × Nat) (u:Value) (wx:World):Prop:=∃ S1,IsErr r.2 u wx∧P.Is S1 r.1 wx∧Step S S1 w wx

theorem typ_of (x:Int) (w:World):Calls Tryz.prog 50 #[.int .i64 x] w fun e w'=>e=.returned (.int .u8 (x % 256))∧w=w':=by
  go_enter Tryz.func50,Tryz.ntmps50
  go_wp2
  go_ret
  exact ⟨rfl,rfl⟩

theorem ints_at {w:World} {A:Option Addr} {l:List Int} (h:(Kd.int .i64).C w A l.length l) (k:Nat) (hk:k < l.length):∃ ad,A=some ad∧w.cell? (ad.add k)=some (.int .i64 l[k]):=by
  obtain ⟨ad,cc,rfl,hcl,hK,hc⟩:=Kd.C_get h 0 (k:Int) (by omega) (by omega)
  obtain rfl:cc=[.int .i64 (l.getD ((k:Int)).toNat 0)]:=hK
  refine ⟨ad,rfl,?_⟩
  have:=hc 0 _ rfl
  simpa [Kd.int,Kd.scalar,hk] using this

set_option maxRecDepth 100000 in
set_option maxHeartbeats 4000000 in
theorem putStruct_any (P:PW) (w0:World) (l:List Val) (ids:List Int) (hl:∀ v,v∈l→Puts P w0 v) (A B:Option Addr) (c d:Nat) (v0 v1 v2 v3 v4:Value) {S:List Nat} {s:P.σ} {w:World} (h:P.Is S s w) (hS:∀ k,k∈S→w0.heap.size≤k) (hB:Below w0.heap.size w0 w)
 (hC:kVal.C w0 A l.length l) (hD:(Kd.int .i64).C w0 B ids.length ids) (hr:P.room s+costs (.strB :: (opsF l ids++[.stop,.strE]))≤140737488355328) :
 Calls Tryz.prog 67 #[.iface P.ty P.ptr,.agg #[v0,v1,v2,v3,v4,.slice B ids.length d,.slice A l.length c]] w (Did P.Is S w (runs P.run (.strB :: (opsF l ids++[.stop,.strE])) s)):=by
 have hc:=ctx_any
 obtain ⟨m1,n1,e1⟩:=P.m_strB
 obtain ⟨m2,n2,e2⟩:=P.m_strE
 obtain ⟨m3,n3,e3⟩:=P.m_fldB
 obtain ⟨m4,n4,e4⟩:=P.m_fldE
 obtain ⟨m5,n5,e5⟩:=P.m_stop
 have hmx:=hC.2.1
 have hmy:=hD.2.1
 have HC:=Lib.hid hC
 have HD:=Lib.hid hD
 have HL:=Lib.hid hl
 have HR:=Lib.hid hr
 clear hC hD hl hr
 obtain ⟨r,hrr⟩:∃ r,runs P.run (.strB :: (opsF l ids++[.stop,.strE])) s=r:=⟨_,rfl⟩
 rw [hrr]
 have HRR:=Lib.hid hrr
 clear hrr
 obtain ⟨W0,hW0⟩:∃ W0,W0=w.alloc (.cells #[v0,v1,v2,v3,v4,.slice B ids.length d,.slice A l.length c] 28):=⟨_,rfl⟩
 have hz0:w.heap.size < W0.heap.size:=by rw [hW0];simp
 have hI0:P.Is S s W0:=by rw [hW0];exact P.step h ((Step.refl [] w).alloc _) (by simp)
 have hs0:Step S S w W0:=by rw [hW0];exact (Step.refl _ _).alloc _
 have hB0:Below w0.heap.size w0 W0:=by rw [hW0];exact hB.alloc hB.size _
 have hnb:=P.fresh h
 have b5:W0.cell? ⟨w.heap.size,5,none⟩=some (.slice B ids.length d):=by rw [hW0];exact cell_heap (heap_alloc_new _ _) 5
 have b6:W0.cell? ⟨w.heap.size,6,none⟩=some (.slice A l.length c):=by rw [hW0];exact cell_heap (heap_alloc_new _ _) 6
 have hbx:∀ S1 W,Step S S1 W0 W→W.cell? ⟨w.heap.size,5,none⟩=some (.slice B ids.length d)∧W.cell? ⟨w.heap.size,6,none⟩=some (.slice A l.length c):=fun S1 W hs=>⟨(hs.cell (p:=⟨w.heap.size,5,none⟩) hz0 hnb).trans b5,(hs.cell (p:=⟨w.heap.size,6,none⟩) hz0 hnb).trans b6⟩
 have HBX:=Lib.hid hbx
 have HB0:=Lib.hid hB0
 have HI0:=Lib.hid hI0
 clear h hB hbx hB0 hI0
 have HRR0:=HRR
 have HR0:=HR
 clear HRR HR
 have HO1:=Lib.hid (P.at_ HI0.out .strB rfl trivial (Nat.le_trans (by rw [costs_cons];omega) HR0.out))
 go_enter Tryz.func67,Tryz.ntmps67
 go_wp2_with (fail)
 rw [← hW0]
 clear hW0
 go_upto_region 1 with (fail)
 go_cut [5] (fun u5 wx=>Aft P S W0 (P.run s .strB) u5 wx)
 case first =>
  go_region_held3 (fun W'=>W'.cell? ⟨w.heap.size,5,none⟩=some (.slice B ids.length d)) (first | assumption | exact b5 | exact (HBX.out _ _ hs1).1)
   (first
    | (go_at_call 53;refine (hc _).mono ?_;rintro e w' ⟨rfl,rfl⟩)
    | (refine (HO1.out _ ?_).mono ?_;exact (Step.refl _ _).drew;rintro e W1 ⟨ev,S1,rfl,he,hI1,hs1⟩;replace hs1:=(Step.refl S W0).drew.trans hs1))
  all_goals (go_wp2_with (fail);go_meet;exact ⟨_,he,hI1,hs1⟩)
 case rest =>
 clear b5 b6
 obtain ⟨S1,he,hI1,hs1⟩:=hcut
 by_cases hz:(P.run s .strB).2≠0
 · have hb:=runs_bad P.run _ _ s HRR0.out hz
   rcases he with ⟨h0,_⟩ | he
   · exact absurd h0 hz
   have HE:=Lib.hid he
   obtain ⟨bb,tt,er,ms,q1,q2,rfl,q3⟩:=he
   have HH:=Lib.hid hb
   clear q1 q2 q3 hb hz
   go_wp2
   go_ret
   rw [← HH.out]
   exact ⟨_,_,rfl,.inr HE.out,(by assumption),hs0.trans hs1⟩
 replace hz:=Decidable.not_not.1 hz
 have HRR1:=Lib.hid (runs_ok P.run _ _ s HRR0.out hz)
 have HR1:=Lib.hid (room_ok P _ _ s HR0.out)
 rw [hz] at he
 obtain rfl:=he.zero
 clear he hz
 obtain ⟨s1,hs1e⟩:∃ s1,(P.run s .strB).1=s1:=⟨_,rfl⟩
 rw [hs1e] at HRR1 HR1 hI1
 clear hs1e HO1
 go_wp2_with (fail)
 go_loopg [6] l.length (fun gk i wr=>∃ k S2 s2,gk=l.length - k∧k≤l.length∧k≤ids.length∧i=.int .i64 (k:Nat)∧Hid (runs P.run (opsF (l.drop k) (ids.drop k)++[.stop,.strE]) s2=r)∧Hid (P.room s2+costs (opsF (l.drop k) (ids.drop k)++[.stop,.strE])≤140737488355328)∧P.Is S2 s2 wr∧Step S S2 W0 wr)
 case atStart=>exact ⟨0,S1,s1,by omega,by omega,by omega,rfl,HRR1,HR1,hI1,hs1⟩
 case round =>
  obtain ⟨k,S2,s2,rfl,hk1,hk2,rfl,HRR2,HR2,hI2,hs2⟩:=hrel
  have hb2:=HBX.out _ _ hs2
  obtain ⟨x5,x6⟩:=hb2
  have hS2:∀ j,j∈S2→w0.heap.size≤j:=fun j hj=>by
   rcases hs2.own j hj with hh | hh
   · exact hS j hh
   · have:=HB0.out.size;omega
  have hB2:Below w0.heap.size w0 wr:=HB0.out.trans (hs2.below _ HB0.out.size hS)
  by_cases h12:k < l.length∧k < ids.length
  · obtain ⟨h1,h2⟩:=h12
    obtain ⟨ad,cc,rfl,hcl,hK,hc0⟩:=Kd.C_get HC.out zVal (k:Int) (by omega) (by omega)
    have hK2:=hK
    obtain ⟨A2,c2,A5,c5,A6,c6,rfl,-⟩:=kVal_open hK2
    obtain ⟨bd,rfl,hid⟩:=ints_at HD.out k h2
    have hv:l.getD ((k:Int)).toNat zVal=l[k]:=by simp [h1]
    rw [hv] at hK hc0
    have hcell:∀ W,Below w0.heap.size w0 W→(W.cell? (ad.add (k * 7))=some (.int .i64 l[k].f0)∧W.cell? ⟨(ad.add (k * 7)).block,(ad.add (k * 7)).off+1,none⟩=some (.int .i64 l[k].f1)∧W.cell? ⟨(ad.add (k * 7)).block,(ad.add (k * 7)).off+2,none⟩=some (.slice A2 l[k].f2.length c2)∧W.cell? ⟨(ad.add (k * 7)).block,(ad.add (k * 7)).off+3,none⟩=some (.int .i64 l[k].f3)∧W.cell? ⟨(ad.add (k * 7)).block,(ad.add (k * 7)).off+4,none⟩=some (.int .i64 l[k].f4)∧W.cell? ⟨(ad.add (k * 7)).block,(ad.add (k * 7)).off+5,none⟩=some (.slice A5 l[k].f5.length c5)∧W.cell? ⟨(ad.add (k * 7)).block,(ad.add (k * 7)).off+6,none⟩=some (.slice A6 l[k].f6.length c6))∧W.cell? (bd.add k)=some (.int .i64 ids[k]):=fun W hW=>by
     have hc:∀ j u,_→W.cell? (ad.add (k * 7+j))=some u:=fun j u hj=>pw_cell_below hW (hc0 j u hj)
     refine ⟨⟨?_,?_,?_,?_,?_,?_,?_⟩,pw_cell_below hW hid⟩
     · exact hc 0 _ rfl
     · rw [← add_field _ _ 1 (by omega)];exact hc 1 _ rfl
     · rw [← add_field _ _ 2 (by omega)];exact hc 2 _ rfl
     · rw [← add_field _ _ 3 (by omega)];exact hc 3 _ rfl
     · rw [← add_field _ _ 4 (by omega)];exact hc 4 _ rfl
     · rw [← add_field _ _ 5 (by omega)];exact hc 5 _ rfl
     · rw [← add_field _ _ 6 (by omega)];exact hc 6 _ rfl
    have HCELL:=Lib.hid hcell
    have HK:=Lib.hid hK
    have HV:=Lib.hid hv
    clear hK2 hc0 hcl hcell hid hK hv
    have hd:=opsF_drop l ids k h1 h2
    have e3:opsF (l.drop k) (ids.drop k)++[.stop,.strE]=.fldB (l[k].f0 % 256) (w16 ids[k]) :: (ops l[k]++(.fldE :: (opsF (l.drop (k+1)) (ids.drop (k+1))++[.stop,.strE]))):=by rw [hd];simp
    have r3:=HRR2.out
    have q3:=HR2.out
    rw [e3] at r3 q3
    clear HRR2 HR2 hd e3
    have HRR2:=Lib.hid r3
    have HR2:=Lib.hid q3
    clear r3 q3
    have HO2:=Lib.hid (P.at_ hI2 (.fldB (l[k].f0 % 256) (w16 ids[k])) rfl ⟨⟨by omega,by omega⟩,by unfold w16;omega,by unfold w16;omega⟩ (Nat.le_trans (by rw [costs_cons];omega) HR2.out))
    have hw16:IntKind.i16.wrap ids[k]=w16 ids[k]:=by rw [wrap_i16];rfl
    have hkeep:∀ S3 W,Step S2 S3 wr W→((W.cell? ⟨w.heap.size,5,none⟩=some (.slice (some bd) ids.length d)∧W.cell? ⟨w.heap.size,6,none⟩=some (.slice (some ad) l.length c))∧((W.cell? (ad.add (k * 7))=some (.int .i64 l[k].f0)∧W.cell? ⟨(ad.add (k * 7)).block,(ad.add (k * 7)).off+1,none⟩=some (.int .i64 l[k].f1)∧W.cell? ⟨(ad.add (k * 7)).block,(ad.add (k * 7)).off+2,none⟩=some (.slice A2 l[k].f2.length c2)∧W.cell? ⟨(ad.add (k * 7)).block,(ad.add (k * 7)).off+3,none⟩=some (.int .i64 l[k].f3)∧W.cell? ⟨(ad.add (k * 7)).block,(ad.add (k * 7)).off+4,none⟩=some (.int .i64 l[k].f4)∧W.cell? ⟨(ad.add (k * 7)).block,(ad.add (k * 7)).off+5,none⟩=some (.slice A5 l[k].f5.length c5)∧W.cell? ⟨(ad.add (k * 7)).block,(ad.add (k * 7)).off+6,none⟩=some (.slice A6 l[k].f6.length c6))∧W.cell? (bd.add k)=some (.int .i64 ids[k])))∧Below w0.heap.size w0 W:=fun S3 W hW=>⟨⟨HBX.out _ _ (hs2.trans hW),HCELL.out _ (hB2.trans (hW.below _ hB2.size hS2))⟩,hB2.trans (hW.below _ hB2.size hS2)⟩
    have HKEEP:=Lib.hid hkeep
    have HS2:=Lib.hid hs2
    have HBB2:=Lib.hid hB2
    clear hkeep
    have hk0:(0:Int)≤(k:Int):=by omega
    have hkl:(k:Int) < l.length:=by omega
    have hki:(k:Int) < ids.length:=by omega
    go_upto_region 7 with (fail)
    go_cut [7] (fun u7 wx=>Aft P S2 wr (P.run s2 (.fldB (l[k].f0 % 256) (w16 ids[k]))) u7 wx)
    case first =>
     go_region_held3 (fun W'=>((W'.cell? ⟨w.heap.size,5,none⟩=some (.slice (some bd) ids.length d)∧W'.cell? ⟨w.heap.size,6,none⟩=some (.slice (some ad) l.length c))∧((W'.cell? (ad.add (k * 7))=some (.int .i64 l[k].f0)∧W'.cell? ⟨(ad.add (k * 7)).block,(ad.add (k * 7)).off+1,none⟩=some (.int .i64 l[k].f1)∧W'.cell? ⟨(ad.add (k * 7)).block,(ad.add (k * 7)).off+2,none⟩=some (.slice A2 l[k].f2.length c2)∧W'.cell? ⟨(ad.add (k * 7)).block,(ad.add (k * 7)).off+3,none⟩=some (.int .i64 l[k].f3)∧W'.cell? ⟨(ad.add (k * 7)).block,(ad.add (k * 7)).off+4,none⟩=some (.int .i64 l[k].f4)∧W'.cell? ⟨(ad.add (k * 7)).block,(ad.add (k * 7)).off+5,none⟩=some (.slice A5 l[k].f5.length c5)∧W'.cell? ⟨(ad.add (k * 7)).block,(ad.add (k * 7)).off+6,none⟩=some (.slice A6 l[k].f6.length c6))∧W'.cell? (bd.add k)=some (.int .i64 ids[k])))) (first | exact (HKEEP.out _ _ (Step.refl _ _).drew).1 | exact (HKEEP.out _ _ hs3).1)
      (first
       | (go_at_call 53;refine (hc _).mono ?_;rintro e w' ⟨rfl,rfl⟩)
       | (go_at_call 50;refine (typ_of _ _).mono ?_;rintro e w' ⟨rfl,rfl⟩)
       | (refine (HO2.out _ ?_).mono ?_;exact (Step.refl _ _).drew;rintro e W3 ⟨ev,S3,rfl,he,hI3,hs3⟩;replace hs3:=(Step.refl S2 wr).drew.trans hs3))
     all_goals (go_wp2_with (fail);go_meet;exact ⟨_,he,hI3,hs3⟩)
    case rest =>
    obtain ⟨S3,he,hI3,hs3⟩:=hcut
    by_cases hz:(P.run s2 (.fldB (l[k].f0 % 256) (w16 ids[k]))).2≠0
    · have hb:=runs_bad P.run _ _ s2 HRR2.out hz
      rcases he with ⟨h0,_⟩ | he
      · exact absurd h0 hz
      have HE:=Lib.hid he
      obtain ⟨bb,tt,er,ms,q1,q2,rfl,q3⟩:=he
      have HH:=Lib.hid hb
      clear q1 q2 q3 hb hz
      go_wp2
      go_ret
      rw [← HH.out]
      exact ⟨_,_,rfl,.inr HE.out,(by assumption),hs0.trans (HS2.out.trans hs3)⟩
    replace hz:=Decidable.not_not.1 hz
    have HRR3:=Lib.hid (runs_ok P.run _ _ s2 HRR2.out hz)
    have HR3:=Lib.hid (room_ok P _ _ s2 HR2.out)
    rw [hz] at he
    obtain rfl:=he.zero
    clear he hz
    obtain ⟨s3,hs3e⟩:∃ s3,(P.run s2 (.fldB (l[k].f0 % 256) (w16 ids[k]))).1=s3:=⟨_,rfl⟩
    rw [hs3e] at HRR3 HR3 hI3
    clear hs3e HO2
    obtain ⟨⟨⟨x5b,x6b⟩,⟨g0,g1,g2,g3,g4,g5,g6⟩,g7⟩,hB3⟩:=HKEEP.out _ _ hs3
    have hS3:∀ j,j∈S3→w0.heap.size≤j:=fun j hj=>by
     rcases hs3.own j hj with hh | hh
     · exact hS2 j hh
     · have:=hB2.size;omega
    have HP:=Lib.hid (HL.out l[k] (List.getElem_mem h1) S3 s3 _ _ hI3 hS3 hB3 HK.out (Nat.le_trans (by rw [costs_append];omega) HR3.out))
    go_wp2_with (fail)
    refine HP.out.mono ?_
    rintro e W4 ⟨ev,S4,rfl,he,hI4,hs4⟩
    clear g0 g1 g2 g3 g4 g5 g6 g7 x5b x6b x5 x6
    by_cases hz:(runs P.run (ops l[k]) s3).2≠0
    · have hb:=runs_bad_app P.run _ _ s3 HRR3.out hz
      rcases he with ⟨h0,_⟩ | he
      · exact absurd h0 hz
      have HE:=Lib.hid he
      obtain ⟨bb,tt,er,ms,q1,q2,rfl,q3⟩:=he
      have HH:=Lib.hid hb
      clear q1 q2 q3 hb hz
      go_wp2
      go_ret
      rw [← HH.out]
      exact ⟨_,_,rfl,.inr HE.out,(by assumption),hs0.trans (HS2.out.trans (hs3.trans hs4))⟩
    replace hz:=Decidable.not_not.1 hz
    have HRR4:=Lib.hid (runs_ok_app P.run _ _ s3 HRR3.out hz)
    have HR4:=Lib.hid (room_app P _ _ s3 HR3.out)
    rw [hz] at he
    obtain rfl:=he.zero
    clear he hz
    obtain ⟨s4,hs4e⟩:∃ s4,(runs P.run (ops l[k]) s3).1=s4:=⟨_,rfl⟩
    rw [hs4e] at HRR4 HR4 hI4
    clear hs4e HP
    have HO4:=Lib.hid (P.at_ hI4 .fldE rfl trivial (Nat.le_trans (by rw [costs_cons];omega) HR4.out))
    go_upto_region 13 with (fail)
    go_cut [9] (fun u9 wx=>Aft P S4 W4 (P.run s4 .fldE) u9 wx)
    case first =>
     go_region_held3 (fun W'=>True) (trivial)
      (first
       | (go_at_call 53;refine (hc _).mono ?_;rintro e w' ⟨rfl,rfl⟩)
       | (refine (HO4.out _ ?_).mono ?_;exact (Step.refl _ _).drew;rintro e W5 ⟨ev,S5,rfl,he,hI5,hs5⟩;replace hs5:=(Step.refl S4 W4).drew.trans hs5))
     all_goals (go_wp2_with (fail);go_meet;exact ⟨_,he,hI5,hs5⟩)
    case rest =>
    obtain ⟨S5,he,hI5,hs5⟩:=hcut
    by_cases hz:(P.run s4 .fldE).2≠0
    · have hb:=runs_bad P.run _ _ s4 HRR4.out hz
      rcases he with ⟨h0,_⟩ | he
      · exact absurd h0 hz
      have HE:=Lib.hid he
      obtain ⟨bb,tt,er,ms,q1,q2,rfl,q3⟩:=he
      have HH:=Lib.hid hb
      clear q1 q2 q3 hb hz
      go_wp2
      go_ret
      rw [← HH.out]
      exact ⟨_,_,rfl,.inr HE.out,(by assumption),hs0.trans (HS2.out.trans (hs3.trans (hs4.trans hs5)))⟩
    replace hz:=Decidable.not_not.1 hz
    have HRR5:=Lib.hid (runs_ok P.run _ _ s4 HRR4.out hz)
    have HR5:=Lib.hid (room_ok P _ _ s4 HR4.out)
    rw [hz] at he
    obtain rfl:=he.zero
    clear he hz
    have HS5:=Lib.hid (HS2.out.trans (hs3.trans (hs4.trans hs5)))
    clear HO4 hs3 hs4 hs5
    go_wp2
    go_roundg (l.length - (k+1))
    case measure=>omega
    case rel=>exact ⟨k+1,S5,_,rfl,by omega,by omega,by go_num,HRR5,HR5,hI5,HS5.out⟩
  · have he0:=opsF_end l ids k h12
    have r3:=HRR2.out
    have q3:=HR2.out
    rw [he0] at r3 q3
    simp only [List.nil_append] at r3 q3
    have HRR3:=Lib.hid r3
    have HR3:=Lib.hid q3
    clear r3 q3 HRR2 HR2 he0
    have HO5:=Lib.hid (P.at_ hI2 .stop rfl trivial (Nat.le_trans (by rw [costs_cons];omega) HR3.out))
    by_cases h1:k < l.length
    · have h2:¬ k < ids.length:=fun h=>h12 ⟨h1,h⟩
      go_upto_region 16 with (fail)
      clear x5 x6
      go_cut [10] (fun u10 wx=>Aft P S2 wr (P.run s2 .stop) u10 wx)
      case first =>
       go_region_held3 (fun W'=>True) (trivial)
        (first
         | (go_at_call 53;refine (hc _).mono ?_;rintro e w' ⟨rfl,rfl⟩)
         | (refine (HO5.out _ ?_).mono ?_;exact (Step.refl _ _).drew;rintro e W3 ⟨ev,S3,rfl,he,hI3,hs3⟩;replace hs3:=(Step.refl S2 wr).drew.trans hs3))
       all_goals (go_wp2_with (fail);go_meet;exact ⟨_,he,hI3,hs3⟩)
      case rest =>
      obtain ⟨S3,he,hI4,hs3⟩:=hcut
      by_cases hz:(P.run s2 .stop).2≠0
      · have hb:=runs_bad P.run _ _ s2 HRR3.out hz
        rcases he with ⟨h0,_⟩ | he
        · exact absurd h0 hz
        have HE:=Lib.hid he
        obtain ⟨bb,tt,er,ms,q1,q2,rfl,q3⟩:=he
        have HH:=Lib.hid hb
        clear q1 q2 q3 hb hz
        go_wp2
        go_ret
        rw [← HH.out]
        exact ⟨_,_,rfl,.inr HE.out,(by assumption),hs0.trans (hs2.trans hs3)⟩
      replace hz:=Decidable.not_not.1 hz
      have HRR4:=Lib.hid (runs_ok P.run _ _ s2 HRR3.out hz)
      have HR4:=Lib.hid (room_ok P _ _ s2 HR3.out)
      rw [hz] at he
      obtain rfl:=he.zero
      clear he hz
      obtain ⟨s3,hs3e⟩:∃ s3,(P.run s2 .stop).1=s3:=⟨_,rfl⟩
      rw [hs3e] at HRR4 HR4 hI4
      clear hs3e HO5
      have hr5:=HRR4.out
      rw [runs_one] at hr5
      have hO6:=P.at_ hI4 .strE rfl trivial (Nat.le_trans (by rw [costs_cons];omega) HR4.out)
      rw [hr5] at hO6
      have HO6:=Lib.hid hO6
      clear hr5 hO6
      go_wp2_with (fail)
      go_region_held3 (fun W'=>True) (trivial)
       (first
        | (go_at_call 53;refine (hc _).mono ?_;rintro e w' ⟨rfl,rfl⟩)
        | (refine (HO6.out _ ?_).mono ?_;exact (Step.refl _ _).drew;rintro e W7 ⟨ev,S7,rfl,he,hI7,hs7⟩;replace hs7:=(Step.refl S3 _).drew.trans hs7))
      all_goals go_wp2
      all_goals go_ret
      all_goals exact ⟨_,_,rfl,he,hI7,hs0.trans (hs2.trans (hs3.trans hs7))⟩
    · skip
      go_upto_region 16 with (fail)
      clear x5 x6
      go_cut [10] (fun u10 wx=>Aft P S2 wr (P.run s2 .stop) u10 wx)
      case first =>
       go_region_held3 (fun W'=>True) (trivial)
        (first
         | (go_at_call 53;refine (hc _).mono ?_;rintro e w' ⟨rfl,rfl⟩)
         | (refine (HO5.out _ ?_).mono ?_;exact (Step.refl _ _).drew;rintro e W3 ⟨ev,S3,rfl,he,hI3,hs3⟩;replace hs3:=(Step.refl S2 wr).drew.trans hs3))
       all_goals (go_wp2_with (fail);go_meet;exact ⟨_,he,hI3,hs3⟩)
      case rest =>
      obtain ⟨S3,he,hI4,hs3⟩:=hcut
      by_cases hz:(P.run s2 .stop).2≠0
      · have hb:=runs_bad P.run _ _ s2 HRR3.out hz
        rcases he with ⟨h0,_⟩ | he
        · exact absurd h0 hz
        have HE:=Lib.hid he
        obtain ⟨bb,tt,er,ms,q1,q2,rfl,q3⟩:=he
        have HH:=Lib.hid hb
        clear q1 q2 q3 hb hz
        go_wp2
        go_ret
        rw [← HH.out]
        exact ⟨_,_,rfl,.inr HE.out,(by assumption),hs0.trans (hs2.trans hs3)⟩
      replace hz:=Decidable.not_not.1 hz
      have HRR4:=Lib.hid (runs_ok P.run _ _ s2 HRR3.out hz)
      have HR4:=Lib.hid (room_ok P _ _ s2 HR3.out)
      rw [hz] at he
      obtain rfl:=he.zero
      clear he hz
      obtain ⟨s3,hs3e⟩:∃ s3,(P.run s2 .stop).1=s3:=⟨_,rfl⟩
      rw [hs3e] at HRR4 HR4 hI4
      clear hs3e HO5
      have hr5:=HRR4.out
      rw [runs_one] at hr5
      have hO6:=P.at_ hI4 .strE rfl trivial (Nat.le_trans (by rw [costs_cons];omega) HR4.out)
      rw [hr5] at hO6
      have HO6:=Lib.hid hO6
      clear hr5 hO6
      go_wp2_with (fail)
      go_region_held3 (fun W'=>True) (trivial)
       (first
        | (go_at_call 53;refine (hc _).mono ?_;rintro e w' ⟨rfl,rfl⟩)
        | (refine (HO6.out _ ?_).mono ?_;exact (Step.refl _ _).drew;rintro e W7 ⟨ev,S7,rfl,he,hI7,hs7⟩;replace hs7:=(Step.refl S3 _).drew.trans hs7))
      all_goals go_wp2
      all_goals go_ret
      all_goals exact ⟨_,_,rfl,he,hI7,hs0.trans (hs2.trans (hs3.trans hs7))⟩

end Go.Proofs.YtmjcnomgpikncaaGreatDoor

namespace Go.Proofs.YtmjcnomgpikncaaGreatDoor

open Go.RowKit Go.Deep Go.Proofs.YtmjcnomgpikncaaGreatDoorW.PrintWords



set_option maxRecDepth 100000 in
set_option maxHeartbeats 4000000 in
theorem put_struct (P:PW) (w0:World) (l:List Val) (ids:List Int) (hl:∀ v,v∈l→Puts P w0 v) (A B:Option Addr) (c d:Nat) (t:Int) (v1 v2 v3 v4:Value) (ht:t % 256=12) {S:List Nat} {s:P.σ} {w:World} (h:P.Is S s w) (hS:∀ k,k∈S→w0.heap.size≤k) (hB:Below w0.heap.size w0 w)
    (hC:kVal.C w0 A l.length l) (hD:(Kd.int .i64).C w0 B ids.length ids) (hr:P.room s+costs (.strB :: (opsF l ids++[.stop,.strE]))≤140737488355328) :
    Calls Tryz.prog 44 #[.iface P.ty P.ptr,.agg #[.int .i64 t,v1,v2,v3,v4,.slice B ids.length d,.slice A l.length c]] w (Did P.Is S w (runs P.run (.strB :: (opsF l ids++[.stop,.strE])) s)):=by
  have hP:=fun o=>putStruct_any P w0 l ids hl A B c d (.int .i64 t) v1 v2 v3 v4 (P.step h ((Step.refl [] w).alloc o) (by simp)) hS (hB.alloc hB.size o) hC hD hr
  obtain ⟨r,hrr⟩:∃ r,runs P.run (.strB :: (opsF l ids++[.stop,.strE])) s=r:=⟨_,rfl⟩
  rw [hrr] at hP ⊢
  have HP:=Lib.hid hP
  clear hP hrr hC hD hr
  go_enter Tryz.func44,Tryz.ntmps44
  go_wp2_with (first | (go_at_call 50;go_in) | (go_at_call 67;refine (HP.out _).mono ?_;rintro e W1 ⟨ev,S1,rfl,he,hI,hs⟩))
  go_ret
  exact ⟨_,_,rfl,he,hI,((Step.refl _ _).alloc _).trans hs⟩

set_option maxRecDepth 100000 in
set_option maxHeartbeats 4000000 in
theorem put_set (P:PW) (w0:World) (l:List Val) (hl:∀ v,v∈l→Puts P w0 v) (A:Option Addr) (c:Nat) (t k e:Int) (v1 v2 v5:Value) (ht:t % 256=14) (hlc:l.length≤c) {S:List Nat} {s:P.σ} {w:World} (h:P.Is S s w) (hS:∀ k,k∈S→w0.heap.size≤k) (hB:Below w0.heap.size w0 w)
    (hC:kVal.C w0 A l.length l) (hr:P.room s+costs (.setB (e % 256) (l.length:Nat) :: (opsL l l.length++[.setE]))≤140737488355328) :
    Calls Tryz.prog 44 #[.iface P.ty P.ptr,.agg #[.int .i64 t,v1,v2,.int .i64 k,.int .i64 e,v5,.slice A l.length c]] w (Did P.Is S w (runs P.run (.setB (e % 256) (l.length:Nat) :: (opsL l l.length++[.setE])) s)):=by
  have hc:=ctx_any
  obtain ⟨m1,n1,e1⟩:=P.m_setB
  obtain ⟨m2,n2,e2⟩:=P.m_setE
  have hmx:=hC.2.1
  have HC:=Lib.hid hC
  have HL:=Lib.hid hl
  have HR0:=Lib.hid hr
  clear hC hl hr
  obtain ⟨r,hrr⟩:∃ r,runs P.run (.setB (e % 256) (l.length:Nat) :: (opsL l l.length++[.setE])) s=r:=⟨_,rfl⟩
  rw [hrr]
  have HRR0:=Lib.hid hrr
  clear hrr
  obtain ⟨W0,hW0⟩:∃ W0,W0=w.alloc (.cells #[.int .i64 t,v1,v2,.int .i64 k,.int .i64 e,v5,.slice A l.length c] 28):=⟨_,rfl⟩
  have hz0:w.heap.size < W0.heap.size:=by rw [hW0];simp
  have hI0:P.Is S s W0:=by rw [hW0];exact P.step h ((Step.refl [] w).alloc _) (by simp)
  have hs0:Step S S w W0:=by rw [hW0];exact (Step.refl _ _).alloc _
  have hB0:Below w0.heap.size w0 W0:=by rw [hW0];exact hB.alloc hB.size _
  have hnb:=P.fresh h
  have b0:W0.cell? ⟨w.heap.size,0,none⟩=some (.int .i64 t):=by rw [hW0];exact cell_heap (heap_alloc_new _ _) 0
  have b3:W0.cell? ⟨w.heap.size,3,none⟩=some (.int .i64 k):=by rw [hW0];exact cell_heap (heap_alloc_new _ _) 3
  have b4:W0.cell? ⟨w.heap.size,4,none⟩=some (.int .i64 e):=by rw [hW0];exact cell_heap (heap_alloc_new _ _) 4
  have b6:W0.cell? ⟨w.heap.size,6,none⟩=some (.slice A l.length c):=by rw [hW0];exact cell_heap (heap_alloc_new _ _) 6
  have hbx:∀ S1 W,Step S S1 W0 W→W.cell? ⟨w.heap.size,3,none⟩=some (.int .i64 k)∧W.cell? ⟨w.heap.size,4,none⟩=some (.int .i64 e)∧W.cell? ⟨w.heap.size,6,none⟩=some (.slice A l.length c):=fun S1 W hs=>⟨(hs.cell (p:=⟨w.heap.size,3,none⟩) hz0 hnb).trans b3,(hs.cell (p:=⟨w.heap.size,4,none⟩) hz0 hnb).trans b4,(hs.cell (p:=⟨w.heap.size,6,none⟩) hz0 hnb).trans b6⟩
  have HBX:=Lib.hid hbx
  have HB0:=Lib.hid hB0
  have HI0:=Lib.hid hI0
  have HO1:=Lib.hid (P.at_ hI0 (.setB (e % 256) (l.length:Nat)) rfl ⟨⟨by omega,by omega⟩,by omega,by omega⟩ (Nat.le_trans (by rw [costs_cons];omega) HR0.out))
  clear h hB hbx hB0 hI0
  go_enter Tryz.func44,Tryz.ntmps44
  go_upto_region 29 with (first | (go_at_call 50;refine (typ_of _ _).mono ?_;rintro e w' ⟨rfl,rfl⟩))
  rw [← hW0]
  clear hW0
  go_cut [7] (fun u wx=>Aft P S W0 (P.run s (.setB (e % 256) (l.length:Nat))) u wx)
  case first =>
   go_region_held3 (fun W'=>W'.cell? ⟨w.heap.size,3,none⟩=some (.int .i64 k)∧W'.cell? ⟨w.heap.size,4,none⟩=some (.int .i64 e)∧W'.cell? ⟨w.heap.size,6,none⟩=some (.slice A l.length c)) (first | exact HBX.out _ _ (Step.refl _ _) | exact HBX.out _ _ (Step.refl _ _).drew | exact HBX.out _ _ hs1)
     (first
       | (go_at_call 53;refine (hc _).mono ?_;rintro e w' ⟨rfl,rfl⟩)
       | (go_at_call 50;refine (typ_of _ _).mono ?_;rintro e w' ⟨rfl,rfl⟩)
       | (refine (HO1.out _ ?_).mono ?_;exact (Step.refl _ _).drew;rintro e W1 ⟨ev,S1,rfl,he,hI1,hs1⟩;replace hs1:=(Step.refl S W0).drew.trans hs1))
   all_goals (go_wp2_with (fail);go_meet;exact ⟨_,he,hI1,hs1⟩)
  case rest =>
  clear b0 b3 b4 b6
  obtain ⟨S1,he,hI1,hs1⟩:=hcut
  by_cases hz:(P.run s (.setB (e % 256) (l.length:Nat))).2≠0
  · have hb:=runs_bad P.run _ _ s HRR0.out hz
    rcases he with ⟨h0,_⟩ | he
    · exact absurd h0 hz
    have HE:=Lib.hid he
    obtain ⟨bb,tt,er,ms,q1,q2,rfl,q3⟩:=he
    have HH:=Lib.hid hb
    clear q1 q2 q3 hb hz
    go_wp2
    go_ret
    rw [← HH.out]
    exact ⟨_,_,rfl,.inr HE.out,(by assumption),hs0.trans hs1⟩
  replace hz:=Decidable.not_not.1 hz
  have HRR1:=Lib.hid (runs_ok P.run _ _ s HRR0.out hz)
  have HR1:=Lib.hid (room_ok P _ _ s HR0.out)
  rw [hz] at he
  obtain rfl:=he.zero
  clear he hz
  obtain ⟨s1,hs1e⟩:∃ s1,(P.run s (.setB (e % 256) (l.length:Nat))).1=s1:=⟨_,rfl⟩
  rw [hs1e] at HRR1 HR1 hI1
  clear hs1e HO1
  have hS1:∀ j,j∈S1→w0.heap.size≤j:=fun j hj=>by
    rcases hs1.own j hj with hh | hh
    · exact hS j hh
    · have:=HB0.out.size;omega
  have hB1:=HB0.out.trans (hs1.below _ HB0.out.size hS)
  have hP:=fun W (hW:Step [] [] _ W)=>putAll_any P w0 l HL.out A c (P.step hI1 hW (by simp)) hS1 (hB1.trans ((hW.below _ hB1.size (by simp)))) HC.out (Nat.le_trans (by rw [costs_append];omega) HR1.out)
  have HP:=Lib.hid hP
  obtain ⟨b3,b4,b6⟩:=HBX.out _ _ hs1
  clear hP
  go_wp2_with (fail)
  refine (HP.out _ (Step.refl _ _)).mono ?_
  rintro e W2 ⟨ev,S2,rfl,he,hI2,hs2⟩
  clear b3 b4 b6
  by_cases hz:(runs P.run (opsL l l.length) s1).2≠0
  · have hb:=runs_bad_app P.run _ _ s1 HRR1.out hz
    rcases he with ⟨h0,_⟩ | he
    · exact absurd h0 hz
    have HE:=Lib.hid he
    obtain ⟨bb,tt,er,ms,q1,q2,rfl,q3⟩:=he
    have HH:=Lib.hid hb
    clear q1 q2 q3 hb hz
    go_wp2
    go_ret
    rw [← HH.out]
    exact ⟨_,_,rfl,.inr HE.out,(by assumption),hs0.trans (hs1.trans hs2)⟩
  replace hz:=Decidable.not_not.1 hz
  have HRR2:=Lib.hid (runs_ok_app P.run _ _ s1 HRR1.out hz)
  have HR2:=Lib.hid (room_app P _ _ s1 HR1.out)
  rw [hz] at he
  obtain rfl:=he.zero
  clear he hz
  obtain ⟨s2,hs2e⟩:∃ s2,(runs P.run (opsL l l.length) s1).1=s2:=⟨_,rfl⟩
  rw [hs2e] at HRR2 HR2 hI2
  clear hs2e HP
  have hr5:=HRR2.out
  rw [runs_one] at hr5
  have hO6:=P.at_ hI2 .setE rfl trivial (Nat.le_trans (by rw [costs_cons];omega) HR2.out)
  rw [hr5] at hO6
  have HO6:=Lib.hid hO6
  clear hr5 hO6
  go_wp2_with (fail)
  go_region_held3 (fun W'=>True) (trivial)
    (first
      | (go_at_call 53;refine (hc _).mono ?_;rintro e w' ⟨rfl,rfl⟩)
      | (refine (HO6.out _ ?_).mono ?_;exact (Step.refl _ _).drew;rintro e W7 ⟨ev,S7,rfl,he,hI7,hs7⟩;replace hs7:=(Step.refl S2 _).drew.trans hs7))
  all_goals go_wp2
  all_goals go_ret
  all_goals exact ⟨_,_,rfl,he,hI7,hs0.trans (hs1.trans (hs2.trans hs7))⟩

set_option maxRecDepth 100000 in
set_option maxHeartbeats 4000000 in
theorem put_lst (P:PW) (w0:World) (l:List Val) (hl:∀ v,v∈l→Puts P w0 v) (A:Option Addr) (c:Nat) (t k e:Int) (v1 v2 v5:Value) (ht:t % 256=15) (hlc:l.length≤c) {S:List Nat} {s:P.σ} {w:World} (h:P.Is S s w) (hS:∀ k,k∈S→w0.heap.size≤k) (hB:Below w0.heap.size w0 w)
    (hC:kVal.C w0 A l.length l) (hr:P.room s+costs (.lstB (e % 256) (l.length:Nat) :: (opsL l l.length++[.lstE]))≤140737488355328) :
    Calls Tryz.prog 44 #[.iface P.ty P.ptr,.agg #[.int .i64 t,v1,v2,.int .i64 k,.int .i64 e,v5,.slice A l.length c]] w (Did P.Is S w (runs P.run (.lstB (e % 256) (l.length:Nat) :: (opsL l l.length++[.lstE])) s)):=by
  have hc:=ctx_any
  obtain ⟨m1,n1,e1⟩:=P.m_lstB
  obtain ⟨m2,n2,e2⟩:=P.m_lstE
  have hmx:=hC.2.1
  have HC:=Lib.hid hC
  have HL:=Lib.hid hl
  have HR0:=Lib.hid hr
  clear hC hl hr
  obtain ⟨r,hrr⟩:∃ r,runs P.run (.lstB (e % 256) (l.length:Nat) :: (opsL l l.length++[.lstE])) s=r:=⟨_,rfl⟩
  rw [hrr]
  have HRR0:=Lib.hid hrr
  clear hrr
  obtain ⟨W0,hW0⟩:∃ W0,W0=w.alloc (.cells #[.int .i64 t,v1,v2,.int .i64 k,.int .i64 e,v5,.slice A l.length c] 28):=⟨_,rfl⟩
  have hz0:w.heap.size < W0.heap.size:=by rw [hW0];simp
  have hI0:P.Is S s W0:=by rw [hW0];exact P.step h ((Step.refl [] w).alloc _) (by simp)
  have hs0:Step S S w W0:=by rw [hW0];exact (Step.refl _ _).alloc _
  have hB0:Below w0.heap.size w0 W0:=by rw [hW0];exact hB.alloc hB.size _
  have hnb:=P.fresh h
  have b0:W0.cell? ⟨w.heap.size,0,none⟩=some (.int .i64 t):=by rw [hW0];exact cell_heap (heap_alloc_new _ _) 0
  have b3:W0.cell? ⟨w.heap.size,3,none⟩=some (.int .i64 k):=by rw [hW0];exact cell_heap (heap_alloc_new _ _) 3
  have b4:W0.cell? ⟨w.heap.size,4,none⟩=some (.int .i64 e):=by rw [hW0];exact cell_heap (heap_alloc_new _ _) 4
  have b6:W0.cell? ⟨w.heap.size,6,none⟩=some (.slice A l.length c):=by rw [hW0];exact cell_heap (heap_alloc_new _ _) 6
  have hbx:∀ S1 W,Step S S1 W0 W→W.cell? ⟨w.heap.size,3,none⟩=some (.int .i64 k)∧W.cell? ⟨w.heap.size,4,none⟩=some (.int .i64 e)∧W.cell? ⟨w.heap.size,6,none⟩=some (.slice A l.length c):=fun S1 W hs=>⟨(hs.cell (p:=⟨w.heap.size,3,none⟩) hz0 hnb).trans b3,(hs.cell (p:=⟨w.heap.size,4,none⟩) hz0 hnb).trans b4,(hs.cell (p:=⟨w.heap.size,6,none⟩) hz0 hnb).trans b6⟩
  have HBX:=Lib.hid hbx
  have HB0:=Lib.hid hB0
  have HI0:=Lib.hid hI0
  have HO1:=Lib.hid (P.at_ hI0 (.lstB (e % 256) (l.length:Nat)) rfl ⟨⟨by omega,by omega⟩,by omega,by omega⟩ (Nat.le_trans (by rw [costs_cons];omega) HR0.out))
  clear h hB hbx hB0 hI0
  go_enter Tryz.func44,Tryz.ntmps44
  go_upto_region 37 with (first | (go_at_call 50;refine (typ_of _ _).mono ?_;rintro e w' ⟨rfl,rfl⟩))
  rw [← hW0]
  clear hW0
  go_cut [9] (fun u wx=>Aft P S W0 (P.run s (.lstB (e % 256) (l.length:Nat))) u wx)
  case first =>
   go_region_held3 (fun W'=>W'.cell? ⟨w.heap.size,3,none⟩=some (.int .i64 k)∧W'.cell? ⟨w.heap.size,4,none⟩=some (.int .i64 e)∧W'.cell? ⟨w.heap.size,6,none⟩=some (.slice A l.length c)) (first | exact HBX.out _ _ (Step.refl _ _) | exact HBX.out _ _ (Step.refl _ _).drew | exact HBX.out _ _ hs1)
     (first
       | (go_at_call 53;refine (hc _).mono ?_;rintro e w' ⟨rfl,rfl⟩)
       | (go_at_call 50;refine (typ_of _ _).mono ?_;rintro e w' ⟨rfl,rfl⟩)
       | (refine (HO1.out _ ?_).mono ?_;exact (Step.refl _ _).drew;rintro e W1 ⟨ev,S1,rfl,he,hI1,hs1⟩;replace hs1:=(Step.refl S W0).drew.trans hs1))
   all_goals (go_wp2_with (fail);go_meet;exact ⟨_,he,hI1,hs1⟩)
  case rest =>
  clear b0 b3 b4 b6
  obtain ⟨S1,he,hI1,hs1⟩:=hcut
  by_cases hz:(P.run s (.lstB (e % 256) (l.length:Nat))).2≠0
  · have hb:=runs_bad P.run _ _ s HRR0.out hz
    rcases he with ⟨h0,_⟩ | he
    · exact absurd h0 hz
    have HE:=Lib.hid he
    obtain ⟨bb,tt,er,ms,q1,q2,rfl,q3⟩:=he
    have HH:=Lib.hid hb
    clear q1 q2 q3 hb hz
    go_wp2
    go_ret
    rw [← HH.out]
    exact ⟨_,_,rfl,.inr HE.out,(by assumption),hs0.trans hs1⟩
  replace hz:=Decidable.not_not.1 hz
  have HRR1:=Lib.hid (runs_ok P.run _ _ s HRR0.out hz)
  have HR1:=Lib.hid (room_ok P _ _ s HR0.out)
  rw [hz] at he
  obtain rfl:=he.zero
  clear he hz
  obtain ⟨s1,hs1e⟩:∃ s1,(P.run s (.lstB (e % 256) (l.length:Nat))).1=s1:=⟨_,rfl⟩
  rw [hs1e] at HRR1 HR1 hI1
  clear hs1e HO1
  have hS1:∀ j,j∈S1→w0.heap.size≤j:=fun j hj=>by
    rcases hs1.own j hj with hh | hh
    · exact hS j hh
    · have:=HB0.out.size;omega
  have hB1:=HB0.out.trans (hs1.below _ HB0.out.size hS)
  have hP:=fun W (hW:Step [] [] _ W)=>putAll_any P w0 l HL.out A c (P.step hI1 hW (by simp)) hS1 (hB1.trans ((hW.below _ hB1.size (by simp)))) HC.out (Nat.le_trans (by rw [costs_append];omega) HR1.out)
  have HP:=Lib.hid hP
  obtain ⟨b3,b4,b6⟩:=HBX.out _ _ hs1
  clear hP
  go_wp2_with (fail)
  refine (HP.out _ (Step.refl _ _)).mono ?_
  rintro e W2 ⟨ev,S2,rfl,he,hI2,hs2⟩
  clear b3 b4 b6
  by_cases hz:(runs P.run (opsL l l.length) s1).2≠0
  · have hb:=runs_bad_app P.run _ _ s1 HRR1.out hz
    rcases he with ⟨h0,_⟩ | he
    · exact absurd h0 hz
    have HE:=Lib.hid he
    obtain ⟨bb,tt,er,ms,q1,q2,rfl,q3⟩:=he
    have HH:=Lib.hid hb
    clear q1 q2 q3 hb hz
    go_wp2
    go_ret
    rw [← HH.out]
    exact ⟨_,_,rfl,.inr HE.out,(by assumption),hs0.trans (hs1.trans hs2)⟩
  replace hz:=Decidable.not_not.1 hz
  have HRR2:=Lib.hid (runs_ok_app P.run _ _ s1 HRR1.out hz)
  have HR2:=Lib.hid (room_app P _ _ s1 HR1.out)
  rw [hz] at he
  obtain rfl:=he.zero
  clear he hz
  obtain ⟨s2,hs2e⟩:∃ s2,(runs P.run (opsL l l.length) s1).1=s2:=⟨_,rfl⟩
  rw [hs2e] at HRR2 HR2 hI2
  clear hs2e HP
  have hr5:=HRR2.out
  rw [runs_one] at hr5
  have hO6:=P.at_ hI2 .lstE rfl trivial (Nat.le_trans (by rw [costs_cons];omega) HR2.out)
  rw [hr5] at hO6
  have HO6:=Lib.hid hO6
  clear hr5 hO6
  go_wp2_with (fail)
  go_region_held3 (fun W'=>True) (trivial)
    (first
      | (go_at_call 53;refine (hc _).mono ?_;rintro e w' ⟨rfl,rfl⟩)
      | (refine (HO6.out _ ?_).mono ?_;exact (Step.refl _ _).drew;rintro e W7 ⟨ev,S7,rfl,he,hI7,hs7⟩;replace hs7:=(Step.refl S2 _).drew.trans hs7))
  all_goals go_wp2
  all_goals go_ret
  all_goals exact ⟨_,_,rfl,he,hI7,hs0.trans (hs1.trans (hs2.trans hs7))⟩

theorem kVal_take {w:World} {A:Option Addr} {l:List Val} (h:kVal.C w A l.length l) (n:Nat) (hn:n≤l.length):kVal.C w A (l.take n).length (l.take n):=by
  refine ⟨rfl,by have:=h.2.1;rw [List.length_take_of_le hn];omega,fun h0=>?_⟩
  rw [List.length_take_of_le hn] at h0
  obtain ⟨ad,e,hc⟩:=h.2.2 (by omega)
  refine ⟨ad,e,fun j p hj=>hc j p ?_⟩
  rw [List.getElem?_take] at hj
  split at hj
  · exact hj
  · cases hj

set_option maxRecDepth 100000 in
set_option maxHeartbeats 4000000 in
theorem put_map (P:PW) (w0:World) (l:List Val) (hl:∀ v,v∈l→Puts P w0 v) (A:Option Addr) (c:Nat) (t k e:Int) (v1 v2 v5:Value) (ht:t % 256=13) (hlc:l.length≤c) {S:List Nat} {s:P.σ} {w:World} (h:P.Is S s w) (hS:∀ k,k∈S→w0.heap.size≤k) (hB:Below w0.heap.size w0 w)
    (hC:kVal.C w0 A l.length l) (hr:P.room s+costs (.mapB (k % 256) (e % 256) ((l.length:Int) / 2) :: (opsL l (l.length / 2 * 2)++[.mapE]))≤140737488355328) :
    Calls Tryz.prog 44 #[.iface P.ty P.ptr,.agg #[.int .i64 t,v1,v2,.int .i64 k,.int .i64 e,v5,.slice A l.length c]] w (Did P.Is S w (runs P.run (.mapB (k % 256) (e % 256) ((l.length:Int) / 2) :: (opsL l (l.length / 2 * 2)++[.mapE])) s)):=by
  have hc:=ctx_any
  obtain ⟨m1,n1,e1⟩:=P.m_mapB
  obtain ⟨m2,n2,e2⟩:=P.m_mapE
  have hmx:=hC.2.1
  have HC:=Lib.hid hC
  have HL:=Lib.hid hl
  have HR0:=Lib.hid hr
  clear hC hl hr
  obtain ⟨r,hrr⟩:∃ r,runs P.run (.mapB (k % 256) (e % 256) ((l.length:Int) / 2) :: (opsL l (l.length / 2 * 2)++[.mapE])) s=r:=⟨_,rfl⟩
  rw [hrr]
  have HRR0:=Lib.hid hrr
  clear hrr
  obtain ⟨W0,hW0⟩:∃ W0,W0=w.alloc (.cells #[.int .i64 t,v1,v2,.int .i64 k,.int .i64 e,v5,.slice A l.length c] 28):=⟨_,rfl⟩
  have hz0:w.heap.size < W0.heap.size:=by rw [hW0];simp
  have hI0:P.Is S s W0:=by rw [hW0];exact P.step h ((Step.refl [] w).alloc _) (by simp)
  have hs0:Step S S w W0:=by rw [hW0];exact (Step.refl _ _).alloc _
  have hB0:Below w0.heap.size w0 W0:=by rw [hW0];exact hB.alloc hB.size _
  have hnb:=P.fresh h
  have b0:W0.cell? ⟨w.heap.size,0,none⟩=some (.int .i64 t):=by rw [hW0];exact cell_heap (heap_alloc_new _ _) 0
  have b3:W0.cell? ⟨w.heap.size,3,none⟩=some (.int .i64 k):=by rw [hW0];exact cell_heap (heap_alloc_new _ _) 3
  have b4:W0.cell? ⟨w.heap.size,4,none⟩=some (.int .i64 e):=by rw [hW0];exact cell_heap (heap_alloc_new _ _) 4
  have b6:W0.cell? ⟨w.heap.size,6,none⟩=some (.slice A l.length c):=by rw [hW0];exact cell_heap (heap_alloc_new _ _) 6
  have hbx:∀ S1 W,Step S S1 W0 W→W.cell? ⟨w.heap.size,3,none⟩=some (.int .i64 k)∧W.cell? ⟨w.heap.size,4,none⟩=some (.int .i64 e)∧W.cell? ⟨w.heap.size,6,none⟩=some (.slice A l.length c):=fun S1 W hs=>⟨(hs.cell (p:=⟨w.heap.size,3,none⟩) hz0 hnb).trans b3,(hs.cell (p:=⟨w.heap.size,4,none⟩) hz0 hnb).trans b4,(hs.cell (p:=⟨w.heap.size,6,none⟩) hz0 hnb).trans b6⟩
  have HBX:=Lib.hid hbx
  have HB0:=Lib.hid hB0
  have HI0:=Lib.hid hI0
  have HO1:=Lib.hid (P.at_ hI0 (.mapB (k % 256) (e % 256) ((l.length:Int) / 2)) rfl ⟨⟨by omega,by omega⟩,⟨by omega,by omega⟩,by omega,by omega⟩ (Nat.le_trans (by rw [costs_cons];omega) HR0.out))
  clear h hB hbx hB0 hI0
  have hwd:IntKind.i64.wrap ((l.length:Int) / 2)=(l.length:Int) / 2:=by rw [IntKind.wrap_i64];omega
  go_enter Tryz.func44,Tryz.ntmps44
  go_upto_region 21 with (first | (go_at_call 50;refine (typ_of _ _).mono ?_;rintro e w' ⟨rfl,rfl⟩))
  rw [← hW0]
  clear hW0
  go_cut [5] (fun u wx=>Aft P S W0 (P.run s (.mapB (k % 256) (e % 256) ((l.length:Int) / 2))) u wx)
  case first =>
   go_region_held3 (fun W'=>W'.cell? ⟨w.heap.size,3,none⟩=some (.int .i64 k)∧W'.cell? ⟨w.heap.size,4,none⟩=some (.int .i64 e)∧W'.cell? ⟨w.heap.size,6,none⟩=some (.slice A l.length c)) (first | exact HBX.out _ _ (Step.refl _ _) | exact HBX.out _ _ (Step.refl _ _).drew | exact HBX.out _ _ hs1)
     (first
       | (go_at_call 53;refine (hc _).mono ?_;rintro e w' ⟨rfl,rfl⟩)
       | (go_at_call 50;refine (typ_of _ _).mono ?_;rintro e w' ⟨rfl,rfl⟩)
       | (refine (HO1.out _ ?_).mono ?_;exact (Step.refl _ _).drew;rintro e W1 ⟨ev,S1,rfl,he,hI1,hs1⟩;replace hs1:=(Step.refl S W0).drew.trans hs1))
   all_goals (go_wp2_with (fail);go_meet;exact ⟨_,he,hI1,hs1⟩)
  case rest =>
  clear hwd
  clear b0 b3 b4 b6
  obtain ⟨S1,he,hI1,hs1⟩:=hcut
  by_cases hz:(P.run s (.mapB (k % 256) (e % 256) ((l.length:Int) / 2))).2≠0
  · have hb:=runs_bad P.run _ _ s HRR0.out hz
    rcases he with ⟨h0,_⟩ | he
    · exact absurd h0 hz
    have HE:=Lib.hid he
    obtain ⟨bb,tt,er,ms,q1,q2,rfl,q3⟩:=he
    have HH:=Lib.hid hb
    clear q1 q2 q3 hb hz
    go_wp2
    go_ret
    rw [← HH.out]
    exact ⟨_,_,rfl,.inr HE.out,(by assumption),hs0.trans hs1⟩
  replace hz:=Decidable.not_not.1 hz
  have HRR1:=Lib.hid (runs_ok P.run _ _ s HRR0.out hz)
  have HR1:=Lib.hid (room_ok P _ _ s HR0.out)
  rw [hz] at he
  obtain rfl:=he.zero
  clear he hz
  obtain ⟨s1,hs1e⟩:∃ s1,(P.run s (.mapB (k % 256) (e % 256) ((l.length:Int) / 2))).1=s1:=⟨_,rfl⟩
  rw [hs1e] at HRR1 HR1 hI1
  clear hs1e HO1
  have hS1:∀ j,j∈S1→w0.heap.size≤j:=fun j hj=>by
    rcases hs1.own j hj with hh | hh
    · exact hS j hh
    · have:=HB0.out.size;omega
  have hB1:=HB0.out.trans (hs1.below _ HB0.out.size hS)
  have hP:=fun W (hW:Step [] [] _ W)=>putAll_any P w0 (l.take (l.length / 2 * 2)) (fun v hv=>HL.out v (List.mem_of_mem_take hv)) A c (P.step hI1 hW (by simp)) hS1 (hB1.trans ((hW.below _ hB1.size (by simp)))) (kVal_take HC.out _ (by omega)) (by rw [opsL_take];exact Nat.le_trans (by rw [costs_append];omega) HR1.out)
  rw [opsL_take,List.length_take_of_le (by omega)] at hP
  have HP:=Lib.hid hP
  obtain ⟨b3,b4,b6⟩:=HBX.out _ _ hs1
  have hq1:(0:Int)≤(l.length:Int) / 2 * 2:=by omega
  have hq2:(l.length:Int) / 2 * 2≤c:=by omega
  have hq3:((l.length:Int) / 2 * 2).toNat=l.length / 2 * 2:=by omega
  clear hP
  go_wp2_with (fail)
  refine (HP.out _ (Step.refl _ _)).mono ?_
  rintro e W2 ⟨ev,S2,rfl,he,hI2,hs2⟩
  clear b3 b4 b6
  by_cases hz:(runs P.run (opsL l (l.length / 2 * 2)) s1).2≠0
  · have hb:=runs_bad_app P.run _ _ s1 HRR1.out hz
    rcases he with ⟨h0,_⟩ | he
    · exact absurd h0 hz
    have HE:=Lib.hid he
    obtain ⟨bb,tt,er,ms,q1,q2,rfl,q3⟩:=he
    have HH:=Lib.hid hb
    clear q1 q2 q3 hb hz
    go_wp2
    go_ret
    rw [← HH.out]
    exact ⟨_,_,rfl,.inr HE.out,(by assumption),hs0.trans (hs1.trans hs2)⟩
  replace hz:=Decidable.not_not.1 hz
  have HRR2:=Lib.hid (runs_ok_app P.run _ _ s1 HRR1.out hz)
  have HR2:=Lib.hid (room_app P _ _ s1 HR1.out)
  rw [hz] at he
  obtain rfl:=he.zero
  clear he hz
  obtain ⟨s2,hs2e⟩:∃ s2,(runs P.run (opsL l (l.length / 2 * 2)) s1).1=s2:=⟨_,rfl⟩
  rw [hs2e] at HRR2 HR2 hI2
  clear hs2e HP
  have hr5:=HRR2.out
  rw [runs_one] at hr5
  have hO6:=P.at_ hI2 .mapE rfl trivial (Nat.le_trans (by rw [costs_cons];omega) HR2.out)
  rw [hr5] at hO6
  have HO6:=Lib.hid hO6
  clear hr5 hO6
  go_wp2_with (fail)
  go_region_held3 (fun W'=>True) (trivial)
    (first
      | (go_at_call 53;refine (hc _).mono ?_;rintro e w' ⟨rfl,rfl⟩)
      | (refine (HO6.out _ ?_).mono ?_;exact (Step.refl _ _).drew;rintro e W7 ⟨ev,S7,rfl,he,hI7,hs7⟩;replace hs7:=(Step.refl S2 _).drew.trans hs7))
  all_goals go_wp2
  all_goals go_ret
  all_goals exact ⟨_,_,rfl,he,hI7,hs0.trans (hs1.trans (hs2.trans hs7))⟩

end Go.Proofs.YtmjcnomgpikncaaGreatDoor

namespace Go.Proofs.YtmjcnomgpikncaaGreatDoor

open Go.RowKit Go.Deep Go.Proofs.YtmjcnomgpikncaaGreatDoorW.PrintWords



set_option maxRecDepth 100000 in
set_option maxHeartbeats 4000000 in
theorem put_other (P:PW) (t:Int) (v1 v2 v3 v4 v5 v6:Value) (hne:¬ t % 256=2∧¬ t % 256=3∧¬ t % 256=4∧¬ t % 256=6∧¬ t % 256=8∧¬ t % 256=10∧¬ t % 256=11∧¬ t % 256=16∧¬ t % 256=12∧¬ t % 256=13∧¬ t % 256=14∧¬ t % 256=15) {S:List Nat} {s:P.σ} {w:World} (h:P.Is S s w) :
    Calls Tryz.prog 44 #[.iface P.ty P.ptr,.agg #[.int .i64 t,v1,v2,v3,v4,v5,v6]] w (Did P.Is S w (s,0)):=by
  obtain ⟨h2,h3,h4,h6,h8,h10,h11,h16,h12,h13,h14,h15⟩:=hne
  have b2:(t % 256 == 2)=false:=by simpa using h2
  have b3:(t % 256 == 3)=false:=by simpa using h3
  have b4:(t % 256 == 4)=false:=by simpa using h4
  have b6:(t % 256 == 6)=false:=by simpa using h6
  have b8:(t % 256 == 8)=false:=by simpa using h8
  have b10:(t % 256 == 10)=false:=by simpa using h10
  have b11:(t % 256 == 11)=false:=by simpa using h11
  have b16:(t % 256 == 16)=false:=by simpa using h16
  have b12:(t % 256 == 12)=false:=by simpa using h12
  have b13:(t % 256 == 13)=false:=by simpa using h13
  have b14:(t % 256 == 14)=false:=by simpa using h14
  have b15:(t % 256 == 15)=false:=by simpa using h15
  clear h2 h3 h4 h6 h8 h10 h11 h16 h12 h13 h14 h15
  go_enter Tryz.func44,Tryz.ntmps44
  go_wp2_with (first | (go_at_call 50;refine (typ_of _ _).mono ?_;rintro e w' ⟨rfl,rfl⟩))
  go_ret
  exact ⟨_,S,rfl,IsErr.nil _,P.step h ((Step.refl [] w).alloc _) (by simp),(Step.refl _ _).alloc _⟩

theorem wfL_mem:∀ (l:List Val),wfL l→∀ v,v∈l→wfV v
  | [],_,v,h=>by simp at h
  | x :: l,hw,v,h=>by
    unfold wfL at hw
    rcases List.mem_cons.1 h with rfl | h
    · exact hw.1
    · exact wfL_mem l hw.2 v h

theorem put_upto (P:PW) (w0:World):∀ (z:Nat) (V:Val),SizeOf.sizeOf V≤z→wfV V→Puts P w0 V:=by
  intro z
  induction z with
  | zero =>
    intro V hz
    cases V
    simp at hz
  | succ z ih =>
    intro V hz hw
    obtain ⟨t,n,s,k,e,ids,l⟩:=V
    have hL:∀ v,v∈l→Puts P w0 v:=fun v hv=>ih v (by
      have h1:=List.sizeOf_lt_of_mem hv
      simp only [Val.mk.sizeOf_spec] at hz
      omega) (wfL_mem l (by unfold wfV at hw;exact hw.2.2.2.2.2.2.2) v hv)
    unfold wfV at hw
    obtain ⟨ht,hn,h8,hk,he,hids,hlen,hl⟩:=hw
    intro S st w cs hI hS hB hK hr
    obtain ⟨A2,c2,A5,c5,A6,c6,rfl,l2,g2,l5,g5,l6,g6⟩:=kVal_open hK
    dsimp only at *
    by_cases h2:t % 256=2
    · have ho:ops ⟨t,n,s,k,e,ids,l⟩=[.bool (n != 0)]:=by simp only [ops,h2,if_true]
      rw [ho] at hr ⊢
      rw [runs_one]
      exact put_bool P t n _ _ _ _ _ h2 hI (by simpa [costs,WOp.cost] using hr)
    by_cases h3:t % 256=3
    · have ho:ops ⟨t,n,s,k,e,ids,l⟩=[.byte (w8 n)]:=by simp [ops,h3]
      rw [ho] at hr ⊢
      rw [runs_one]
      exact put_byte P t n _ _ _ _ _ h3 hI (by simpa [costs,WOp.cost] using hr)
    by_cases h4:t % 256=4
    · have ho:ops ⟨t,n,s,k,e,ids,l⟩=[.dbl (IntKind.u64.wrap n).toNat]:=by simp [ops,h4]
      rw [ho] at hr ⊢
      rw [runs_one]
      exact put_dbl P t n _ _ _ _ _ h4 hI (by simpa [costs,WOp.cost] using hr)
    by_cases h6:t % 256=6
    · have ho:ops ⟨t,n,s,k,e,ids,l⟩=[.i16 (w16 n)]:=by simp [ops,h6]
      rw [ho] at hr ⊢
      rw [runs_one]
      exact put_i16 P t n _ _ _ _ _ h6 hI (by simpa [costs,WOp.cost] using hr)
    by_cases h88:t % 256=8
    · have ho:ops ⟨t,n,s,k,e,ids,l⟩=[.i32 (wrap32 n)]:=by simp [ops,h88]
      rw [ho] at hr ⊢
      rw [runs_one]
      exact put_i32 P t n _ _ _ _ _ h88 hI (by simpa [costs,WOp.cost] using hr)
    by_cases h10:t % 256=10
    · have ho:ops ⟨t,n,s,k,e,ids,l⟩=[.i64 n]:=by simp [ops,h10]
      rw [ho] at hr ⊢
      rw [runs_one]
      exact put_i64 P t n _ _ _ _ _ h10 hn.1 hn.2 hI (by simpa [costs,WOp.cost] using hr)
    by_cases h11:t % 256=11
    · have ho:ops ⟨t,n,s,k,e,ids,l⟩=[.str (toB s)]:=by simp [ops,h11]
      rw [ho] at hr ⊢
      rw [runs_one]
      exact put_str P t _ _ _ _ _ A2 c2 s h11 hI g2 hB hS hlen (by simpa [costs] using hr)
    by_cases h16:t % 256=16
    · have ho:ops ⟨t,n,s,k,e,ids,l⟩=[.uuid (u16 (toB s))]:=by simp [ops,h16]
      rw [ho] at hr ⊢
      rw [runs_one]
      exact put_uuid P t _ _ _ _ _ A2 c2 s h16 hI g2 hB hS h8 (by simpa [costs] using hr)
    by_cases h12:t % 256=12
    · have ho:ops ⟨t,n,s,k,e,ids,l⟩=.strB :: (opsF l ids++[.stop,.strE]):=by simp [ops,h12]
      rw [ho] at hr ⊢
      exact put_struct P w0 l ids hL A6 A5 c6 c5 t _ _ _ _ h12 hI hS hB g6 g5 hr
    by_cases h13:t % 256=13
    · have ho:ops ⟨t,n,s,k,e,ids,l⟩=.mapB (k % 256) (e % 256) ((l.length:Int) / 2) :: (opsL l (l.length / 2 * 2)++[.mapE]):=by simp [ops,h13]
      rw [ho] at hr ⊢
      exact put_map P w0 l hL A6 c6 t k e _ _ _ h13 l6 hI hS hB g6 hr
    by_cases h14:t % 256=14
    · have ho:ops ⟨t,n,s,k,e,ids,l⟩=.setB (e % 256) (l.length:Nat) :: (opsL l l.length++[.setE]):=by simp [ops,h14]
      rw [ho] at hr ⊢
      exact put_set P w0 l hL A6 c6 t k e _ _ _ h14 l6 hI hS hB g6 hr
    by_cases h15:t % 256=15
    · have ho:ops ⟨t,n,s,k,e,ids,l⟩=.lstB (e % 256) (l.length:Nat) :: (opsL l l.length++[.lstE]):=by simp [ops,h15]
      rw [ho] at hr ⊢
      exact put_lst P w0 l hL A6 c6 t k e _ _ _ h15 l6 hI hS hB g6 hr
    have ho:ops ⟨t,n,s,k,e,ids,l⟩=[]:=by simp [ops,h2,h3,h4,h6,h88,h10,h11,h16,h12,h13,h14,h15]
    rw [ho]
    exact put_other P t _ _ _ _ _ _ ⟨h2,h3,h4,h6,h88,h10,h11,h16,h12,h13,h14,h15⟩ hI

theorem put_any (P:PW) (w0:World) (V:Val) (hw:wfV V):Puts P w0 V:=put_upto P w0 _ V (Nat.le_refl _) hw

end Go.Proofs.YtmjcnomgpikncaaGreatDoor
