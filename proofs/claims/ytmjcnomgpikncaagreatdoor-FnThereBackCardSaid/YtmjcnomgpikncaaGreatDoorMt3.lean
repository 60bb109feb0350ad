/- Bytes are read in pieces. No condition. -/
import Derived.Test.YtmjcnomgpikncaaGreatDoorMc
import Derived.Test.YtmjcnomgpikncaaGreatDoorMa3
import Derived.Test.YtmjcnomgpikncaaGreatDoorMt1
import Derived.Test.YtmjcnomgpikncaaGreatDoorMt2
set_option linter.unusedVariables false
set_option linter.unusedSimpArgs false
namespace Go.Proofs.YtmjcnomgpikncaaGreatDoor

open Go.RowKit Go.Deep



theorem make_bytes (kl kc:IntKind) (l c:Nat) (hlc:l≤c) (hc:c≤2147483648):∃ M:Array Value,M.size=c∧∀ W:World,(Instr.makeSlice 24 (.int kl (l:Int)) (.int kc (c:Int))).run Tryz.prog W=.ok (.slice (some ⟨W.heap.size,0,none⟩) l c) (W.alloc (.cells M 5)):=by
  obtain ⟨i0,hi,hz0,hz1,hz2⟩:=info_parts info8
  refine ⟨madeCells (Value.int .u8 0).cells ((c:Int).toNat * i0.size),by rw [size_madeCells,hz1];simp,fun W=>?_⟩
  have h:=run_make (P:=Tryz.prog) W 24 5 i0 (.int .u8 0) Tryz.underlying24 hi hz0 kl kc (l:Int) (c:Int) (by omega) (by omega) (by rw [hz2];omega) (by omega)
  simpa using h

def Pieced (m b g off n:Nat) (bs:List Value) (w:World) (e:Ending) (w':World):Prop :=
  ∃ v d,e=.returned (.tuple #[v,.nilIface])∧IsB (bs.take n) v d w'∧Mem m b g (off+n) (bs.drop n) w'∧Step [b] [b] w w'∧w.heap.size≤d

set_option maxRecDepth 100000 in
set_option maxHeartbeats 1000000 in
theorem safe_small (m b g off n:Nat) (bs:List Value) (w:World) (h:Mem m b g off bs w) (hn1:1≤n) (hn:n≤bs.length) (h1:∀ v∈bs,v.oneCell'=true) (hsm:n≤512) :
    Calls Tryz.prog 82 #[.int .i32 n,memV m] w (Pieced m b g off n bs w):=by
  obtain ⟨M,hM,hmk⟩:=make_bytes .i32 .i32 n n (Nat.le_refl _) (by omega)
  have hml:=h.lt
  have hbl:=h.2.2.2.lt
  have HR:=Lib.hid (readFull_whole m b g off w.heap.size 0 n n bs M 5 (w.alloc (.cells M 5)) (h.alloc _) hn1 hn h1 (heap_alloc_new _ _) (by omega) (by omega) (by omega) (by omega) (by unfold maxLen;omega) (Nat.le_refl _) (by unfold maxLen;omega))
  have k0:¬ (n:Int) < 0:=by omega
  have k1:(n:Int)≤512:=by omega
  clear h h1
  go_enter Tryz.func82,Tryz.ntmps82
  go_wp2_with (go_at_call 91;refine HR.out.mono ?_;rintro e W1 ⟨rfl,hM1,hd,hs⟩)
  go_ret2
  have hlen:(bs.take n).length=n:=by rw [List.length_take];omega
  refine ⟨_,w.heap.size,rfl,⟨n,.inr ⟨0,by rw [hlen];rfl,by rw [hlen];exact Nat.le_refl _,by unfold maxLen;omega,lt_heap hd,fun j x hj=>?_⟩⟩,hM1,?_,Nat.le_refl _⟩
  · rw [cell_heap hd]
    have hj':j < (bs.take n).length:=(List.getElem?_eq_some_iff.1 hj).1
    simp only [List.take_zero,List.nil_append,List.getElem?_toArray,Nat.zero_add]
    rw [List.getElem?_append_left hj']
    exact hj
  · have hs0:Step [b] [b] w (w.alloc (.cells M 5)):=(Step.refl _ _).alloc _
    refine ⟨hs.os,hs.tape,hs.output,Nat.le_trans hs0.size hs.size,fun k hk hnk=>?_,fun k hk=>.inl hk⟩
    rw [hs.block k (Nat.lt_of_lt_of_le hk hs0.size) (by simp only [List.mem_cons,List.not_mem_nil,or_false,not_or] at hnk ⊢;exact ⟨hnk,by omega⟩),hs0.block k hk hnk]

end Go.Proofs.YtmjcnomgpikncaaGreatDoor

namespace Go.Proofs.YtmjcnomgpikncaaGreatDoor

open Go.RowKit Go.Deep



def Piece (m b g off n k cap d:Nat) (bs:List Value) (w wr:World):Prop :=
  ∃ cur:Array Value,wr.heap[d]?=some (.cells cur 5 (0,0))∧cur.size=cap∧cur.toList.take k=bs.take k∧Mem m b g (off+k) (bs.drop k) wr∧Step [b] [b] w wr∧w.heap.size≤d

theorem Piece.drew {m b g off n k cap d:Nat} {bs:List Value} {w wr:World} (h:Piece m b g off n k cap d bs w wr):Piece m b g off n k cap d bs w wr.drew:=by
  obtain ⟨cur,h1,h2,h3,h4,h5,h6⟩:=h
  exact ⟨cur,h1,h2,h3,h4.drewN 1,h5.drew,h6⟩

theorem Piece.read {m b g off n k cap d:Nat} {bs:List Value} {w wr:World} (h:Piece m b g off n k cap d bs w wr) (h1:∀ v∈bs,v.oneCell'=true) (hk:k < cap) (hc:cap≤n) (hn:n≤bs.length) (h31:n≤2147483647) (hb:b < w.heap.size∧g < w.heap.size) (len:Nat) (hl:len=cap - k) :
    Calls Tryz.prog 111 #[.pointer (some ⟨b,0,none⟩),.slice (some ⟨d,k,none⟩) len len] wr fun e w'=>e=.returned (.tuple #[.int .i64 len,.nilIface])∧Piece m b g off n cap cap d bs w w':=by
  subst hl
  obtain ⟨cur,hd,hcs,htk,hM2,hs,hdw⟩:=h
  have hld:(bs.drop k).length=bs.length - k:=by simp
  refine (buf_read b g (off+k) d k (cap - k) (cap - k) (bs.drop k) cur 5 wr hM2.2.2.2 (by omega) (fun v hv=>h1 v (List.mem_of_mem_drop hv)) hd (by omega) (by omega) (by omega) (by omega) (by unfold maxLen;omega)).mono ?_
  rintro e w' ⟨rfl,hB,hd',hs'⟩
  have hm:min (cap - k) (bs.drop k).length=cap - k:=by rw [hld];omega
  rw [hm] at hB hd' ⊢
  have e1:off+k+(cap - k)=off+cap:=by omega
  have e2:(bs.drop k).drop (cap - k)=bs.drop cap:=by rw [List.drop_drop];congr 1;omega
  rw [e1,e2] at hB
  have hlk:(cur.toList.take k).length=k:=by rw [List.length_take,Array.length_toList];omega
  have hlt:((bs.drop k).take (cap - k)).length=cap - k:=by rw [List.length_take,hld];omega
  refine ⟨rfl,_,hd',?_,?_,hM2.took hB hs' (by have:=hM2.lt;have:=hs.size;have h3:=hM2.2.1;simp only [List.mem_cons,List.not_mem_nil,or_false,not_or];exact ⟨h3,fun e=>by subst e;obtain ⟨sz,h4⟩:=hM2.1;rw [hd] at h4;injection h4 with h4;injection h4 with _ h4;exact absurd h4 (by decide)⟩),?_,hdw⟩
  · simp only [List.size_toArray,List.length_append,hlk,hlt,List.length_drop,Array.length_toList]
    omega
  · simp only [List.append_assoc]
    rw [← List.append_assoc,htk]
    have e3:bs.take k++(bs.drop k).take (cap - k)=bs.take cap:=by
      rw [← List.take_append_drop k (bs.take cap),List.take_take,List.drop_take]
      congr 2
      omega
    rw [e3,List.take_append_of_le_length (by rw [List.length_take];omega),List.take_of_length_le (by rw [List.length_take];omega)]
  · refine ⟨hs'.os.trans hs.os,hs'.tape.trans hs.tape,hs'.output.trans hs.output,Nat.le_trans hs.size hs'.size,fun j hj hjn=>?_,fun j hj=>.inl hj⟩
    rw [hs'.block j (Nat.lt_of_lt_of_le hj hs.size) (by simp only [List.mem_cons,List.not_mem_nil,or_false,not_or] at hjn ⊢;exact ⟨hjn,by omega⟩),hs.block j hj hjn]

set_option maxRecDepth 100000 in
set_option maxHeartbeats 1000000 in
theorem safe_big (m b g off n:Nat) (bs:List Value) (w:World) (h:Mem m b g off bs w) (hn:n≤bs.length) (h1:∀ v∈bs,v.oneCell'=true) (hbig:512 < n) (h31:n≤2147483647) :
 Calls Tryz.prog 82 #[.int .i32 n,memV m] w (Pieced m b g off n bs w):=by
 obtain ⟨M,hM,hmk⟩:=make_bytes .i64 .i64 0 512 (by omega) (by omega)
 have hmk2:∀ W:World,(Instr.makeSlice 24 (.int .i64 0) (.int .i64 512)).run Tryz.prog W=.ok (.slice (some ⟨W.heap.size,0,none⟩) 0 512) (W.alloc (.cells M 5)):=hmk
 have hml:=h.lt
 have hbl:=h.2.2.2.lt
 have hP0:=Lib.hid (show Piece m b g off n 0 512 w.heap.size bs w (w.alloc (.cells M 5)) from ⟨M,heap_alloc_new _ _,hM,by simp,h.alloc _,(Step.refl _ _).alloc _,Nat.le_refl _⟩)
 have H1:=Lib.hid h1
 have k0:¬ (n:Int) < 0:=by omega
 have k1:¬ (n:Int)≤512:=by omega
 have hmeth:=mem_Read
 have hnil:=mem_nil_Read
 clear h h1
 go_enter Tryz.func82,Tryz.ntmps82
 go_wp2_with (fail)
 go_loopw [10] (fun v wr=>∃ k cap d:Nat,v=.slice (some ⟨d,0,none⟩) k cap∧k≤n∧((k=0∧cap=512)∨k=cap)∧512≤cap∧cap≤n∧Hid (Piece m b g off n k cap d bs w wr)) (fun v _=>n - (match v with | .slice _ l _=>l | _=>0))
 case atStart=>exact ⟨0,512,_,rfl,by omega,.inl ⟨rfl,rfl⟩,by omega,by omega,hP0⟩
 case round =>
  obtain ⟨k,cap,d,rfl,hk,hc,hc1,hc2,hP⟩:=hrel
  by_cases hlt:k < n
  · by_cases hz:k=cap
    · subst hz
      obtain ⟨cur,hd,hcs,htk,hM2,hs,hdw⟩:=hP.out
      obtain ⟨c2,hc2'⟩:∃ c2,min (k * 2) n=c2:=⟨_,rfl⟩
      have hc3:k < c2∧c2≤n∧512≤c2:=by omega
      obtain ⟨M2,hM2s,hmkb⟩:=make_bytes .i64 .i64 k c2 (by omega) (by omega)
      have hmin:min ((k:Int) * 2) (n:Int)=(c2:Nat):=by omega
      have hdl:=lt_heap hd
      have hlen:(bs.take k).length=Nat.min k k:=by rw [List.length_take];show min k bs.length=min k k;omega
      have hcp:=run_copy_row (P:=Tryz.prog) (wr.alloc (.cells M2 5)) 24 24 3 5 wr.heap.size 0 k c2 ⟨d,0,none⟩ k k M2 5 (bs.take k) Tryz.underlying24 size8 (heap_alloc_new _ _) hlen (fun j v hj=>by
       rw [Lib.addr_add,cell_heap (heap_alloc_old hd _)]
       rw [← htk,List.getElem?_take] at hj
       split at hj
       · simpa using hj
       · cases hj) (by rw [hlen];show 0+min k k≤_;omega) (fun v hv=>H1.out v (List.mem_of_mem_take hv))
      have hlen2:(bs.take k).length=k:=by rw [List.length_take];omega
      rw [hlen2] at hcp
      obtain ⟨W1,hW1⟩:∃ W1,W1=(wr.alloc (.cells M2 5)).setRow wr.heap.size (M2.toList.take 0++bs.take k++M2.toList.drop (0+k)).toArray:=⟨_,rfl⟩
      rw [← hW1] at hcp
      have hP1:Piece m b g off n k c2 wr.heap.size bs w W1:=by
       rw [hW1]
       refine ⟨_,setRow_heap _ _ _ _ _ _ (heap_alloc_new _ _),by simp [hlen2,hM2s];omega,?_,?_,?_,by have:=hs.size;omega⟩
       · simp only [List.take_zero,List.nil_append]
         rw [List.take_append_of_le_length (by omega),List.take_of_length_le (by omega)]
       · have h3:=hM2.alloc (.cells M2 5)
         exact h3.carry (setRow_other _ _ _ _ (by have:=hM2.lt;omega)) (setRow_other _ _ _ _ (by have:=hM2.2.2.2.lt.1;omega)) (setRow_other _ _ _ _ (by have:=hM2.2.2.2.lt.2;omega))
       · exact (hs.alloc _).setRow (.inr hs.size) _
      have HR:=Lib.hid (fun W (hW:Piece m b g off n k c2 wr.heap.size bs w W)=>hW.read H1.out hc3.1 hc3.2.1 hn h31 hbl)
      have HP1:=Lib.hid hP1
      have cm:W1.cell? ⟨m,0,none⟩=some (.pointer (some ⟨b,0,none⟩)):=by obtain ⟨_,_,_,_,h,_⟩:=hP1;exact h.cell
      clear hP1 hW1 htk hM2 hs hlen
      go_wp2_with (fail)
      go_region_with (go_at_call 111;refine (HR.out _ HP1.out.drew _ (by omega)).mono ?_;rintro e W2 ⟨rfl,hP2⟩)
      all_goals go_wp2
      all_goals go_roundw
      all_goals (first | exact ⟨c2,c2,wr.heap.size,by rw [show k+(c2 - k)=c2 by omega],by omega,.inr rfl,by omega,by omega,Lib.hid hP2⟩ | (show n - (k+(c2 - k)) < n - k;omega))
    · obtain ⟨rfl,rfl⟩:k=0∧cap=512:=by omega
      have HR:=Lib.hid (fun W (hW:Piece m b g off n 0 512 d bs w W)=>hW.read H1.out (by omega) (by omega) hn h31 hbl)
      have cm:wr.cell? ⟨m,0,none⟩=some (.pointer (some ⟨b,0,none⟩)):=by obtain ⟨_,_,_,_,h,_⟩:=hP.out;exact h.cell
      go_wp2_with (fail)
      go_region_with (go_at_call 111;refine (HR.out _ hP.out.drew _ (by omega)).mono ?_;rintro e W2 ⟨rfl,hP2⟩)
      all_goals go_wp2
      all_goals go_roundw
      all_goals (first | exact ⟨512,512,d,rfl,by omega,.inr rfl,by omega,by omega,Lib.hid hP2⟩ | (show n - 512 < n - 0;omega))
  · obtain ⟨rfl,hcn⟩:k=n∧k=cap:=by omega
    subst hcn
    go_wp2
    go_ret2
    obtain ⟨cur,hd,hcs,htk,hM2,hs,hdw⟩:=hP.out
    have hlen:(bs.take k).length=k:=by rw [List.length_take];omega
    refine ⟨_,d,rfl,⟨k,.inr ⟨0,by rw [hlen];rfl,by rw [hlen];exact Nat.le_refl _,by unfold maxLen;omega,lt_heap hd,fun j x hj=>?_⟩⟩,hM2,hs,hdw⟩
    rw [cell_heap hd,Nat.zero_add]
    rw [← htk,List.getElem?_take] at hj
    split at hj
    · simpa using hj
    · cases hj

theorem safe_read (m b g off n:Nat) (bs:List Value) (w:World) (h:Mem m b g off bs w) (hn1:1≤n) (hn:n≤bs.length) (h1:∀ v∈bs,v.oneCell'=true) (h31:n≤2147483647) :
    Calls Tryz.prog 82 #[.int .i32 n,memV m] w (Pieced m b g off n bs w):=by
  by_cases hb:n≤512
  · exact safe_small m b g off n bs w h hn1 hn h1 hb
  · exact safe_big m b g off n bs w h hn h1 (by omega) h31

end Go.Proofs.YtmjcnomgpikncaaGreatDoor

namespace Go.Proofs.YtmjcnomgpikncaaGreatDoor

open Go.RowKit Go.Deep



def RGot.fit (o:ROp) (k:Nat) (g:RGot):Prop :=
  (o.nm ≠ "ReadMessageBegin" → 0≤g.t∧g.t < 256)∧(-2147483648≤g.t∧g.t < 2147483648)∧(0≤g.k∧g.k < 256)∧(-2147483648≤g.size∧g.size < 2147483648)∧(k=0→0≤g.size) ∧
    (-32768≤g.id∧g.id < 32768)∧(-9223372036854775808≤g.n∧g.n < 9223372036854775808)∧(o.nm = "ReadBool" → g.n=0∨g.n=1)∧g.s.length < 2147483648∧(o.nm = "ReadUUID" → g.s.length=16)

def ToldB {σ:Type} (Is:List Nat→σ→World→Prop) (S:List Nat) (w:World) (r:RGot × Nat × σ) (e:Ending) (w':World):Prop :=
  ∃ v kb ev S',e=.returned (.tuple #[v,ev])∧IsB (Lib.byteCells r.1.s) v kb w'∧IsErr r.2.1 ev w'∧Is S' r.2.2 w'∧Step S S' w w'

structure PR where
  ty:TypeId
  ptr:Value
  fn:String→FuncId
  σ:Type
  Is:List Nat→σ→World→Prop
  run:σ→ROp→Option (RGot × Nat × σ)
  meth:∀ (o:ROp) (k:Nat) (w:World),(method (k+1) ty ptr o.nm).run Tryz.prog w=.ok (fn o.nm,ptr) w
  ahead:∀ (o:ROp) (k:Nat) (w:World),(nilAhead (k+1) ty ptr o.nm).run Tryz.prog w=.ok (some false) w
  ent:∀ (o:ROp) (args:Array Value) (w:World),(callFunc (fn o.nm) args).run Tryz.prog w=.ok (.enter (fn o.nm) args) w
  step:∀ {S s w},Is S s w→∀ {T U w1},Step T U w w1→(∀ k,k∈S→k∉T)→Is S s w1
  lt:∀ {S s w},Is S s w→∀ k,k∈S→k < w.heap.size
  fits:∀ {s o r},run s o=some r→r.1.fit o r.2.1
  does:∀ {S s w},Is S s w→∀ {o r},run s o=some r→Calls Tryz.prog (fn o.nm) #[ptr,ctxV] w (Told Is o S w r)
  bfn:FuncId
  bmeth:∀ (k:Nat) (w:World),(method (k+1) ty ptr "ReadBinary").run Tryz.prog w=.ok (bfn,ptr) w
  bahead:∀ (k:Nat) (w:World),(nilAhead (k+1) ty ptr "ReadBinary").run Tryz.prog w=.ok (some false) w
  bent:∀ (args:Array Value) (w:World),(callFunc bfn args).run Tryz.prog w=.ok (.enter bfn args) w
  bdoes:∀ {S s w},Is S s w→∀ {r},run s .str=some r→Calls Tryz.prog bfn #[ptr,ctxV] w (ToldB Is S w r)

theorem PR.fresh (P:PR) {S:List Nat} {s:P.σ} {w:World} (h:P.Is S s w):w.heap.size∉S:=fun hm=>Nat.lt_irrefl _ (P.lt h _ hm)

theorem PR.at_ (P:PR) {S:List Nat} {s:P.σ} {w:World} (h:P.Is S s w) {o:ROp} {r:RGot × Nat × P.σ} (hr:P.run s o=some r) :
    ∀ W,Step [] [] w W→Calls Tryz.prog (P.fn o.nm) #[P.ptr,ctxV] W (Told P.Is o S W r):=fun W hW =>
  P.does (P.step h hW (by simp)) hr

section

variable {σ:Type} (run:σ→ROp→Option (RGot × Nat × σ))

def ropOf (t:Int):Option ROp :=
  if t=2 then some .bool else if t=3 then some .byte else if t=4 then some .dbl else if t=6 then some .i16 else if t=8 then some .i32 else if t=10 then some .i64
  else if t=11 then some .str else if t=16 then some .uuid else none

def getL (gv:Int→σ→Option (Val × Nat × σ)):List Int→List Val→σ→Option (List Val × Nat × σ)
  | [],l,s=>some (l,0,s)
  | t :: ts,l,s=>(gv t s).bind fun r=>if r.2.1=0 then getL gv ts (l++[r.1]) r.2.2 else some (l++[r.1],r.2.1,r.2.2)

def getF (gv:Int→σ→Option (Val × Nat × σ)):Nat→List Int→List Val→σ→Option (Val × Nat × σ)
  | 0,_,_,_=>none
  | f+1,ids,l,s=>(run s .fldB).bind fun a =>
      if a.2.1=0 then
        if a.1.t=0 then (run a.2.2 .strE).map fun b=>(⟨12,0,[],0,0,ids,l⟩,b.2.1,b.2.2)
        else (gv a.1.t a.2.2).bind fun r =>
          if r.2.1=0 then (run r.2.2 .fldE).bind fun b =>
            if b.2.1=0 then getF gv f (ids++[a.1.id]) (l++[r.1]) b.2.2 else some (⟨12,0,[],0,0,ids++[a.1.id],l++[r.1]⟩,b.2.1,b.2.2)
          else some (⟨12,0,[],0,0,ids++[a.1.id],l++[r.1]⟩,r.2.1,r.2.2)
      else some (⟨12,0,[],0,0,ids,l⟩,a.2.1,a.2.2)

def getList (gv:Int→σ→Option (Val × Nat × σ)) (t:Int) (ob oe:ROp) (s:σ):Option (Val × Nat × σ) :=
  (run s ob).bind fun a =>
    if a.2.1=0 then
      if 100000 < a.1.size then some (⟨t,0,[],0,a.1.t,[],[]⟩,52,a.2.2)
      else (getL gv (List.replicate a.1.size.toNat a.1.t) [] a.2.2).bind fun r =>
        if r.2.1=0 then (run r.2.2 oe).map fun b=>(⟨t,0,[],0,a.1.t,[],r.1⟩,b.2.1,b.2.2) else some (⟨t,0,[],0,a.1.t,[],r.1⟩,r.2.1,r.2.2)
    else some (⟨t,0,[],0,0,[],[]⟩,a.2.1,a.2.2)

def pairs (k t:Int):Nat→List Int
  | 0=>[]
  | n+1=>k :: t :: pairs k t n

def getMap (gv:Int→σ→Option (Val × Nat × σ)) (s:σ):Option (Val × Nat × σ) :=
  (run s .mapB).bind fun a =>
    if a.2.1=0 then
      if 100000 < a.1.size then some (⟨13,0,[],a.1.k,a.1.t,[],[]⟩,52,a.2.2)
      else (getL gv (pairs a.1.k a.1.t a.1.size.toNat) [] a.2.2).bind fun r =>
        if r.2.1=0 then (run r.2.2 .mapE).map fun b=>(⟨13,0,[],a.1.k,a.1.t,[],r.1⟩,b.2.1,b.2.2) else some (⟨13,0,[],a.1.k,a.1.t,[],r.1⟩,r.2.1,r.2.2)
    else some (⟨13,0,[],0,0,[],[]⟩,a.2.1,a.2.2)

def getV:Nat→Int→Int→σ→Option (Val × Nat × σ)
  | 0,_,_,_=>none
  | f+1,deep,t,s =>
    if deep≤0 then some (⟨t,0,[],0,0,[],[]⟩,50,s)
    else match ropOf t with
      | some o=>(run s o).map fun a=>(⟨t,if t=11∨t=16 then 0 else a.1.n,if t=11∨t=16 then ints a.1.s else [],0,0,[],[]⟩,a.2.1,a.2.2)
      | none =>
        if t=12 then (run s .strB).bind fun a=>if a.2.1=0 then getF run (getV f (deep - 1)) f [] [] a.2.2 else some (⟨12,0,[],0,0,[],[]⟩,a.2.1,a.2.2)
        else if t=13 then getMap run (getV f (deep - 1)) s
        else if t=14 then getList run (getV f (deep - 1)) 14 .setB .setE s
        else if t=15 then getList run (getV f (deep - 1)) 15 .lstB .lstE s
        else some (⟨t,0,[],0,0,[],[]⟩,51,s)

end

end Go.Proofs.YtmjcnomgpikncaaGreatDoor

namespace Go.Proofs.YtmjcnomgpikncaaGreatDoor

open Go.RowKit


theorem PR.m_strB (P:PR):(∀ (k:Nat) (w:World),(method (k+1) P.ty P.ptr "ReadStructBegin").run Tryz.prog w=.ok (P.fn "ReadStructBegin",P.ptr) w)∧(∀ (k:Nat) (w:World),(nilAhead (k+1) P.ty P.ptr "ReadStructBegin").run Tryz.prog w=.ok (some false) w)∧∀ (args:Array Value) (w:World),(callFunc (P.fn "ReadStructBegin") args).run Tryz.prog w=.ok (.enter (P.fn "ReadStructBegin") args) w :=
  ⟨P.meth .strB,P.ahead .strB,P.ent .strB⟩

theorem PR.m_strE (P:PR):(∀ (k:Nat) (w:World),(method (k+1) P.ty P.ptr "ReadStructEnd").run Tryz.prog w=.ok (P.fn "ReadStructEnd",P.ptr) w)∧(∀ (k:Nat) (w:World),(nilAhead (k+1) P.ty P.ptr "ReadStructEnd").run Tryz.prog w=.ok (some false) w)∧∀ (args:Array Value) (w:World),(callFunc (P.fn "ReadStructEnd") args).run Tryz.prog w=.ok (.enter (P.fn "ReadStructEnd") args) w :=
  ⟨P.meth .strE,P.ahead .strE,P.ent .strE⟩

theorem PR.m_fldB (P:PR):(∀ (k:Nat) (w:World),(method (k+1) P.ty P.ptr "ReadFieldBegin").run Tryz.prog w=.ok (P.fn "ReadFieldBegin",P.ptr) w)∧(∀ (k:Nat) (w:World),(nilAhead (k+1) P.ty P.ptr "ReadFieldBegin").run Tryz.prog w=.ok (some false) w)∧∀ (args:Array Value) (w:World),(callFunc (P.fn "ReadFieldBegin") args).run Tryz.prog w=.ok (.enter (P.fn "ReadFieldBegin") args) w :=
  ⟨P.meth .fldB,P.ahead .fldB,P.ent .fldB⟩

theorem PR.m_fldE (P:PR):(∀ (k:Nat) (w:World),(method (k+1) P.ty P.ptr "ReadFieldEnd").run Tryz.prog w=.ok (P.fn "ReadFieldEnd",P.ptr) w)∧(∀ (k:Nat) (w:World),(nilAhead (k+1) P.ty P.ptr "ReadFieldEnd").run Tryz.prog w=.ok (some false) w)∧∀ (args:Array Value) (w:World),(callFunc (P.fn "ReadFieldEnd") args).run Tryz.prog w=.ok (.enter (P.fn "ReadFieldEnd") args) w :=
  ⟨P.meth .fldE,P.ahead .fldE,P.ent .fldE⟩

theorem PR.m_mapB (P:PR):(∀ (k:Nat) (w:World),(method (k+1) P.ty P.ptr "ReadMapBegin").run Tryz.prog w=.ok (P.fn "ReadMapBegin",P.ptr) w)∧(∀ (k:Nat) (w:World),(nilAhead (k+1) P.ty P.ptr "ReadMapBegin").run Tryz.prog w=.ok (some false) w)∧∀ (args:Array Value) (w:World),(callFunc (P.fn "ReadMapBegin") args).run Tryz.prog w=.ok (.enter (P.fn "ReadMapBegin") args) w :=
  ⟨P.meth .mapB,P.ahead .mapB,P.ent .mapB⟩

theorem PR.m_mapE (P:PR):(∀ (k:Nat) (w:World),(method (k+1) P.ty P.ptr "ReadMapEnd").run Tryz.prog w=.ok (P.fn "ReadMapEnd",P.ptr) w)∧(∀ (k:Nat) (w:World),(nilAhead (k+1) P.ty P.ptr "ReadMapEnd").run Tryz.prog w=.ok (some false) w)∧∀ (args:Array Value) (w:World),(callFunc (P.fn "ReadMapEnd") args).run Tryz.prog w=.ok (.enter (P.fn "ReadMapEnd") args) w :=
  ⟨P.meth .mapE,P.ahead .mapE,P.ent .mapE⟩

theorem PR.m_lstB (P:PR):(∀ (k:Nat) (w:World),(method (k+1) P.ty P.ptr "ReadListBegin").run Tryz.prog w=.ok (P.fn "ReadListBegin",P.ptr) w)∧(∀ (k:Nat) (w:World),(nilAhead (k+1) P.ty P.ptr "ReadListBegin").run Tryz.prog w=.ok (some false) w)∧∀ (args:Array Value) (w:World),(callFunc (P.fn "ReadListBegin") args).run Tryz.prog w=.ok (.enter (P.fn "ReadListBegin") args) w :=
  ⟨P.meth .lstB,P.ahead .lstB,P.ent .lstB⟩

theorem PR.m_lstE (P:PR):(∀ (k:Nat) (w:World),(method (k+1) P.ty P.ptr "ReadListEnd").run Tryz.prog w=.ok (P.fn "ReadListEnd",P.ptr) w)∧(∀ (k:Nat) (w:World),(nilAhead (k+1) P.ty P.ptr "ReadListEnd").run Tryz.prog w=.ok (some false) w)∧∀ (args:Array Value) (w:World),(callFunc (P.fn "ReadListEnd") args).run Tryz.prog w=.ok (.enter (P.fn "ReadListEnd") args) w :=
  ⟨P.meth .lstE,P.ahead .lstE,P.ent .lstE⟩

theorem PR.m_setB (P:PR):(∀ (k:Nat) (w:World),(method (k+1) P.ty P.ptr "ReadSetBegin").run Tryz.prog w=.ok (P.fn "ReadSetBegin",P.ptr) w)∧(∀ (k:Nat) (w:World),(nilAhead (k+1) P.ty P.ptr "ReadSetBegin").run Tryz.prog w=.ok (some false) w)∧∀ (args:Array Value) (w:World),(callFunc (P.fn "ReadSetBegin") args).run Tryz.prog w=.ok (.enter (P.fn "ReadSetBegin") args) w :=
  ⟨P.meth .setB,P.ahead .setB,P.ent .setB⟩

theorem PR.m_setE (P:PR):(∀ (k:Nat) (w:World),(method (k+1) P.ty P.ptr "ReadSetEnd").run Tryz.prog w=.ok (P.fn "ReadSetEnd",P.ptr) w)∧(∀ (k:Nat) (w:World),(nilAhead (k+1) P.ty P.ptr "ReadSetEnd").run Tryz.prog w=.ok (some false) w)∧∀ (args:Array Value) (w:World),(callFunc (P.fn "ReadSetEnd") args).run Tryz.prog w=.ok (.enter (P.fn "ReadSetEnd") args) w :=
  ⟨P.meth .setE,P.ahead .setE,P.ent .setE⟩

theorem PR.m_bool (P:PR):(∀ (k:Nat) (w:World),(method (k+1) P.ty P.ptr "ReadBool").run Tryz.prog w=.ok (P.fn "ReadBool",P.ptr) w)∧(∀ (k:Nat) (w:World),(nilAhead (k+1) P.ty P.ptr "ReadBool").run Tryz.prog w=.ok (some false) w)∧∀ (args:Array Value) (w:World),(callFunc (P.fn "ReadBool") args).run Tryz.prog w=.ok (.enter (P.fn "ReadBool") args) w :=
  ⟨P.meth .bool,P.ahead .bool,P.ent .bool⟩

theorem PR.m_byte (P:PR):(∀ (k:Nat) (w:World),(method (k+1) P.ty P.ptr "ReadByte").run Tryz.prog w=.ok (P.fn "ReadByte",P.ptr) w)∧(∀ (k:Nat) (w:World),(nilAhead (k+1) P.ty P.ptr "ReadByte").run Tryz.prog w=.ok (some false) w)∧∀ (args:Array Value) (w:World),(callFunc (P.fn "ReadByte") args).run Tryz.prog w=.ok (.enter (P.fn "ReadByte") args) w :=
  ⟨P.meth .byte,P.ahead .byte,P.ent .byte⟩

theorem PR.m_i16 (P:PR):(∀ (k:Nat) (w:World),(method (k+1) P.ty P.ptr "ReadI16").run Tryz.prog w=.ok (P.fn "ReadI16",P.ptr) w)∧(∀ (k:Nat) (w:World),(nilAhead (k+1) P.ty P.ptr "ReadI16").run Tryz.prog w=.ok (some false) w)∧∀ (args:Array Value) (w:World),(callFunc (P.fn "ReadI16") args).run Tryz.prog w=.ok (.enter (P.fn "ReadI16") args) w :=
  ⟨P.meth .i16,P.ahead .i16,P.ent .i16⟩

theorem PR.m_i32 (P:PR):(∀ (k:Nat) (w:World),(method (k+1) P.ty P.ptr "ReadI32").run Tryz.prog w=.ok (P.fn "ReadI32",P.ptr) w)∧(∀ (k:Nat) (w:World),(nilAhead (k+1) P.ty P.ptr "ReadI32").run Tryz.prog w=.ok (some false) w)∧∀ (args:Array Value) (w:World),(callFunc (P.fn "ReadI32") args).run Tryz.prog w=.ok (.enter (P.fn "ReadI32") args) w :=
  ⟨P.meth .i32,P.ahead .i32,P.ent .i32⟩

theorem PR.m_i64 (P:PR):(∀ (k:Nat) (w:World),(method (k+1) P.ty P.ptr "ReadI64").run Tryz.prog w=.ok (P.fn "ReadI64",P.ptr) w)∧(∀ (k:Nat) (w:World),(nilAhead (k+1) P.ty P.ptr "ReadI64").run Tryz.prog w=.ok (some false) w)∧∀ (args:Array Value) (w:World),(callFunc (P.fn "ReadI64") args).run Tryz.prog w=.ok (.enter (P.fn "ReadI64") args) w :=
  ⟨P.meth .i64,P.ahead .i64,P.ent .i64⟩

theorem PR.m_dbl (P:PR):(∀ (k:Nat) (w:World),(method (k+1) P.ty P.ptr "ReadDouble").run Tryz.prog w=.ok (P.fn "ReadDouble",P.ptr) w)∧(∀ (k:Nat) (w:World),(nilAhead (k+1) P.ty P.ptr "ReadDouble").run Tryz.prog w=.ok (some false) w)∧∀ (args:Array Value) (w:World),(callFunc (P.fn "ReadDouble") args).run Tryz.prog w=.ok (.enter (P.fn "ReadDouble") args) w :=
  ⟨P.meth .dbl,P.ahead .dbl,P.ent .dbl⟩

theorem PR.m_str (P:PR):(∀ (k:Nat) (w:World),(method (k+1) P.ty P.ptr "ReadString").run Tryz.prog w=.ok (P.fn "ReadString",P.ptr) w)∧(∀ (k:Nat) (w:World),(nilAhead (k+1) P.ty P.ptr "ReadString").run Tryz.prog w=.ok (some false) w)∧∀ (args:Array Value) (w:World),(callFunc (P.fn "ReadString") args).run Tryz.prog w=.ok (.enter (P.fn "ReadString") args) w :=
  ⟨P.meth .str,P.ahead .str,P.ent .str⟩

theorem PR.m_uuid (P:PR):(∀ (k:Nat) (w:World),(method (k+1) P.ty P.ptr "ReadUUID").run Tryz.prog w=.ok (P.fn "ReadUUID",P.ptr) w)∧(∀ (k:Nat) (w:World),(nilAhead (k+1) P.ty P.ptr "ReadUUID").run Tryz.prog w=.ok (some false) w)∧∀ (args:Array Value) (w:World),(callFunc (P.fn "ReadUUID") args).run Tryz.prog w=.ok (.enter (P.fn "ReadUUID") args) w :=
  ⟨P.meth .uuid,P.ahead .uuid,P.ent .uuid⟩

theorem IsErr.step_at {k:Nat} {v:Value} {w:World} (h:IsErr k v w) {S T:List Nat} {w1:World} (hs:Step S T w w1) (hS:∀ b,b∈S→∃ cs t f,w.heap[b]?=some (.cells cs t f)∧t≠237):IsErr k v w1:=by
  rcases h with h | ⟨b,t,er,ms,h1,h2,h3,h4⟩
  · exact .inl h
  · refine .inr ⟨b,t,er,ms,h1,h2,h3,(hs.block b (lt_heap h4) (fun hb=>?_)).trans h4⟩
    obtain ⟨cs,t',f,e1,e2⟩:=hS b hb
    rw [h4] at e1
    injection e1 with e1
    injection e1 with _ e1
    exact e2 e1.symm

theorem Step.fresh {S T U V:List Nat} {a b c:World} (h:Step S T a b) (h2:Step U V b c) (hU:∀ k,k∈U→a.heap.size≤k):Step S T a c:=by
  refine ⟨h2.os.trans h.os,h2.tape.trans h.tape,h2.output.trans h.output,Nat.le_trans h.size h2.size,fun k hk hn=>?_,h.own⟩
  have h3:=h.size
  rw [h2.block k (by omega) (fun hm=>by have:=hU k hm;omega),h.block k hk hn]

abbrev TellsV {σ:Type} (Is:List Nat→σ→World→Prop) (f:Value→Value) (k:Nat) (s1:σ) (S:List Nat) (w:World) (e:Ending) (w':World):Prop :=
  ∃ ev S',e=.returned (f ev)∧IsErr k ev w'∧Is S' s1 w'∧Step S S' w w'

end Go.Proofs.YtmjcnomgpikncaaGreatDoor

namespace Go.Proofs.YtmjcnomgpikncaaGreatDoor

open Go.RowKit Go.Deep



theorem scratch_IsB {p n:Nat} {tr og cf:Value} {sc:List Value} {l:List UInt8} {w:World} (h:Bin p tr og cf ((Lib.byteCells l).take n++sc.drop n) w) (hn:n≤l.length) (h64:n≤64):IsB (Lib.byteCells (l.take n)) (.slice (some ⟨p,3,none⟩) n 64) p w:=by
  have hlen:(Lib.byteCells (l.take n)).length=n:=by rw [Lib.byteCells_length,List.length_take];omega
  have he:Lib.byteCells (l.take n)=(Lib.byteCells l).take n:=by simp [Lib.byteCells,List.map_take]
  refine ⟨64,.inr ⟨3,by rw [hlen],by rw [hlen];exact h64,by unfold maxLen;omega,h.lt,fun j x hj=>?_⟩⟩
  have hj':j < (Lib.byteCells (l.take n)).length:=(List.getElem?_eq_some_iff.1 hj).1
  rw [h.cells,Nat.add_comm]
  simp only [List.getElem?_cons_succ]
  rw [List.getElem?_append_left (by rw [← he];exact hj'),← he]
  exact hj

set_option maxRecDepth 100000 in
set_option maxHeartbeats 1000000 in
theorem br_str_bad {p m:Nat} {og cf:Value} {c:Cfg} {S:List Nat} {b0 b1 b2 b3:UInt8} {l:List UInt8} {w:World} (h:BR p m og cf c S (b0 :: b1 :: b2 :: b3 :: l) w) (hk:sizeK c (wrap32 (Lib.beNat [b0,b1,b2,b3]))≠0) :
    Calls Tryz.prog 222 #[.pointer (some ⟨p,0,none⟩),ctxV] w (Told (BR p m og cf c) .str S w ({},sizeK c (wrap32 (Lib.beNat [b0,b1,b2,b3])),l)):=by
  have H2:=Lib.hid (br_i32 h)
  obtain ⟨n,hn⟩:∃ n,wrap32 (Lib.beNat [b0,b1,b2,b3])=n:=⟨_,rfl⟩
  rw [hn] at H2 hk ⊢
  obtain ⟨k,hkk⟩:∃ k,sizeK c n=k:=⟨_,rfl⟩
  rw [hkk] at hk ⊢
  clear h
  go_enter Tryz.func222,Tryz.ntmps222
  go_wp2_with (fail)
  refine H2.out.mono ?_
  rintro e W2 ⟨S2,rfl,hI,hs⟩
  obtain ⟨c0,c2⟩:=hI.cell0
  obtain ⟨K,hC⟩:=hI.cfg
  have HCK:=Lib.hid (check_size hC n)
  rw [hkk] at HCK
  have HI:=Lib.hid hI
  clear hI hC H2
  go_wp2_with (fail)
  refine HCK.out.mono ?_
  rintro e W3 ⟨ev,rfl,he,hb⟩
  rcases he with ⟨h0,_⟩ | he
  · exact absurd h0 hk
  have HE:=Lib.hid he
  obtain ⟨bb,t,er,ms,hk1,hk2,rfl,hbb⟩:=he
  clear hk1 hk2 hbb hk hkk
  go_wp2
  go_ret2
  exact ⟨_,_,rfl,.inr HE.out,HI.out.step (Step.ofBelow (S:=[]) hb) (by simp),hs.trans (Step.ofBelow hb)⟩

set_option maxRecDepth 100000 in
set_option maxHeartbeats 1000000 in
theorem br_str_ok {p m:Nat} {og cf:Value} {c:Cfg} {S:List Nat} {b0 b1 b2 b3:UInt8} {l:List UInt8} {w:World} (h:BR p m og cf c S (b0 :: b1 :: b2 :: b3 :: l) w) (n:Nat) (hn:wrap32 (Lib.beNat [b0,b1,b2,b3])=n) (hk:sizeK c n=0) (hnl:n≤l.length) :
    Calls Tryz.prog 222 #[.pointer (some ⟨p,0,none⟩),ctxV] w (Told (BR p m og cf c) .str S w ({ s:=l.take n },0,l.drop n)):=by
  have H2:=Lib.hid (br_i32 h)
  have hnr:n < 2147483648:=by
    have:wrap32 (Lib.beNat [b0,b1,b2,b3]) < 2147483648:=by unfold wrap32;omega
    omega
  rw [hn] at H2
  clear h
  go_enter Tryz.func222,Tryz.ntmps222
  go_wp2_with (fail)
  refine H2.out.mono ?_
  rintro e W2 ⟨S2,rfl,hI,hs⟩
  obtain ⟨c0,c2⟩:=hI.cell0
  obtain ⟨K,hC⟩:=hI.cfg
  have HCK:=Lib.hid (check_size hC n)
  rw [hk] at HCK
  have HI:=Lib.hid hI
  clear hI hC H2
  go_wp2_with (fail)
  refine HCK.out.mono ?_
  rintro e W3 ⟨ev,rfl,he,hb⟩
  obtain rfl:=he.zero
  have HI3:=Lib.hid (HI.out.step (Step.ofBelow (S:=[]) hb) (by simp))
  have HS3:=Lib.hid (hs.trans (Step.ofBelow hb))
  clear hs hb he c0 c2 HCK HI
  by_cases h0:n=0
  · subst h0
    go_wp2
    go_ret2
    exact ⟨_,_,rfl,IsErr.nil _,HI3.out,HS3.out⟩
  have hq0:¬ (n:Int)=0:=by omega
  obtain ⟨b,g,off,sc,K3,rfl,hp,hm,hC,hd,hK⟩:=HI3.out
  have c0:W3.cell? ⟨p,0,none⟩=some (memV m):=by rw [hp.cells];rfl
  by_cases h64:n < 64
  · have hq1:(n:Int) < 64:=by omega
    have hq2:(0:Int)≤(n:Int):=by omega
    have hq3:(n:Int)≤64:=by omega
    have hsz:(memV m :: og :: cf :: sc).toArray.size=67:=by simp [hp.2.1]
    have HR:=Lib.hid (readFull_whole m b g off p 3 n 64 (Lib.byteCells l) _ _ W3 hm (by omega) (by rw [Lib.byteCells_length];exact hnl) (Lib.byteCells_one _) hp.1 hd.1 hd.2.1 hd.2.2 (by rw [hsz];omega) (by unfold maxLen;omega) (by omega) (by unfold maxLen;omega))
    have HP:=Lib.hid hp
    clear hp hm
    go_wp2_with (go_at_call 91;refine HR.out.mono ?_)
    rintro e W4 ⟨rfl,hM,hpp,hs4⟩
    have hB:=HP.out.filled (bs:=Lib.byteCells l) (n:=n) (by omega) (by rw [Lib.byteCells_length];exact hnl) (Lib.byteCells_one _) hpp
    have HB:=Lib.hid hB
    have HM:=Lib.hid (show Mem m b g (off+n) (Lib.byteCells (l.drop n)) W4 from by
      have e:Lib.byteCells (l.drop n)=(Lib.byteCells l).drop n:=by simp [Lib.byteCells,List.map_drop]
      rw [e];exact hM)
    have HV:=Lib.hid (fun W (hW:Step [] [] W4 W)=>str_conv ((scratch_IsB hB hnl (by omega)).step hW (by simp)))
    clear hB hM hpp HR
    go_wp2_with (fail)
    have cv0:=HV.out W4 (Step.refl _ _)
    have cv1:=HV.out W4.drew (Step.refl _ _).drew
    go_region_with (go_at_call 178;go_in)
    all_goals go_wp2
    all_goals go_ret2
    all_goals (
      have hT:=BR.took hC hd hK HB.out HM.out hs4
      exact ⟨_,_,rfl,IsErr.nil _,hT.1.step ((Step.refl [] _).drew) (by simp),(HS3.out.trans hT.2).drew⟩)
  · have hq1:¬ (n:Int) < 64:=by omega
    have HR:=Lib.hid (safe_read m b g off n (Lib.byteCells l) W3 hm (by omega) (by rw [Lib.byteCells_length];exact hnl) (Lib.byteCells_one _) (by omega))
    have HP:=Lib.hid hp
    clear hp hm
    go_wp2_with (first | (go_at_call 257;go_in) | (go_at_call 82;refine HR.out.mono ?_;rintro e W4 ⟨v,dd,rfl,hIB,hM,hs4,hdd⟩))
    have HV:=Lib.hid (fun W (hW:Step [] [] W4 W)=>str_conv (show IsB (Lib.byteCells (l.take n)) v dd W from by
      have e:Lib.byteCells (l.take n)=(Lib.byteCells l).take n:=by simp [Lib.byteCells,List.map_take]
      rw [e];exact hIB.step hW (by simp)))
    have HM:=Lib.hid (show Mem m b g (off+n) (Lib.byteCells (l.drop n)) W4 from by
      have e:Lib.byteCells (l.drop n)=(Lib.byteCells l).drop n:=by simp [Lib.byteCells,List.map_drop]
      rw [e];exact hM)
    clear hIB hM HR
    have cv0:=HV.out W4 (Step.refl _ _)
    have cv1:=HV.out W4.drew (Step.refl _ _).drew
    go_region_with (go_at_call 178;go_in)
    all_goals go_wp2
    all_goals go_ret2
    all_goals (
      have hT:=BR.took hC hd hK (HP.out.step hs4 (by simp [hd.2.1])) HM.out (hs4.more (by simp) (fun k hk=>.inr (.inl hk)))
      exact ⟨_,_,rfl,IsErr.nil _,hT.1.step ((Step.refl [] _).drew) (by simp),(HS3.out.trans hT.2).drew⟩)

end Go.Proofs.YtmjcnomgpikncaaGreatDoor

namespace Go.Proofs.YtmjcnomgpikncaaGreatDoor

open Go.RowKit Go.Deep Go.Proofs.YtmjcnomgpikncaaGreatDoorW.PrintWords



theorem results_cell_tmp {fn:Func} {s u:Tmp} {t:TypeId} (h:fn.results=#[.cell s t,.tmp u]) (tmps:Array Value) (P:Program) (w:World) {ad:Addr} {v:Value} (hs:tmps.getD s undef=.pointer (some ad)) (hrun:(loadVar t ad).run P w=.ok v w) :
    (results fn tmps).run P w=.ok (.tuple #[v,tmps.getD u undef]) w:=by
  have hs':tmps[s]?.getD undef=.pointer (some ad):=by simpa using hs
  simp [results,h,hs',asAddr,hrun,Result.andThen]

theorem uuid_range {B:Nat} {l:List UInt8} {W:World} (h:W.heap[B]?=some (.cells (Lib.byteCells l).toArray 143 (0,0))):W.rangeAt B 0 (Lib.byteCells l):=fun j v hj=>by
  rw [cell_heap h,Nat.zero_add]
  simpa using hj

theorem uuid_there {B:Nat} {l:List UInt8} {W:World} (h:W.heap[B]?=some (.cells (Lib.byteCells l).toArray 143 (0,0))) (hl:l.length=16):W.there B 0 16:=fun j hj=>by
  refine ⟨?_,frozen_heap h _⟩
  rw [cell_heap h,Nat.zero_add]
  have:j < (Lib.byteCells l).length:=by rw [Lib.byteCells_length];omega
  simp [this]

theorem copy16 {B p o:Nat} {l:List UInt8} {W1:World} (hB:IsB (Lib.byteCells (l.take 16)) (.slice (some ⟨p,o,none⟩) 16 64) p W1) (hn:16≤l.length) (hv:W1.heap[B]?=some (.cells #[.int .u8 0,.int .u8 0,.int .u8 0,.int .u8 0,.int .u8 0,.int .u8 0,.int .u8 0,.int .u8 0,.int .u8 0,.int .u8 0,.int .u8 0,.int .u8 0,.int .u8 0,.int .u8 0,.int .u8 0,.int .u8 0] 143 (0,0))) :
    ∃ W2,(Builtin.copy_ #[24,24] 3 #[.slice (some ⟨B,0,none⟩) 16 16,.slice (some ⟨p,o,none⟩) 16 64]).run Tryz.prog W1=.ok (goInt 16) W2∧W2.heap[B]?=some (.cells (Lib.byteCells (l.take 16)).toArray 143 (0,0))∧Step [B] [B] W1 W2:=by
  have hlen:(Lib.byteCells (l.take 16)).length=16:=by rw [Lib.byteCells_length,List.length_take];omega
  obtain ⟨c,⟨h0,_⟩ | ⟨o',h0,_,_,_,h5⟩⟩:=hB
  · cases h0
  injection h0 with h0 _ _
  injection h0 with h0
  injection h0 with _ h0 _
  subst h0
  have hcp:=run_copy_row (P:=Tryz.prog) W1 24 24 3 5 B 0 16 16 ⟨p,o,none⟩ 16 64 _ 143 (Lib.byteCells (l.take 16)) Tryz.underlying24 size8 hv hlen (fun j v hj=>by
    rw [Lib.addr_add]
    exact h5 j v hj) (by rw [hlen];simp) (Lib.byteCells_one _)
  rw [hlen] at hcp
  refine ⟨_,hcp,?_,(Step.refl _ _).setRow (.inl (by simp)) _⟩
  rw [setRow_heap _ _ _ _ _ _ hv]
  simp

set_option maxRecDepth 100000 in
set_option maxHeartbeats 1000000 in
theorem br_uuid {p m:Nat} {og cf:Value} {c:Cfg} {S:List Nat} {l:List UInt8} {w:World} (h:BR p m og cf c S l w) (hn:16≤l.length) :
    Calls Tryz.prog 225 #[.pointer (some ⟨p,0,none⟩),ctxV] w (RD (BR p m og cf c) S w (.tuple #[.agg (Lib.byteCells (l.take 16)).toArray,.nilIface]) (l.drop 16)):=by
  have HLT:=Lib.hid h.lt
  obtain ⟨b,g,off,sc,K,rfl,hp,hm,hC,hd,hK⟩:=h
  have hR:=fun o=>readAll_whole p m b g off 3 16 64 og cf sc (Lib.byteCells l) (w.alloc o) (hp.alloc o) (hm.alloc o) hd.1 hd.2.1 hd.2.2 (by omega) (by rw [Lib.byteCells_length];exact hn) (Lib.byteCells_one _) (by omega) (by omega) (by omega) (by omega)
  have HR:=Lib.hid hR
  clear hR
  have hpl:=hp.lt
  have hbl:=hm.2.2.2.lt.1
  go_enter Tryz.func225,Tryz.ntmps225
  have HL:=Lib.hid (show (l.take 16).length=16 by rw [List.length_take];omega)
  go_wp2_with (first
    | (go_at_call 251;refine (HR.out _).mono ?_;rintro e W1 ⟨rfl,hM,hpp,hs⟩;have hv:=(hs.block w.heap.size (by simp) (by simp;omega)).trans (heap_alloc_new w _);have hB:=hp.filled (bs:=Lib.byteCells l) (n:=16) (by omega) (by rw [Lib.byteCells_length];exact hn) (Lib.byteCells_one _) hpp;obtain ⟨W2,hcp,h2,hs2⟩:=copy16 (scratch_IsB hB hn (by omega)) hn hv;have HM:=Lib.hid hM;have HB:=Lib.hid hB;have HS:=Lib.hid hs;have H2:=Lib.hid h2;have HS2:=Lib.hid hs2;clear hM hpp hs hv hB h2 hs2)
    | (refine wpList_load_mid rfl 143 _ rfl w.heap.size 0 rfl (Lib.byteCells (l.take 16)) _ (uuid_range H2.out) Tryz.underlying143 rfl (by rw [Lib.byteCells_length,HL.out];exact infoUuid) ?_)
    | (refine wpList_store_mid rfl 143 _ _ rfl w.heap.size 0 (Lib.byteCells (l.take 16)).toArray rfl rfl (by simpa [Lib.byteCells_length,HL.out] using uuid_there H2.out HL.out) (by simp only [List.size_toArray,Lib.byteCells_length,HL.out];exact infoUuid) (all_oneCell_toArray (Lib.byteCells_one _)) ?_))
  have hlen:(Lib.byteCells (l.take 16)).length=16:=by rw [Lib.byteCells_length,List.length_take];omega
  have hT:=BR.took hC hd hK HB.out (show Mem m b g (off+16) (Lib.byteCells (l.drop 16)) W1 from by
    have e:Lib.byteCells (l.drop 16)=(Lib.byteCells l).drop 16:=by simp [Lib.byteCells,List.map_drop]
    rw [e];exact HM.out) (((Step.refl _ w).alloc _).trans HS.out)
  have HT:=Lib.hid hT
  have hR2:=World.rangeAt_setCells_same W2 w.heap.size 0 (Lib.byteCells (l.take 16)) (by rw [hlen];exact uuid_there H2.out HL.out)
  have hrun:=run_loadVar_mid (P:=Tryz.prog) _ w.heap.size 0 143 (Lib.byteCells (l.take 16)) _ hR2 Tryz.underlying143 rfl (by rw [hlen];exact infoUuid)
  have hs3:Step [w.heap.size] [w.heap.size] W1 (W2.setCells w.heap.size 0 (Lib.byteCells (l.take 16))):=HS2.out.setCells (.inl (by simp)) 0 _
  refine bodyPost_ret (v:=.tuple #[.agg (Lib.byteCells (l.take 16)).toArray,.nilIface]) (results_cell_tmp Tryz.results225 _ _ _ (by rfl) hrun) rfl ?_
  exact ⟨_,rfl,HT.out.1.step hs3 (fun k hk hk2=>by
    simp only [List.mem_cons,List.not_mem_nil,or_false] at hk2
    subst hk2
    exact absurd (HLT.out _ hk) (Nat.lt_irrefl _)),HT.out.2.fresh hs3 (by simp)⟩

end Go.Proofs.YtmjcnomgpikncaaGreatDoor
