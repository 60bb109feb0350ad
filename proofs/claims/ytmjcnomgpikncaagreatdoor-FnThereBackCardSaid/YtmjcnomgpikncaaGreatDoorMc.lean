/- Configurations, the calls of a protocol that writes, and the calls that a value comes to. No condition. -/
import Derived.Test.YtmjcnomgpikncaaGreatDoorProg
import Derived.Test.YtmjcnomgpikncaaGreatDoorMa1
import Derived.Deep.RegionWith
import Derived.Deep.RegionHeld3
import Derived.Deep.QuietTactic
import Derived.ProofKit
import Derived.Lib.SmallJoins
import Derived.WalkKit
import Derived.Lib.Varint
import Derived.Lib.Endian
import Derived.Lib.Zigzag
import Derived.Lib.VarintBits
import Derived.Lib.Buffer
import Derived.Lib.BufferMore
import Derived.Test.YtmjcnomgpikncaaGreatDoorMb2
import Derived.Laws.CopyRow
import Derived.Deep.MidRow
import Derived.Test.YtmjcnomgpikncaaGreatDoorMw1
import Derived.Test.YtmjcnomgpikncaaGreatDoorMw2
set_option linter.unusedVariables false
set_option linter.unusedSimpArgs false
namespace Go.Proofs.YtmjcnomgpikncaaGreatDoor

open Go.RowKit



def orElse (x d:Int):Int:=if x≤0 then d else x

def IsConf (k:Nat) (ms fr ct:Int) (r s:Nat) (rb sb:Bool) (w:World):Prop :=
  w.cell? ⟨k,0,none⟩=some (.int .i32 ms)∧w.cell? ⟨k,1,none⟩=some (.int .i32 fr)∧w.cell? ⟨k,2,none⟩=some (.int .i32 ct)∧w.cell? ⟨k,3,none⟩=some (.pointer (some ⟨r,0,none⟩))∧w.cell? ⟨k,4,none⟩=some (.pointer (some ⟨s,0,none⟩)) ∧
    w.cell? ⟨r,0,none⟩=some (.bool rb)∧w.cell? ⟨s,0,none⟩=some (.bool sb)

theorem maxMessage_nil (w:World):Calls Tryz.prog 198 #[.pointer none] w fun e w'=>e=.returned (.int .i32 104857600)∧w=w':=by
  go_enter Tryz.func198,Tryz.ntmps198
  go_wp2
  go_ret
  exact ⟨rfl,rfl⟩

theorem maxMessage_at (k:Nat) (ms fr ct:Int) (r s:Nat) (rb sb:Bool) (w:World) (h:IsConf k ms fr ct r s rb sb w):Calls Tryz.prog 198 #[.pointer (some ⟨k,0,none⟩)] w fun e w'=>e=.returned (.int .i32 (orElse ms 104857600))∧w=w':=by
  obtain ⟨c0,c1,c2,c3,c4,cr,cs⟩:=h
  by_cases hm:ms≤0
  · have he:orElse ms 104857600=104857600:=if_pos hm
    rw [he]
    go_enter Tryz.func198,Tryz.ntmps198
    go_wp2
    go_ret
    exact ⟨rfl,rfl⟩
  · have he:orElse ms 104857600=ms:=if_neg hm
    rw [he]
    go_enter Tryz.func198,Tryz.ntmps198
    go_wp2
    go_ret
    exact ⟨rfl,rfl⟩

theorem maxContainer_nil (w:World):Calls Tryz.prog 200 #[.pointer none] w fun e w'=>e=.returned (.int .i32 2147483647)∧w=w':=by
  go_enter Tryz.func200,Tryz.ntmps200
  go_wp2
  go_ret
  exact ⟨rfl,rfl⟩

theorem maxContainer_at (k:Nat) (ms fr ct:Int) (r s:Nat) (rb sb:Bool) (w:World) (h:IsConf k ms fr ct r s rb sb w):Calls Tryz.prog 200 #[.pointer (some ⟨k,0,none⟩)] w fun e w'=>e=.returned (.int .i32 (orElse ct 2147483647))∧w=w':=by
  obtain ⟨c0,c1,c2,c3,c4,cr,cs⟩:=h
  by_cases hm:ct≤0
  · have he:orElse ct 2147483647=2147483647:=if_pos hm
    rw [he]
    go_enter Tryz.func200,Tryz.ntmps200
    go_wp2
    go_ret
    exact ⟨rfl,rfl⟩
  · have he:orElse ct 2147483647=ct:=if_neg hm
    rw [he]
    go_enter Tryz.func200,Tryz.ntmps200
    go_wp2
    go_ret
    exact ⟨rfl,rfl⟩

theorem strictWrite_nil (w:World):Calls Tryz.prog 261 #[.pointer none] w fun e w'=>e=.returned (.bool true)∧w=w':=by
  go_enter Tryz.func261,Tryz.ntmps261
  go_wp2
  go_ret
  exact ⟨rfl,rfl⟩

theorem strictWrite_at (k:Nat) (ms fr ct:Int) (r s:Nat) (rb sb:Bool) (w:World) (h:IsConf k ms fr ct r s rb sb w):Calls Tryz.prog 261 #[.pointer (some ⟨k,0,none⟩)] w fun e w'=>e=.returned (.bool sb)∧w=w':=by
  obtain ⟨c0,c1,c2,c3,c4,cr,cs⟩:=h
  go_enter Tryz.func261,Tryz.ntmps261
  go_wp2
  go_ret
  exact ⟨rfl,rfl⟩

abbrev confV (proto:Int) (plain rb sb:Bool) (ms ct fr:Int):Value:=.agg #[.int .i64 proto,.bool plain,.bool rb,.bool sb,.int .i32 ms,.int .i32 ct,.int .i32 fr]

theorem config_given (proto:Int) (rb sb:Bool) (ms ct fr:Int) (w:World):Calls Tryz.prog 70 #[confV proto false rb sb ms ct fr] w fun e w'=>∃ k r s,e=.returned (.pointer (some ⟨k,0,none⟩))∧IsConf k ms fr ct r s rb sb w'∧Below w.heap.size w w'∧w'.cell? ⟨k,5,none⟩=some (.bool false)∧(w.heap.size≤k∧w.heap.size≤r∧w.heap.size≤s)∧(k < w'.heap.size∧r < w'.heap.size∧s < w'.heap.size):=by
  go_enter Tryz.func70,Tryz.ntmps70
  go_wp2
  go_region
  all_goals go_wp2
  all_goals go_ret
  all_goals (first
    | (refine ⟨_,w.heap.size+1,w.heap.size+1+1,rfl,⟨?_,?_,?_,?_,?_,?_,?_⟩,?_,?_,⟨by omega,by omega,by omega⟩,⟨?_,?_,?_⟩⟩
       iterate 7 (rotate_left;skip)
       (repeat (first | (with_reducible exact Below.refl _ _) | (with_reducible refine Below.drew ?_) | (with_reducible refine Below.setCell ?_ (by simp <;> omega) _) | (with_reducible refine Below.alloc ?_ (by simp <;> omega) _)))
       all_goals first | (simp [go_sem];done) | (simp [go_sem];omega))
    | (refine ⟨_,w.heap.size+1+1,w.heap.size+1,rfl,⟨?_,?_,?_,?_,?_,?_,?_⟩,?_,?_,⟨by omega,by omega,by omega⟩,⟨?_,?_,?_⟩⟩
       iterate 7 (rotate_left;skip)
       (repeat (first | (with_reducible exact Below.refl _ _) | (with_reducible refine Below.drew ?_) | (with_reducible refine Below.setCell ?_ (by simp <;> omega) _) | (with_reducible refine Below.alloc ?_ (by simp <;> omega) _)))
       all_goals first | (simp [go_sem];done) | (simp [go_sem];omega)))

end Go.Proofs.YtmjcnomgpikncaaGreatDoor

namespace Go.Proofs.YtmjcnomgpikncaaGreatDoor

open Go.RowKit Go.ChangeShapes Go.WideShapes



theorem array7 {α:Type} {cs:Array α} (h:cs.size=7):∃ c0 c1 c2 c3 c4 c5 c6,cs=#[c0,c1,c2,c3,c4,c5,c6]:=by
  obtain ⟨l⟩:=cs
  match l,h with
  | [c0,c1,c2,c3,c4,c5,c6],_=>exact ⟨c0,c1,c2,c3,c4,c5,c6,rfl⟩

theorem list7 {α:Type} {l:List α} (h:l.length=7):∃ c0 c1 c2 c3 c4 c5 c6,l=[c0,c1,c2,c3,c4,c5,c6]:=by
  match l,h with
  | [c0,c1,c2,c3,c4,c5,c6],_=>exact ⟨c0,c1,c2,c3,c4,c5,c6,rfl⟩

theorem cellsConf:Tryz.prog.cellsOf 23=7:=by kernel_rfl

theorem cellsInt:Tryz.prog.cellsOf 3=1:=by kernel_rfl

theorem cellsBool:Tryz.prog.cellsOf 4=1:=by kernel_rfl

theorem cellsI32:Tryz.prog.cellsOf 21=1:=by kernel_rfl

set_option maxRecDepth 100000 in
theorem open_conf {H:Type} {enc:TypeId × Value→H} {w:World} {base:Nat} {spare:Nat→Bool} {held:Bool} {r:Reach} {b0:Nat} {v:Value} {d:DataW H} {p:List MemPlace}
    (hv:Value.okWide Tryz.prog w r b0 23 v) (h:DataW.Trod enc Tryz.prog w base spare held 23 v d p) :
    ∃ proto plain rb sb ms ct fr,v=confV proto plain rb sb ms ct fr∧(Lit.int .i64 proto).wf=true∧(Lit.int .i32 ms).wf=true∧(Lit.int .i32 ct).wf=true∧(Lit.int .i32 fr).wf=true:=by
  obtain ⟨cs,rfl,hsz⟩:=okWide_struct Tryz.underlying23 hv
  obtain ⟨c0,c1,c2,c3,c4,c5,c6,rfl⟩:=array7 (hsz.trans cellsConf)
  obtain ⟨fuel,hf⟩:=h
  obtain ⟨xs,n,_,_,_,hlen,hf⟩:=DataW.trod_struct Tryz.underlying23 hf
  obtain ⟨y0,y1,y2,y3,y4,y5,y6,rfl⟩:=list7 hlen
  have h0:=hf 0 _ rfl
  have h1:=hf 1 _ rfl
  have h2:=hf 2 _ rfl
  have h3:=hf 3 _ rfl
  have h4:=hf 4 _ rfl
  have h5:=hf 5 _ rfl
  have h6:=hf 6 _ rfl
  clear hf hlen hv hsz
  obtain ⟨a0,e0,_,w0⟩:=DataW.trod_int Tryz.underlying3 (x:=y0) h0
  obtain ⟨a1,e1,_⟩:=DataW.trod_bool Tryz.underlying4 (x:=y1) h1
  obtain ⟨a2,e2,_⟩:=DataW.trod_bool Tryz.underlying4 (x:=y2) h2
  obtain ⟨a3,e3,_⟩:=DataW.trod_bool Tryz.underlying4 (x:=y3) h3
  obtain ⟨a4,e4,_,w4⟩:=DataW.trod_int Tryz.underlying21 (x:=y4) h4
  obtain ⟨a5,e5,_,w5⟩:=DataW.trod_int Tryz.underlying21 (x:=y5) h5
  obtain ⟨a6,e6,_,w6⟩:=DataW.trod_int Tryz.underlying21 (x:=y6) h6
  replace e0:List.take (Tryz.prog.cellsOf 3) [c0,c1,c2,c3,c4,c5,c6]=_:=e0
  replace e1:List.take (Tryz.prog.cellsOf 4) [c1,c2,c3,c4,c5,c6]=_:=e1
  replace e2:List.take (Tryz.prog.cellsOf 4) [c2,c3,c4,c5,c6]=_:=e2
  replace e3:List.take (Tryz.prog.cellsOf 4) [c3,c4,c5,c6]=_:=e3
  replace e4:List.take (Tryz.prog.cellsOf 21) [c4,c5,c6]=_:=e4
  replace e5:List.take (Tryz.prog.cellsOf 21) [c5,c6]=_:=e5
  replace e6:List.take (Tryz.prog.cellsOf 21) [c6]=_:=e6
  rw [cellsInt] at e0
  rw [cellsBool] at e1 e2 e3
  rw [cellsI32] at e4 e5 e6
  simp at e0 e1 e2 e3 e4 e5 e6
  subst e0 e1 e2 e3 e4 e5 e6
  exact ⟨_,_,_,_,_,_,_,rfl,w0,w4,w5,w6⟩

end Go.Proofs.YtmjcnomgpikncaaGreatDoor

namespace Go.Proofs.YtmjcnomgpikncaaGreatDoor

open Go.RowKit



inductive WOp where
  | msgB (nm:List UInt8) (t seq:Int) | msgE | strB | strE | fldB (t id:Int) | fldE | stop
  | mapB (k t n:Int) | mapE | lstB (t n:Int) | lstE | setB (t n:Int) | setE
  | bool (b:Bool) | byte (n:Int) | i16 (n:Int) | i32 (n:Int) | i64 (n:Int) | dbl (n:Nat)
  | str (s:List UInt8) | bin (s:List UInt8) | uuid (s:List UInt8)

def WOp.cost:WOp→Nat
  | .msgB nm _ _=>nm.length+32
  | .str s=>s.length+32
  | .bin s=>s.length+32
  | _=>32

def WOp.fit:WOp→Prop
  | .msgB nm t seq=>nm.length≤2147483647∧(-2147483648≤t∧t < 2147483648)∧(-2147483648≤seq∧seq < 2147483648)
  | .fldB t id=>(0≤t∧t < 256)∧(-32768≤id∧id < 32768)
  | .mapB k t n=>(0≤k∧k < 256)∧(0≤t∧t < 256)∧(-9223372036854775808≤n∧n < 9223372036854775808)
  | .lstB t n=>(0≤t∧t < 256)∧(-9223372036854775808≤n∧n < 9223372036854775808)
  | .setB t n=>(0≤t∧t < 256)∧(-9223372036854775808≤n∧n < 9223372036854775808)
  | .byte n=>-128≤n∧n < 128
  | .i16 n=>-32768≤n∧n < 32768
  | .i32 n=>-2147483648≤n∧n < 2147483648
  | .i64 n=>-9223372036854775808≤n∧n < 9223372036854775808
  | .dbl n=>n < 18446744073709551616
  | .str s=>s.length≤2147483647
  | .bin s=>s.length≤2147483647
  | .uuid s=>s.length=16
  | _=>True

def u16 (l:List UInt8):List UInt8:=(l++List.replicate 16 0).take 16

theorem u16_length (l:List UInt8):(u16 l).length=16:=by simp [u16]

def be (k:Nat) (n:Int):List UInt8:=Lib.beBytes k (n % (256:Int) ^ k).toNat

def u8 (n:Int):UInt8:=(n % 256).toNat.toUInt8

def bText (s:List UInt8):List UInt8:=be 4 s.length++s

def binOut (strict:Bool):WOp→List UInt8
  | .msgB nm t seq=>if strict then be 4 ((0x80010000 ||| (t % 4294967296).toNat:Nat):Int)++bText nm++be 4 seq else bText nm++[u8 t]++be 4 seq
  | .fldB t id=>u8 t :: be 2 id
  | .stop=>[0]
  | .mapB k t n=>u8 k :: u8 t :: be 4 n
  | .lstB t n=>u8 t :: be 4 n
  | .setB t n=>u8 t :: be 4 n
  | .bool b=>[if b then 1 else 0]
  | .byte n=>[u8 n]
  | .i16 n=>be 2 n
  | .i32 n=>be 4 n
  | .i64 n=>be 8 n
  | .dbl n=>be 8 n
  | .str s=>bText s
  | .bin s=>bText s
  | .uuid s=>s
  | _=>[]

structure CW where
  stk:List Int
  last:Int
  pend:Bool
  pid:Int

def CW0:CW:=⟨[],0,false,0⟩

def cCode (t:Int):Nat :=
  if t=2 then 1 else if t=3 then 3 else if t=6 then 4 else if t=8 then 5 else if t=10 then 6 else if t=4 then 7 else if t=11 then 8
  else if t=15 then 9 else if t=14 then 10 else if t=13 then 11 else if t=12 then 12 else if t=16 then 13 else 0

theorem cCode_le (t:Int):cCode t≤13:=by unfold cCode;(repeat' split) <;> omega

def cHead (last id:Int) (code:Nat):List UInt8 :=
  if last < id∧id - last≤15 then [((id - last).toNat * 16+code).toUInt8] else code.toUInt8 :: Lib.uvarint (Lib.zigzag id)

def cText (s:List UInt8):List UInt8:=Lib.uvarint s.length++s

def le8 (n:Nat):List UInt8:=Lib.leBytes 8 n

def cmpRun (s:CW):WOp→CW × List UInt8 × Nat
  | .msgB nm t seq=>(s,0x82 :: (1+(t % 8).toNat * 32).toUInt8 :: (Lib.uvarint (seq % 4294967296).toNat++cText nm),0)
  | .strB=>({ s with stk:=s.stk++[s.last],last:=0 },[],0)
  | .strE=>if s.stk=[] then (s,[],11) else ({ s with stk:=s.stk.dropLast,last:=s.stk.getLastD 0 },[],0)
  | .fldB t id=>if t=2 then ({ s with pend:=true,pid:=id },[],0) else ({ s with last:=id },cHead s.last id (cCode t),0)
  | .stop=>(s,[0],0)
  | .mapB k t n=>(s,if n=0 then [0] else Lib.uvarint (n % 4294967296).toNat++[(cCode k * 16+cCode t).toUInt8],0)
  | .lstB t n=>(s,if n≤14 then [((n % 16).toNat * 16+cCode t).toUInt8] else (240+cCode t).toUInt8 :: Lib.uvarint (n % 4294967296).toNat,0)
  | .setB t n=>(s,if n≤14 then [((n % 16).toNat * 16+cCode t).toUInt8] else (240+cCode t).toUInt8 :: Lib.uvarint (n % 4294967296).toNat,0)
  | .bool b=>if s.pend then ({ s with last:=s.pid,pend:=false },cHead s.last s.pid (if b then 1 else 2),0) else (s,[if b then 1 else 2],0)
  | .byte n=>(s,[u8 n],0)
  | .i16 n=>(s,Lib.uvarint (Lib.zigzag n),0)
  | .i32 n=>(s,Lib.uvarint (Lib.zigzag n),0)
  | .i64 n=>(s,Lib.uvarint (Lib.zigzag n),0)
  | .dbl n=>(s,le8 n,0)
  | .str x=>(s,cText x,0)
  | .bin x=>(s,cText x,0)
  | .uuid x=>(s,x,0)
  | _=>(s,[],0)

end Go.Proofs.YtmjcnomgpikncaaGreatDoor

namespace Go.Proofs.YtmjcnomgpikncaaGreatDoor

open Go.RowKit Go.Deep



def IsProt (k:Nat) (v:Value) (w:World):Prop :=
  ∃ b t er ms,k=10+t∧t≤6∧v=.iface 235 (.pointer (some ⟨b,0,none⟩))∧w.heap[b]?=some (.cells #[.int .i64 (t:Nat),er,ms] 237 (0,0))

def IsErr (k:Nat) (v:Value) (w:World):Prop:=(k=0∧v=.nilIface)∨IsProt k v w

theorem IsErr.nil (w:World):IsErr 0 .nilIface w:=.inl ⟨rfl,rfl⟩

theorem IsErr.zero {v:Value} {w:World} (h:IsErr 0 v w):v=.nilIface:=by
  rcases h with ⟨_,h⟩ | ⟨b,t,er,ms,h,_⟩
  · exact h
  · omega

def Did {σ:Type} (Is:List Nat→σ→World→Prop) (S:List Nat) (w:World) (r:σ × Nat) (e:Ending) (w':World):Prop :=
  ∃ ev S',e=.returned ev∧IsErr r.2 ev w'∧Is S' r.1 w'∧Step S S' w w'

def WOp.nm:WOp→String
  | .msgB .. => "WriteMessageBegin" | .msgE => "WriteMessageEnd" | .strB => "WriteStructBegin" | .strE => "WriteStructEnd" | .fldB .. => "WriteFieldBegin" | .fldE => "WriteFieldEnd" | .stop => "WriteFieldStop"
  | .mapB .. => "WriteMapBegin" | .mapE => "WriteMapEnd" | .lstB .. => "WriteListBegin" | .lstE => "WriteListEnd" | .setB .. => "WriteSetBegin" | .setE => "WriteSetEnd"
  | .bool _ => "WriteBool" | .byte _ => "WriteByte" | .i16 _ => "WriteI16" | .i32 _ => "WriteI32" | .i64 _ => "WriteI64" | .dbl _ => "WriteDouble" | .str _ => "WriteString" | .bin _ => "WriteBinary" | .uuid _ => "WriteUUID"

abbrev strV (s:List UInt8):Value:=.string ⟨s.toArray⟩

def WOp.argv (p:Value):WOp→Array Value
  | .msgB nm t seq=>#[p,ctxV,strV nm,.int .i32 t,.int .i32 seq]
  | .strB=>#[p,ctxV,.string ByteArray.empty]
  | .fldB t id=>#[p,ctxV,.string ByteArray.empty,.int .u8 t,.int .i16 id]
  | .mapB k t n=>#[p,ctxV,.int .u8 k,.int .u8 t,.int .i64 n]
  | .lstB t n=>#[p,ctxV,.int .u8 t,.int .i64 n]
  | .setB t n=>#[p,ctxV,.int .u8 t,.int .i64 n]
  | .bool b=>#[p,ctxV,.bool b]
  | .byte n=>#[p,ctxV,.int .i8 n]
  | .i16 n=>#[p,ctxV,.int .i16 n]
  | .i32 n=>#[p,ctxV,.int .i32 n]
  | .i64 n=>#[p,ctxV,.int .i64 n]
  | .dbl n=>#[p,ctxV,.float .f64 n]
  | .str s=>#[p,ctxV,strV s]
  | .uuid s=>#[p,ctxV,.agg (Lib.byteCells s).toArray]
  | _=>#[p,ctxV]

def WOp.isBin:WOp→Bool
  | .bin _=>true
  | _=>false

def LiesAt (xs:List UInt8) (ao:Option Addr) (S:List Nat) (w:World):Prop :=
  (∀ a,ao=some a→0 < xs.length→(a.block < w.heap.size∧a.block∉S)∧∀ j v,(Lib.byteCells xs)[j]?=some v→w.cell? (a.add j)=some v)∧(ao=none→xs.length=0)

structure PW where
  ty:TypeId
  ptr:Value
  fn:String→FuncId
  σ:Type
  Is:List Nat→σ→World→Prop
  room:σ→Nat
  run:σ→WOp→σ × Nat
  meth:∀ (o:WOp) (k:Nat) (w:World),(method (k+1) ty ptr o.nm).run Tryz.prog w=.ok (fn o.nm,ptr) w
  ahead:∀ (o:WOp) (k:Nat) (w:World),(nilAhead (k+1) ty ptr o.nm).run Tryz.prog w=.ok (some false) w
  ent:∀ (o:WOp) (args:Array Value) (w:World),(callFunc (fn o.nm) args).run Tryz.prog w=.ok (.enter (fn o.nm) args) w
  step:∀ {S s w},Is S s w→∀ {T U w1},Step T U w w1→(∀ k,k∈S→k∉T)→Is S s w1
  lt:∀ {S s w},Is S s w→∀ k,k∈S→k < w.heap.size
  grow:∀ s o,room (run s o).1≤room s+o.cost
  does:∀ {S s w},Is S s w→∀ (o:WOp),o.isBin=false→o.fit→room s+o.cost≤140737488355328→Calls Tryz.prog (fn o.nm) (o.argv ptr) w (Did Is S w (run s o))
  bdoes:∀ {S s w},Is S s w→∀ (xs:List UInt8) (ao:Option Addr) (cp:Nat),LiesAt xs ao S w→xs.length≤2147483647→room s+(WOp.bin xs).cost≤140737488355328→Calls Tryz.prog (fn "WriteBinary") #[ptr,ctxV,.slice ao xs.length cp] w (Did Is S w (run s (.bin xs)))

def runs {σ:Type} (run:σ→WOp→σ × Nat):List WOp→σ→σ × Nat
  | [],s=>(s,0)
  | o :: l,s=>if (run s o).2=0 then runs run l (run s o).1 else run s o

def costs (l:List WOp):Nat:=(l.map WOp.cost).sum

theorem runs_append {σ:Type} (run:σ→WOp→σ × Nat) (a b:List WOp) (s:σ) :
    runs run (a++b) s=if (runs run a s).2=0 then runs run b (runs run a s).1 else runs run a s:=by
  induction a generalizing s with
  | nil=>simp [runs]
  | cons o a ih =>
    simp only [List.cons_append,runs]
    by_cases h:(run s o).2=0
    · simp only [h,if_true];exact ih _
    · simp only [h,if_false]

theorem PW.grows (P:PW) (l:List WOp) (s:P.σ):P.room (runs P.run l s).1≤P.room s+costs l:=by
  induction l generalizing s with
  | nil=>simp [runs,costs]
  | cons o l ih =>
    have h1:=P.grow s o
    simp only [runs]
    split
    · have h2:=ih (P.run s o).1
      simp only [costs,List.map_cons,List.sum_cons] at h2 ⊢
      omega
    · simp only [costs,List.map_cons,List.sum_cons]
      omega

theorem Did.then_ {σ:Type} {Is:List Nat→σ→World→Prop} {S S1:List Nat} {w w1:World} {r:σ × Nat} {e:Ending} {w':World} (hs:Step S S1 w w1) (h:Did Is S1 w1 r e w'):Did Is S w r e w':=by
  obtain ⟨ev,S',he,h1,h2,h3⟩:=h
  exact ⟨ev,S',he,h1,h2,hs.trans h3⟩

end Go.Proofs.YtmjcnomgpikncaaGreatDoor

namespace Go.Proofs.YtmjcnomgpikncaaGreatDoor

open Go.RowKit Go.Deep



theorem infoUuid:(Tryz.prog.info? 143).map (·.size)=some 16:=by kernel_rfl

structure UuidReady (w W2:World) (l:List UInt8):Prop where
  below:Below w.heap.size w W2
  range:W2.rangeAt (w.heap.size+1) 0 (Lib.byteCells (u16 l))
  there:W2.there w.heap.size 0 16

theorem uuid_results (w W2:World) (l:List UInt8) (h:UuidReady w W2 l):Below w.heap.size w (W2.setCells w.heap.size 0 (Lib.byteCells (u16 l)))∧(W2.setCells w.heap.size 0 (Lib.byteCells (u16 l))).rangeAt w.heap.size 0 (Lib.byteCells (u16 l)):=by
  have hl:(Lib.byteCells (u16 l)).length=16:=by rw [Lib.byteCells_length,u16_length]
  refine ⟨?_,World.rangeAt_setCells_same _ _ _ _ (by rw [hl];exact h.there)⟩
  exact h.below.trans (((Step.refl [w.heap.size] W2).setCells (.inl (by simp)) 0 _).below _ h.below.size (by simp))

theorem results_cell {fn:Func} {s:Tmp} {t:TypeId} (h:fn.results=#[.cell s t]) (tmps:Array Value) (P:Program) (w:World) {ad:Addr} {v:Value} (hs:tmps.getD s undef=.pointer (some ad)) (hrun:(loadVar t ad).run P w=.ok v w) :
    (results fn tmps).run P w=.ok v w:=by
  have hs':tmps[s]?.getD undef=.pointer (some ad):=by simpa using hs
  simp [results,h,hs',asAddr,hrun,Result.andThen]

set_option maxRecDepth 100000 in
set_option maxHeartbeats 1000000 in
theorem uuid_none (a:Option Addr) (cap:Nat) (w:World):Calls Tryz.prog 66 #[.slice a 0 cap] w fun e w'=>e=.returned (.agg (Lib.byteCells (u16 [])).toArray)∧Below w.heap.size w w':=by
  have hcp:=fun (W:World) d=>run_copy_none (P:=Tryz.prog) W 24 24 3 5 d a 16 16 0 cap Tryz.underlying24 size8 rfl
  have hZ:∀ c cc:Array Value,c=(Lib.byteCells (u16 [])).toArray→cc=c→UuidReady w ((w.alloc (.cells c 143)).alloc (.cells cc 143)) []:=fun c cc h1 h2=>by
    subst h2 h1
    have hl:(Lib.byteCells (u16 [])).length=16:=by rw [Lib.byteCells_length,u16_length]
    refine ⟨((Below.refl w.heap.size w).alloc (Nat.le_refl _) _).alloc (by simp) _,fun j v hj=>?_,fun j hj=>?_⟩
    · rw [cell_heap (heap_alloc_at (by simp) _),Nat.zero_add]
      simpa using hj
    · have hh:=heap_alloc_old (heap_alloc_new w (.cells (Lib.byteCells (u16 [])).toArray 143)) (.cells (Lib.byteCells (u16 [])).toArray 143)
      refine ⟨?_,frozen_heap hh _⟩
      rw [cell_heap hh,Nat.zero_add]
      simp [hl,hj]
  go_enter Tryz.func66,Tryz.ntmps66
  go_wp2_with (first
    | (refine wpList_load_mid rfl 143 _ rfl (w.heap.size+1) 0 rfl (Lib.byteCells (u16 [])) _ (hZ _ _ (by rfl) (by rfl)).range Tryz.underlying143 rfl (by rw [Lib.byteCells_length,u16_length];exact infoUuid) ?_)
    | (refine wpList_store_mid rfl 143 _ _ rfl w.heap.size 0 (Lib.byteCells (u16 [])).toArray rfl rfl (by simpa [Lib.byteCells_length,u16_length] using (hZ _ _ (by rfl) (by rfl)).there) (by simp only [List.size_toArray,Lib.byteCells_length,u16_length];exact infoUuid) (all_oneCell_toArray (Lib.byteCells_one _)) ?_))
  obtain ⟨hB,hR⟩:=uuid_results w _ [] (hZ _ _ (by rfl) (by rfl))
  have hrun:=run_loadVar_mid (P:=Tryz.prog) _ w.heap.size 0 143 (Lib.byteCells (u16 [])) _ hR Tryz.underlying143 rfl (by rw [Lib.byteCells_length,u16_length];exact infoUuid)
  exact bodyPost_ret (v:=.agg (Lib.byteCells (u16 [])).toArray) (results_cell Tryz.results66 _ _ _ (by rfl) hrun) rfl ⟨rfl,hB⟩

theorem u16_cells (l:List UInt8):((#[.int .u8 0,.int .u8 0,.int .u8 0,.int .u8 0,.int .u8 0,.int .u8 0,.int .u8 0,.int .u8 0,.int .u8 0,.int .u8 0,.int .u8 0,.int .u8 0,.int .u8 0,.int .u8 0,.int .u8 0,.int .u8 0]:Array Value).toList.take 0)++Lib.byteCells (l.take 16)++((#[.int .u8 0,.int .u8 0,.int .u8 0,.int .u8 0,.int .u8 0,.int .u8 0,.int .u8 0,.int .u8 0,.int .u8 0,.int .u8 0,.int .u8 0,.int .u8 0,.int .u8 0,.int .u8 0,.int .u8 0,.int .u8 0]:Array Value).toList.drop (0+(Lib.byteCells (l.take 16)).length))=Lib.byteCells (u16 l):=by
  have e:((#[.int .u8 0,.int .u8 0,.int .u8 0,.int .u8 0,.int .u8 0,.int .u8 0,.int .u8 0,.int .u8 0,.int .u8 0,.int .u8 0,.int .u8 0,.int .u8 0,.int .u8 0,.int .u8 0,.int .u8 0,.int .u8 0]:Array Value).toList)=Lib.byteCells (List.replicate 16 0):=rfl
  rw [e,u16,List.take_append]
  simp [Lib.byteCells,List.take_replicate]
  show List.drop (min 16 l.length) (List.replicate 16 (Value.int .u8 0))=List.take (16 - l.length) (List.replicate 16 (Value.int .u8 0))
  rw [List.drop_replicate,List.take_replicate]
  congr 1
  omega

set_option maxRecDepth 100000 in
set_option maxHeartbeats 1000000 in
theorem uuid_some (x:Addr) (len cap:Nat) (l:List UInt8) (w:World) (hl:l.length=len) (hxb:x.block < w.heap.size) (hc:∀ j v,(Lib.byteCells l)[j]?=some v→w.cell? (x.add j)=some v) :
    Calls Tryz.prog 66 #[.slice (some x) len cap] w fun e w'=>e=.returned (.agg (Lib.byteCells (u16 l)).toArray)∧Below w.heap.size w w':=by
  have hsrc:∀ c cc,∀ j v,(Lib.byteCells (l.take 16))[j]?=some v→((w.alloc c).alloc cc).cell? (x.add j)=some v:=fun c cc j v hj=>by
    have hxj:(x.add j).block < w.heap.size:=by rw [Lib.block_add];exact hxb
    rw [World.cell?_of_block (w:=w) ((Below.heap_alloc _ _ _ (by simp;omega)).trans (Below.heap_alloc _ _ _ hxj))]
    refine hc j v ?_
    rw [Lib.byteCells,List.map_take,List.getElem?_take] at hj
    split at hj
    · exact hj
    · cases hj
  have hcp:=run_copy_row (P:=Tryz.prog) ((w.alloc (.cells #[.int .u8 0,.int .u8 0,.int .u8 0,.int .u8 0,.int .u8 0,.int .u8 0,.int .u8 0,.int .u8 0,.int .u8 0,.int .u8 0,.int .u8 0,.int .u8 0,.int .u8 0,.int .u8 0,.int .u8 0,.int .u8 0] 143)).alloc (.cells #[.int .u8 0,.int .u8 0,.int .u8 0,.int .u8 0,.int .u8 0,.int .u8 0,.int .u8 0,.int .u8 0,.int .u8 0,.int .u8 0,.int .u8 0,.int .u8 0,.int .u8 0,.int .u8 0,.int .u8 0,.int .u8 0] 143)) 24 24 3 5 (w.heap.size+1) 0 16 16 x len cap #[.int .u8 0,.int .u8 0,.int .u8 0,.int .u8 0,.int .u8 0,.int .u8 0,.int .u8 0,.int .u8 0,.int .u8 0,.int .u8 0,.int .u8 0,.int .u8 0,.int .u8 0,.int .u8 0,.int .u8 0,.int .u8 0] 143 (Lib.byteCells (l.take 16)) Tryz.underlying24 size8 (heap_alloc_at (by simp) _) (by simp [Lib.byteCells_length,hl,Nat.min_comm]) (hsrc _ _) (by simp [Lib.byteCells_length];omega) (Lib.byteCells_one _)
  rw [u16_cells l] at hcp
  obtain ⟨W2,hW2⟩:∃ W2,((w.alloc (.cells #[.int .u8 0,.int .u8 0,.int .u8 0,.int .u8 0,.int .u8 0,.int .u8 0,.int .u8 0,.int .u8 0,.int .u8 0,.int .u8 0,.int .u8 0,.int .u8 0,.int .u8 0,.int .u8 0,.int .u8 0,.int .u8 0] 143)).alloc (.cells #[.int .u8 0,.int .u8 0,.int .u8 0,.int .u8 0,.int .u8 0,.int .u8 0,.int .u8 0,.int .u8 0,.int .u8 0,.int .u8 0,.int .u8 0,.int .u8 0,.int .u8 0,.int .u8 0,.int .u8 0,.int .u8 0] 143)).setRow (w.heap.size+1) (Lib.byteCells (u16 l)).toArray=W2:=⟨_,rfl⟩
  rw [hW2] at hcp
  have hlen:(Lib.byteCells (u16 l)).length=16:=by rw [Lib.byteCells_length,u16_length]
  have hZ:UuidReady w W2 l:=by
    rw [← hW2]
    refine ⟨(((Below.refl w.heap.size w).alloc (Nat.le_refl _) _).alloc (by simp) _).trans ((Step.setRow (Step.refl [w.heap.size+1] _) (.inl (by simp)) _).below w.heap.size (by simp <;> omega) (by simp)),fun j v hj=>?_,fun j hj=>?_⟩
    · rw [cell_heap (setRow_heap _ _ _ _ _ _ (heap_alloc_at (by simp) _)),Nat.zero_add]
      simpa using hj
    · have hh:(((w.alloc (.cells #[.int .u8 0,.int .u8 0,.int .u8 0,.int .u8 0,.int .u8 0,.int .u8 0,.int .u8 0,.int .u8 0,.int .u8 0,.int .u8 0,.int .u8 0,.int .u8 0,.int .u8 0,.int .u8 0,.int .u8 0,.int .u8 0] 143)).alloc (.cells #[.int .u8 0,.int .u8 0,.int .u8 0,.int .u8 0,.int .u8 0,.int .u8 0,.int .u8 0,.int .u8 0,.int .u8 0,.int .u8 0,.int .u8 0,.int .u8 0,.int .u8 0,.int .u8 0,.int .u8 0,.int .u8 0] 143)).setRow (w.heap.size+1) (Lib.byteCells (u16 l)).toArray).heap[w.heap.size]?=some (.cells #[.int .u8 0,.int .u8 0,.int .u8 0,.int .u8 0,.int .u8 0,.int .u8 0,.int .u8 0,.int .u8 0,.int .u8 0,.int .u8 0,.int .u8 0,.int .u8 0,.int .u8 0,.int .u8 0,.int .u8 0,.int .u8 0] 143 (0,0)):=by
        rw [setRow_other _ _ _ _ (by omega)];exact heap_alloc_old (heap_alloc_new w _) _
      refine ⟨?_,frozen_heap hh _⟩
      rw [cell_heap hh,Nat.zero_add]
      simp;omega
  have HZ:=Lib.hid hZ
  clear hZ hW2 hsrc
  go_enter Tryz.func66,Tryz.ntmps66
  go_wp2_with (first
    | (refine wpList_load_mid rfl 143 _ rfl (w.heap.size+1) 0 rfl (Lib.byteCells (u16 l)) _ HZ.out.range Tryz.underlying143 rfl (by rw [hlen];exact infoUuid) ?_)
    | (refine wpList_store_mid rfl 143 _ _ rfl w.heap.size 0 (Lib.byteCells (u16 l)).toArray rfl rfl (by simpa [hlen] using HZ.out.there) (by simp only [List.size_toArray,hlen];exact infoUuid) (all_oneCell_toArray (Lib.byteCells_one _)) ?_))
  obtain ⟨hB,hR⟩:=uuid_results w _ l HZ.out
  have hrun:=run_loadVar_mid (P:=Tryz.prog) _ w.heap.size 0 143 (Lib.byteCells (u16 l)) _ hR Tryz.underlying143 rfl (by rw [hlen];exact infoUuid)
  exact bodyPost_ret (v:=.agg (Lib.byteCells (u16 l)).toArray) (results_cell Tryz.results66 _ _ _ (by rfl) hrun) rfl ⟨rfl,hB⟩

end Go.Proofs.YtmjcnomgpikncaaGreatDoor

namespace Go.Proofs.YtmjcnomgpikncaaGreatDoor

open Go.RowKit Go.Proofs.YtmjcnomgpikncaaGreatDoorW.PrintWords



structure Val where
  f0:Int
  f1:Int
  f2:(List Int)
  f3:Int
  f4:Int
  f5:(List Int)
  f6:(List Val)

def zVal:Val:=⟨(0:Int),(0:Int),([]:List Int),(0:Int),(0:Int),([]:List Int),([]:List Val)⟩

def FVal (d:Kd Val):Kd Val:=Kd.iso (Kd.pair (Kd.int .i64) (Kd.pair (Kd.int .i64) (Kd.pair (Kd.slice 5 (Kd.int .u8)) (Kd.pair (Kd.int .i64) (Kd.pair (Kd.int .i64) (Kd.pair (Kd.slice 3 (Kd.int .i64)) (Kd.slice 28 d))))))) (fun x:Val=>(x.f0,x.f1,x.f2,x.f3,x.f4,x.f5,x.f6))

theorem monoVal:Kd.Mono FVal:=Kd.mono_iso _ (Kd.mono_pair (Kd.mono_const _) (Kd.mono_pair (Kd.mono_const _) (Kd.mono_pair (Kd.mono_const _) (Kd.mono_pair (Kd.mono_const _) (Kd.mono_pair (Kd.mono_const _) (Kd.mono_pair (Kd.mono_const _) (Kd.mono_slice 28 Kd.mono_id)))))))

theorem subVal:Kd.Sub FVal [3,5,28]:=Kd.sub_iso _ (Kd.sub_pair (Kd.sub_const _ (by decide)) (Kd.sub_pair (Kd.sub_const _ (by decide)) (Kd.sub_pair (Kd.sub_const _ (by decide)) (Kd.sub_pair (Kd.sub_const _ (by decide)) (Kd.sub_pair (Kd.sub_const _ (by decide)) (Kd.sub_pair (Kd.sub_const _ (by decide)) (Kd.sub_slice 28 (by decide) Kd.sub_id)))))))

theorem szVal:∀ n,(Kd.upto FVal 7 [3,5,28] n).sz=7:=Kd.upto_sz (fun _=>rfl)

def kVal:Kd Val:=Kd.fix FVal 7 [3,5,28] szVal (Kd.upto_E subVal)

theorem kVal_open {w:World} {x:Val} {cs:List Value} (h:kVal.K w x cs):∃ A2 c2 A5 c5 A6 c6,cs=[.int .i64 x.f0,.int .i64 x.f1,.slice A2 x.f2.length c2,.int .i64 x.f3,.int .i64 x.f4,.slice A5 x.f5.length c5,.slice A6 x.f6.length c6]∧x.f2.length≤c2∧(Kd.int .u8).C w A2 x.f2.length x.f2∧x.f5.length≤c5∧(Kd.int .i64).C w A5 x.f5.length x.f5∧x.f6.length≤c6∧kVal.C w A6 x.f6.length x.f6:=by
  obtain ⟨n,h⟩:=h
  cases n with
  | zero=>exact h.elim
  | succ n =>
    obtain ⟨_,_,rfl,rfl,⟨_,_,rfl,rfl,⟨_,_,rfl,⟨A2,c2,rfl,l2,g2⟩,⟨_,_,rfl,rfl,⟨_,_,rfl,rfl,⟨_,_,rfl,⟨A5,c5,rfl,l5,g5⟩,⟨A6,c6,rfl,l6,g6⟩⟩⟩⟩⟩⟩⟩:=h
    exact ⟨A2,c2,A5,c5,A6,c6,rfl,l2,g2,l5,g5,l6,Kd.fix_C g6⟩

theorem kVal_mk (w:World) (x:Val) {A2:Option Addr} {c2:Nat} (l2:x.f2.length≤c2) (g2:(Kd.int .u8).C w A2 x.f2.length x.f2) {A5:Option Addr} {c5:Nat} (l5:x.f5.length≤c5) (g5:(Kd.int .i64).C w A5 x.f5.length x.f5) {A6:Option Addr} {c6:Nat} (l6:x.f6.length≤c6) (g6:kVal.C w A6 x.f6.length x.f6):kVal.K w x [.int .i64 x.f0,.int .i64 x.f1,.slice A2 x.f2.length c2,.int .i64 x.f3,.int .i64 x.f4,.slice A5 x.f5.length c5,.slice A6 x.f6.length c6]:=by
  obtain ⟨n6,q6⟩:=Kd.fix_C_back monoVal g6
  have r6:=Kd.upto_C_le monoVal szVal (show n6≤n6 by omega) q6
  exact ⟨n6+1,⟨[.int .i64 x.f0],[.int .i64 x.f1,.slice A2 x.f2.length c2,.int .i64 x.f3,.int .i64 x.f4,.slice A5 x.f5.length c5,.slice A6 x.f6.length c6],rfl,rfl,⟨[.int .i64 x.f1],[.slice A2 x.f2.length c2,.int .i64 x.f3,.int .i64 x.f4,.slice A5 x.f5.length c5,.slice A6 x.f6.length c6],rfl,rfl,⟨[.slice A2 x.f2.length c2],[.int .i64 x.f3,.int .i64 x.f4,.slice A5 x.f5.length c5,.slice A6 x.f6.length c6],rfl,⟨A2,c2,rfl,l2,g2⟩,⟨[.int .i64 x.f3],[.int .i64 x.f4,.slice A5 x.f5.length c5,.slice A6 x.f6.length c6],rfl,rfl,⟨[.int .i64 x.f4],[.slice A5 x.f5.length c5,.slice A6 x.f6.length c6],rfl,rfl,⟨[.slice A5 x.f5.length c5],[.slice A6 x.f6.length c6],rfl,⟨A5,c5,rfl,l5,g5⟩,⟨A6,c6,rfl,l6,r6⟩⟩⟩⟩⟩⟩⟩⟩

def rd_Val (xs:List Val) (i:Int):Val:=xs.getD i.toNat zVal

theorem at_Val {w:World} {A:Option Addr} {n:Nat} {xs:List Val} (h:Kd.C kVal w A n xs) (i:Int) (h0:0≤i) (h1:i < n):∃ ad A2 c2 A5 c5 A6 c6,A=some ad∧w.cell? (ad.add (i.toNat * 7))=some (.int .i64 (rd_Val xs i).f0)∧w.cell? ⟨(ad.add (i.toNat * 7)).block,(ad.add (i.toNat * 7)).off+1,none⟩=some (.int .i64 (rd_Val xs i).f1)∧w.cell? ⟨(ad.add (i.toNat * 7)).block,(ad.add (i.toNat * 7)).off+2,none⟩=some (.slice A2 (rd_Val xs i).f2.length c2)∧w.cell? ⟨(ad.add (i.toNat * 7)).block,(ad.add (i.toNat * 7)).off+3,none⟩=some (.int .i64 (rd_Val xs i).f3)∧w.cell? ⟨(ad.add (i.toNat * 7)).block,(ad.add (i.toNat * 7)).off+4,none⟩=some (.int .i64 (rd_Val xs i).f4)∧w.cell? ⟨(ad.add (i.toNat * 7)).block,(ad.add (i.toNat * 7)).off+5,none⟩=some (.slice A5 (rd_Val xs i).f5.length c5)∧w.cell? ⟨(ad.add (i.toNat * 7)).block,(ad.add (i.toNat * 7)).off+6,none⟩=some (.slice A6 (rd_Val xs i).f6.length c6)∧(rd_Val xs i).f2.length≤c2∧(Kd.int .u8).C w A2 (rd_Val xs i).f2.length (rd_Val xs i).f2∧(rd_Val xs i).f5.length≤c5∧(Kd.int .i64).C w A5 (rd_Val xs i).f5.length (rd_Val xs i).f5∧(rd_Val xs i).f6.length≤c6∧kVal.C w A6 (rd_Val xs i).f6.length (rd_Val xs i).f6:=by
  obtain ⟨ad,c,e,_,hK,hc0⟩:=Kd.C_get h zVal i h0 h1
  have hc:∀ j u,c[j]?=some u→w.cell? (ad.add (i.toNat * 7+j))=some u:=hc0
  obtain ⟨A2,c2,A5,c5,A6,c6,rfl,l2,g2,l5,g5,l6,g6⟩:=kVal_open hK
  exact ⟨ad,A2,c2,A5,c5,A6,c6,e,hc 0 _ rfl,by rw [← add_field _ _ 1 (by omega)];exact hc 1 _ rfl,by rw [← add_field _ _ 2 (by omega)];exact hc 2 _ rfl,by rw [← add_field _ _ 3 (by omega)];exact hc 3 _ rfl,by rw [← add_field _ _ 4 (by omega)];exact hc 4 _ rfl,by rw [← add_field _ _ 5 (by omega)];exact hc 5 _ rfl,by rw [← add_field _ _ 6 (by omega)];exact hc 6 _ rfl,l2,g2,l5,g5,l6,g6⟩

end Go.Proofs.YtmjcnomgpikncaaGreatDoor

namespace Go.Proofs.YtmjcnomgpikncaaGreatDoor

open Go.RowKit



def toB (l:List Int):List UInt8:=l.map fun x=>x.toNat.toUInt8

def w8 (n:Int):Int:=(n+128) % 256 - 128

def w16 (n:Int):Int:=(n+32768) % 65536 - 32768

mutual
def ops:Val→List WOp
  | ⟨t,n,s,k,e,ids,l⟩ =>
    if t % 256=2 then [.bool (n != 0)]
    else if t % 256=3 then [.byte (w8 n)]
    else if t % 256=4 then [.dbl (IntKind.u64.wrap n).toNat]
    else if t % 256=6 then [.i16 (w16 n)]
    else if t % 256=8 then [.i32 (wrap32 n)]
    else if t % 256=10 then [.i64 n]
    else if t % 256=11 then [.str (toB s)]
    else if t % 256=16 then [.uuid (u16 (toB s))]
    else if t % 256=12 then .strB :: (opsF l ids++[.stop,.strE])
    else if t % 256=13 then .mapB (k % 256) (e % 256) (l.length / 2) :: (opsL l (l.length / 2 * 2)++[.mapE])
    else if t % 256=14 then .setB (e % 256) l.length :: (opsL l l.length++[.setE])
    else if t % 256=15 then .lstB (e % 256) l.length :: (opsL l l.length++[.lstE])
    else []
def opsL:List Val→Nat→List WOp
  | [],_=>[]
  | _ :: _,0=>[]
  | v :: l,n+1=>ops v++opsL l n
def opsF:List Val→List Int→List WOp
  | [],_=>[]
  | _ :: _,[]=>[]
  | v :: l,i :: is=>.fldB (v.f0 % 256) (w16 i) :: (ops v++(.fldE :: opsF l is))
end

end Go.Proofs.YtmjcnomgpikncaaGreatDoor

namespace Go.Proofs.YtmjcnomgpikncaaGreatDoor

open Go.RowKit



theorem opsL_zero (l:List Val):opsL l 0=[]:=by cases l <;> simp [opsL]

theorem opsL_succ:∀ (l:List Val) (k:Nat) (h:k < l.length),opsL l (k+1)=opsL l k++ops l[k]
  | [],k,h=>by simp at h
  | v :: l,0,h=>by simp [opsL,opsL_zero]
  | v :: l,k+1,h=>by
    have ih:=opsL_succ l k (by simpa using h)
    simp only [opsL,ih,List.append_assoc,List.getElem_cons_succ]

theorem opsL_split:∀ (l:List Val) (k n:Nat),opsL l (k+n)=opsL l k++opsL (l.drop k) n
  | [],k,n=>by simp [opsL]
  | v :: l,0,n=>by simp [opsL_zero]
  | v :: l,k+1,n=>by
    have ih:=opsL_split l k n
    rw [show k+1+n=(k+n)+1 by omega]
    simp only [opsL,ih,List.append_assoc,List.drop_succ_cons]

theorem opsL_take:∀ (l:List Val) (n:Nat),opsL (l.take n) (l.take n).length=opsL l n
  | [],n=>by simp [opsL]
  | v :: l,0=>by simp [opsL]
  | v :: l,n+1=>by
    have ih:=opsL_take l n
    simp only [List.take_succ_cons,List.length_cons,opsL,ih]

theorem costs_append (a b:List WOp):costs (a++b)=costs a+costs b:=by simp [costs]

theorem costs_cons (o:WOp) (b:List WOp):costs (o :: b)=o.cost+costs b:=by simp [costs]

theorem costs_nil:costs []=0:=rfl

theorem runs_stop {σ:Type} (run:σ→WOp→σ × Nat) (a b:List WOp) (s:σ) (h:(runs run a s).2≠0):runs run (a++b) s=runs run a s:=by
  rw [runs_append,if_neg h]

theorem runs_go {σ:Type} (run:σ→WOp→σ × Nat) (a b:List WOp) (s s1:σ) (h:runs run a s=(s1,0)):runs run (a++b) s=runs run b s1:=by
  rw [runs_append,h]
  simp

theorem room_at (P:PW) (l:List Val) (k:Nat) (hk:k < l.length) (s s1:P.σ) (h:runs P.run (opsL l k) s=(s1,0)) (B:Nat) (hr:P.room s+costs (opsL l l.length)≤B):P.room s1+costs (ops l[k])≤B:=by
  have h1:=P.grows (opsL l k) s
  rw [h] at h1
  have h2:=opsL_split l (k+1) (l.length - (k+1))
  rw [show k+1+(l.length - (k+1))=l.length by omega,opsL_succ l k hk] at h2
  rw [h2,costs_append,costs_append] at hr
  simp only at h1
  omega

theorem runs_halt {σ:Type} (run:σ→WOp→σ × Nat) (l:List Val) (k:Nat) (hk:k < l.length) (s s1:σ) (h:runs run (opsL l k) s=(s1,0)) (hn:(runs run (ops l[k]) s1).2≠0):runs run (opsL l l.length) s=runs run (ops l[k]) s1:=by
  have h2:=opsL_split l (k+1) (l.length - (k+1))
  rw [show k+1+(l.length - (k+1))=l.length by omega,opsL_succ l k hk] at h2
  rw [h2,List.append_assoc,runs_go run _ _ s s1 h,runs_stop run _ _ _ hn]

theorem runs_next {σ:Type} (run:σ→WOp→σ × Nat) (l:List Val) (k:Nat) (hk:k < l.length) (s s1:σ) (h:runs run (opsL l k) s=(s1,0)):runs run (opsL l (k+1)) s=runs run (ops l[k]) s1:=by
  rw [opsL_succ l k hk,runs_go run _ _ s s1 h]

theorem runs_ok {σ:Type} (run:σ→WOp→σ × Nat) (o:WOp) (l:List WOp) (s:σ) {r:σ × Nat} (h:runs run (o :: l) s=r) (hz:(run s o).2=0):runs run l (run s o).1=r:=by
  simpa [runs,hz] using h

theorem runs_bad {σ:Type} (run:σ→WOp→σ × Nat) (o:WOp) (l:List WOp) (s:σ) {r:σ × Nat} (h:runs run (o :: l) s=r) (hz:(run s o).2≠0):run s o=r:=by
  simpa [runs,hz] using h

theorem runs_ok_app {σ:Type} (run:σ→WOp→σ × Nat) (a l:List WOp) (s:σ) {r:σ × Nat} (h:runs run (a++l) s=r) (hz:(runs run a s).2=0):runs run l (runs run a s).1=r:=by
  rw [runs_append,if_pos hz] at h
  exact h

theorem runs_bad_app {σ:Type} (run:σ→WOp→σ × Nat) (a l:List WOp) (s:σ) {r:σ × Nat} (h:runs run (a++l) s=r) (hz:(runs run a s).2≠0):runs run a s=r:=by
  rw [runs_append,if_neg hz] at h
  exact h

theorem room_ok (P:PW) (o:WOp) (l:List WOp) (s:P.σ) {B:Nat} (h:P.room s+costs (o :: l)≤B):P.room (P.run s o).1+costs l≤B:=by
  have:=P.grow s o
  rw [costs_cons] at h
  omega

theorem room_app (P:PW) (a l:List WOp) (s:P.σ) {B:Nat} (h:P.room s+costs (a++l)≤B):P.room (runs P.run a s).1+costs l≤B:=by
  have:=P.grows a s
  rw [costs_append] at h
  omega

theorem opsF_drop:∀ (l:List Val) (ids:List Int) (k:Nat) (h1:k < l.length) (h2:k < ids.length),opsF (l.drop k) (ids.drop k)=.fldB (l[k].f0 % 256) (w16 ids[k]) :: (ops l[k]++(.fldE :: opsF (l.drop (k+1)) (ids.drop (k+1))))
  | [],_,k,h,_=>by simp at h
  | _ :: _,[],k,_,h=>by simp at h
  | v :: l,i :: ids,0,_,_=>by simp [opsF]
  | v :: l,i :: ids,k+1,h1,h2=>by
    simpa using opsF_drop l ids k (by simpa using h1) (by simpa using h2)

theorem opsF_end (l:List Val) (ids:List Int) (k:Nat) (h:¬ (k < l.length∧k < ids.length)):opsF (l.drop k) (ids.drop k)=[]:=by
  by_cases h1:k < l.length
  · have h2:ids.drop k=[]:=by simp;omega
    rw [h2]
    cases l.drop k <;> simp [opsF]
  · have h2:l.drop k=[]:=by simp;omega
    rw [h2]
    simp [opsF]

end Go.Proofs.YtmjcnomgpikncaaGreatDoor

namespace Go.Proofs.YtmjcnomgpikncaaGreatDoor

open Go.RowKit

theorem PW.m_strB (P:PW):(∀ (k:Nat) (w:World),(method (k+1) P.ty P.ptr "WriteStructBegin").run Tryz.prog w=.ok (P.fn "WriteStructBegin",P.ptr) w)∧(∀ (k:Nat) (w:World),(nilAhead (k+1) P.ty P.ptr "WriteStructBegin").run Tryz.prog w=.ok (some false) w)∧∀ (args:Array Value) (w:World),(callFunc (P.fn "WriteStructBegin") args).run Tryz.prog w=.ok (.enter (P.fn "WriteStructBegin") args) w :=
  ⟨P.meth (.strB),P.ahead (.strB),P.ent (.strB)⟩

theorem PW.m_strE (P:PW):(∀ (k:Nat) (w:World),(method (k+1) P.ty P.ptr "WriteStructEnd").run Tryz.prog w=.ok (P.fn "WriteStructEnd",P.ptr) w)∧(∀ (k:Nat) (w:World),(nilAhead (k+1) P.ty P.ptr "WriteStructEnd").run Tryz.prog w=.ok (some false) w)∧∀ (args:Array Value) (w:World),(callFunc (P.fn "WriteStructEnd") args).run Tryz.prog w=.ok (.enter (P.fn "WriteStructEnd") args) w :=
  ⟨P.meth (.strE),P.ahead (.strE),P.ent (.strE)⟩

theorem PW.m_fldB (P:PW):(∀ (k:Nat) (w:World),(method (k+1) P.ty P.ptr "WriteFieldBegin").run Tryz.prog w=.ok (P.fn "WriteFieldBegin",P.ptr) w)∧(∀ (k:Nat) (w:World),(nilAhead (k+1) P.ty P.ptr "WriteFieldBegin").run Tryz.prog w=.ok (some false) w)∧∀ (args:Array Value) (w:World),(callFunc (P.fn "WriteFieldBegin") args).run Tryz.prog w=.ok (.enter (P.fn "WriteFieldBegin") args) w :=
  ⟨P.meth (.fldB 0 0),P.ahead (.fldB 0 0),P.ent (.fldB 0 0)⟩

theorem PW.m_fldE (P:PW):(∀ (k:Nat) (w:World),(method (k+1) P.ty P.ptr "WriteFieldEnd").run Tryz.prog w=.ok (P.fn "WriteFieldEnd",P.ptr) w)∧(∀ (k:Nat) (w:World),(nilAhead (k+1) P.ty P.ptr "WriteFieldEnd").run Tryz.prog w=.ok (some false) w)∧∀ (args:Array Value) (w:World),(callFunc (P.fn "WriteFieldEnd") args).run Tryz.prog w=.ok (.enter (P.fn "WriteFieldEnd") args) w :=
  ⟨P.meth (.fldE),P.ahead (.fldE),P.ent (.fldE)⟩

theorem PW.m_stop (P:PW):(∀ (k:Nat) (w:World),(method (k+1) P.ty P.ptr "WriteFieldStop").run Tryz.prog w=.ok (P.fn "WriteFieldStop",P.ptr) w)∧(∀ (k:Nat) (w:World),(nilAhead (k+1) P.ty P.ptr "WriteFieldStop").run Tryz.prog w=.ok (some false) w)∧∀ (args:Array Value) (w:World),(callFunc (P.fn "WriteFieldStop") args).run Tryz.prog w=.ok (.enter (P.fn "WriteFieldStop") args) w :=
  ⟨P.meth (.stop),P.ahead (.stop),P.ent (.stop)⟩

theorem PW.m_mapB (P:PW):(∀ (k:Nat) (w:World),(method (k+1) P.ty P.ptr "WriteMapBegin").run Tryz.prog w=.ok (P.fn "WriteMapBegin",P.ptr) w)∧(∀ (k:Nat) (w:World),(nilAhead (k+1) P.ty P.ptr "WriteMapBegin").run Tryz.prog w=.ok (some false) w)∧∀ (args:Array Value) (w:World),(callFunc (P.fn "WriteMapBegin") args).run Tryz.prog w=.ok (.enter (P.fn "WriteMapBegin") args) w :=
  ⟨P.meth (.mapB 0 0 0),P.ahead (.mapB 0 0 0),P.ent (.mapB 0 0 0)⟩

theorem PW.m_mapE (P:PW):(∀ (k:Nat) (w:World),(method (k+1) P.ty P.ptr "WriteMapEnd").run Tryz.prog w=.ok (P.fn "WriteMapEnd",P.ptr) w)∧(∀ (k:Nat) (w:World),(nilAhead (k+1) P.ty P.ptr "WriteMapEnd").run Tryz.prog w=.ok (some false) w)∧∀ (args:Array Value) (w:World),(callFunc (P.fn "WriteMapEnd") args).run Tryz.prog w=.ok (.enter (P.fn "WriteMapEnd") args) w :=
  ⟨P.meth (.mapE),P.ahead (.mapE),P.ent (.mapE)⟩

theorem PW.m_lstB (P:PW):(∀ (k:Nat) (w:World),(method (k+1) P.ty P.ptr "WriteListBegin").run Tryz.prog w=.ok (P.fn "WriteListBegin",P.ptr) w)∧(∀ (k:Nat) (w:World),(nilAhead (k+1) P.ty P.ptr "WriteListBegin").run Tryz.prog w=.ok (some false) w)∧∀ (args:Array Value) (w:World),(callFunc (P.fn "WriteListBegin") args).run Tryz.prog w=.ok (.enter (P.fn "WriteListBegin") args) w :=
  ⟨P.meth (.lstB 0 0),P.ahead (.lstB 0 0),P.ent (.lstB 0 0)⟩

theorem PW.m_lstE (P:PW):(∀ (k:Nat) (w:World),(method (k+1) P.ty P.ptr "WriteListEnd").run Tryz.prog w=.ok (P.fn "WriteListEnd",P.ptr) w)∧(∀ (k:Nat) (w:World),(nilAhead (k+1) P.ty P.ptr "WriteListEnd").run Tryz.prog w=.ok (some false) w)∧∀ (args:Array Value) (w:World),(callFunc (P.fn "WriteListEnd") args).run Tryz.prog w=.ok (.enter (P.fn "WriteListEnd") args) w :=
  ⟨P.meth (.lstE),P.ahead (.lstE),P.ent (.lstE)⟩

theorem PW.m_setB (P:PW):(∀ (k:Nat) (w:World),(method (k+1) P.ty P.ptr "WriteSetBegin").run Tryz.prog w=.ok (P.fn "WriteSetBegin",P.ptr) w)∧(∀ (k:Nat) (w:World),(nilAhead (k+1) P.ty P.ptr "WriteSetBegin").run Tryz.prog w=.ok (some false) w)∧∀ (args:Array Value) (w:World),(callFunc (P.fn "WriteSetBegin") args).run Tryz.prog w=.ok (.enter (P.fn "WriteSetBegin") args) w :=
  ⟨P.meth (.setB 0 0),P.ahead (.setB 0 0),P.ent (.setB 0 0)⟩

theorem PW.m_setE (P:PW):(∀ (k:Nat) (w:World),(method (k+1) P.ty P.ptr "WriteSetEnd").run Tryz.prog w=.ok (P.fn "WriteSetEnd",P.ptr) w)∧(∀ (k:Nat) (w:World),(nilAhead (k+1) P.ty P.ptr "WriteSetEnd").run Tryz.prog w=.ok (some false) w)∧∀ (args:Array Value) (w:World),(callFunc (P.fn "WriteSetEnd") args).run Tryz.prog w=.ok (.enter (P.fn "WriteSetEnd") args) w :=
  ⟨P.meth (.setE),P.ahead (.setE),P.ent (.setE)⟩

theorem PW.m_bool (P:PW):(∀ (k:Nat) (w:World),(method (k+1) P.ty P.ptr "WriteBool").run Tryz.prog w=.ok (P.fn "WriteBool",P.ptr) w)∧(∀ (k:Nat) (w:World),(nilAhead (k+1) P.ty P.ptr "WriteBool").run Tryz.prog w=.ok (some false) w)∧∀ (args:Array Value) (w:World),(callFunc (P.fn "WriteBool") args).run Tryz.prog w=.ok (.enter (P.fn "WriteBool") args) w :=
  ⟨P.meth (.bool true),P.ahead (.bool true),P.ent (.bool true)⟩

theorem PW.m_byte (P:PW):(∀ (k:Nat) (w:World),(method (k+1) P.ty P.ptr "WriteByte").run Tryz.prog w=.ok (P.fn "WriteByte",P.ptr) w)∧(∀ (k:Nat) (w:World),(nilAhead (k+1) P.ty P.ptr "WriteByte").run Tryz.prog w=.ok (some false) w)∧∀ (args:Array Value) (w:World),(callFunc (P.fn "WriteByte") args).run Tryz.prog w=.ok (.enter (P.fn "WriteByte") args) w :=
  ⟨P.meth (.byte 0),P.ahead (.byte 0),P.ent (.byte 0)⟩

theorem PW.m_i16 (P:PW):(∀ (k:Nat) (w:World),(method (k+1) P.ty P.ptr "WriteI16").run Tryz.prog w=.ok (P.fn "WriteI16",P.ptr) w)∧(∀ (k:Nat) (w:World),(nilAhead (k+1) P.ty P.ptr "WriteI16").run Tryz.prog w=.ok (some false) w)∧∀ (args:Array Value) (w:World),(callFunc (P.fn "WriteI16") args).run Tryz.prog w=.ok (.enter (P.fn "WriteI16") args) w :=
  ⟨P.meth (.i16 0),P.ahead (.i16 0),P.ent (.i16 0)⟩

theorem PW.m_i32 (P:PW):(∀ (k:Nat) (w:World),(method (k+1) P.ty P.ptr "WriteI32").run Tryz.prog w=.ok (P.fn "WriteI32",P.ptr) w)∧(∀ (k:Nat) (w:World),(nilAhead (k+1) P.ty P.ptr "WriteI32").run Tryz.prog w=.ok (some false) w)∧∀ (args:Array Value) (w:World),(callFunc (P.fn "WriteI32") args).run Tryz.prog w=.ok (.enter (P.fn "WriteI32") args) w :=
  ⟨P.meth (.i32 0),P.ahead (.i32 0),P.ent (.i32 0)⟩

theorem PW.m_i64 (P:PW):(∀ (k:Nat) (w:World),(method (k+1) P.ty P.ptr "WriteI64").run Tryz.prog w=.ok (P.fn "WriteI64",P.ptr) w)∧(∀ (k:Nat) (w:World),(nilAhead (k+1) P.ty P.ptr "WriteI64").run Tryz.prog w=.ok (some false) w)∧∀ (args:Array Value) (w:World),(callFunc (P.fn "WriteI64") args).run Tryz.prog w=.ok (.enter (P.fn "WriteI64") args) w :=
  ⟨P.meth (.i64 0),P.ahead (.i64 0),P.ent (.i64 0)⟩

theorem PW.m_dbl (P:PW):(∀ (k:Nat) (w:World),(method (k+1) P.ty P.ptr "WriteDouble").run Tryz.prog w=.ok (P.fn "WriteDouble",P.ptr) w)∧(∀ (k:Nat) (w:World),(nilAhead (k+1) P.ty P.ptr "WriteDouble").run Tryz.prog w=.ok (some false) w)∧∀ (args:Array Value) (w:World),(callFunc (P.fn "WriteDouble") args).run Tryz.prog w=.ok (.enter (P.fn "WriteDouble") args) w :=
  ⟨P.meth (.dbl 0),P.ahead (.dbl 0),P.ent (.dbl 0)⟩

theorem PW.m_str (P:PW):(∀ (k:Nat) (w:World),(method (k+1) P.ty P.ptr "WriteString").run Tryz.prog w=.ok (P.fn "WriteString",P.ptr) w)∧(∀ (k:Nat) (w:World),(nilAhead (k+1) P.ty P.ptr "WriteString").run Tryz.prog w=.ok (some false) w)∧∀ (args:Array Value) (w:World),(callFunc (P.fn "WriteString") args).run Tryz.prog w=.ok (.enter (P.fn "WriteString") args) w :=
  ⟨P.meth (.str []),P.ahead (.str []),P.ent (.str [])⟩

theorem PW.m_uuid (P:PW):(∀ (k:Nat) (w:World),(method (k+1) P.ty P.ptr "WriteUUID").run Tryz.prog w=.ok (P.fn "WriteUUID",P.ptr) w)∧(∀ (k:Nat) (w:World),(nilAhead (k+1) P.ty P.ptr "WriteUUID").run Tryz.prog w=.ok (some false) w)∧∀ (args:Array Value) (w:World),(callFunc (P.fn "WriteUUID") args).run Tryz.prog w=.ok (.enter (P.fn "WriteUUID") args) w :=
  ⟨P.meth (.uuid []),P.ahead (.uuid []),P.ent (.uuid [])⟩

end Go.Proofs.YtmjcnomgpikncaaGreatDoor

namespace Go.Proofs.YtmjcnomgpikncaaGreatDoor

open Go.RowKit



def i64r (x:Int):Prop:=-9223372036854775808≤x∧x < 9223372036854775808

mutual
def wfV:Val→Prop
  | ⟨t,n,s,k,e,ids,l⟩=>i64r t∧i64r n∧(∀ x∈s,0≤x∧x < 256)∧i64r k∧i64r e∧(∀ x∈ids,i64r x)∧s.length≤2147483647∧wfL l
def wfL:List Val→Prop
  | []=>True
  | v :: l=>wfV v∧wfL l
end

end Go.Proofs.YtmjcnomgpikncaaGreatDoor

namespace Go.Proofs.YtmjcnomgpikncaaGreatDoor

open Go.RowKit

def IsRow (k:IntKind) (w:World) (a:Option Addr) (len cap:Nat) (zs:List Int):Prop :=
  (a=none∧len=0∧cap=0∧zs=[]) ∨
  ∃ x,a=some x∧len≤cap∧cap≤maxLen∧zs.length=cap∧(∀ i,i < zs.length→w.cell? (x.add i)=some (.int k (zs.getD i 0)))∧∀ n∈zs,(Lit.int k n).wf=true

end Go.Proofs.YtmjcnomgpikncaaGreatDoor

namespace Go.Proofs.YtmjcnomgpikncaaGreatDoor

open Go.RowKit Go.Deep Go.Proofs.YtmjcnomgpikncaaGreatDoorW.PrintWords



def ints (l:List UInt8):List Int:=l.map fun x=>(x.toNat:Int)

theorem ints_length (l:List UInt8):(ints l).length=l.length:=by simp [ints]

theorem byteCells_ints (l:List UInt8):Lib.byteCells l=(ints l).map (Value.int .u8):=by simp [Lib.byteCells,ints]

theorem IsB.ints {l:List UInt8} {v:Value} {k:Nat} {w:World} (h:IsB (Lib.byteCells l) v k w):∃ ao c,v=.slice ao (ints l).length c∧(ints l).length≤c∧(Kd.int .u8).C w ao (ints l).length (ints l):=by
  obtain ⟨c,⟨rfl,h0⟩ | ⟨o,rfl,h1,h2,h3,h4⟩⟩:=h
  · have hl:l=[]:=List.length_eq_zero_iff.1 (by have:=congrArg List.length h0;rwa [Lib.byteCells_length] at this)
    subst hl
    exact ⟨none,0,rfl,Nat.le_refl _,Kd.C_nil _ _⟩
  · rw [Lib.byteCells_length] at h1 ⊢
    refine ⟨_,c,by rw [ints_length],by rw [ints_length];exact h1,rfl,by rw [ints_length];unfold maxLen at h2;omega,fun _=>⟨_,rfl,fun j p hj=>⟨[.int .u8 p],rfl,rfl,fun i u hu=>?_⟩⟩⟩
    cases i with
    | succ i=>simp at hu
    | zero =>
      simp only [List.getElem?_cons_zero,Option.some.injEq] at hu
      subst hu
      have hc:=h4 j (.int .u8 p) (by rw [byteCells_ints,List.getElem?_map,hj];rfl)
      rw [Lib.addr_add]
      simpa [Kd.int,Kd.scalar] using hc

theorem strOf_ints (l:List UInt8):Value.string (strOfNums (ints l))=strV l:=by
  unfold strV strOfNums
  congr 2
  simp [ints,List.map_map,Function.comp_def]

theorem str_conv {l:List UInt8} {v:Value} {k:Nat} {w:World} (h:IsB (Lib.byteCells l) v k w):(convert 24 9 v).run Tryz.prog w=.ok (strV l) w:=by
  obtain ⟨ao,c,rfl,h1,h2⟩:=h.ints
  rw [← strOf_ints]
  exact Kd.C_string Tryz.underlying24 Tryz.underlying5 Tryz.underlying9 h2

end Go.Proofs.YtmjcnomgpikncaaGreatDoor

namespace Go.Proofs.YtmjcnomgpikncaaGreatDoor

open Go.RowKit

theorem toB_len (l:List Int):(toB l).length=l.length:=by simp [toB]

theorem w64i (x:Int) (h0:0≤x) (h1:x≤9223372036854775807):wrap64 x=x:=by unfold wrap64;omega

end Go.Proofs.YtmjcnomgpikncaaGreatDoor
