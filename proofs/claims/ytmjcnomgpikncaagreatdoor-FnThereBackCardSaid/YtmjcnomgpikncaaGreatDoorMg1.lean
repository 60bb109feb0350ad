/- Both protocols as protocols that write. No condition. -/
import Derived.Test.YtmjcnomgpikncaaGreatDoorMc
import Derived.Test.YtmjcnomgpikncaaGreatDoorMd1
import Derived.Test.YtmjcnomgpikncaaGreatDoorMd4
import Derived.Test.YtmjcnomgpikncaaGreatDoorMd3
import Derived.Test.YtmjcnomgpikncaaGreatDoorMe
import Derived.Test.YtmjcnomgpikncaaGreatDoorMb2
set_option linter.unusedVariables false
set_option linter.unusedSimpArgs false
namespace Go.Proofs.YtmjcnomgpikncaaGreatDoor

open Go.RowKit



def okW (s:CW):Prop:=(-32768≤s.last∧s.last < 32768)∧(-32768≤s.pid∧s.pid < 32768)∧∀ x,x∈s.stk→-32768≤x∧x < 32768

theorem okW_0:okW CW0:=⟨by decide,by decide,by simp [CW0]⟩

theorem stk_split (l:List Int) (h:¬ l=[]):l=l.dropLast++[l.getLastD 0]:=by
  rw [List.getLastD_eq_getLast?,List.getLast?_eq_some_getLast h]
  exact (List.dropLast_concat_getLast h).symm

theorem run_strE (s:CW):cmpRun s .strE=if s.stk=[] then (s,[],11) else ({ s with stk:=s.stk.dropLast,last:=s.stk.getLastD 0 },[],0):=rfl

theorem run_fldB (s:CW) (t id:Int):cmpRun s (.fldB t id)=if t=2 then ({ s with pend:=true,pid:=id },[],0) else ({ s with last:=id },cHead s.last id (cCode t),0):=rfl

theorem run_bool (s:CW) (b:Bool):cmpRun s (.bool b)=if s.pend then ({ s with last:=s.pid,pend:=false },cHead s.last s.pid (if b then 1 else 2),0) else (s,[if b then 1 else 2],0):=rfl

theorem okW_run (s:CW) (h:okW s) (o:WOp) (hf:o.fit):okW (cmpRun s o).1:=by
  obtain ⟨h1,h2,h3⟩:=h
  cases o with
  | strB =>
    refine ⟨by simp [cmpRun],h2,fun x hx=>?_⟩
    simp only [cmpRun,List.mem_append,List.mem_singleton] at hx
    rcases hx with hx | rfl
    · exact h3 x hx
    · exact h1
  | strE =>
    rw [run_strE]
    split
    · exact ⟨h1,h2,h3⟩
    · rename_i h0
      refine ⟨h3 _ ?_,h2,fun x hx=>h3 x (List.dropLast_subset _ hx)⟩
      have:=List.mem_append_right s.stk.dropLast (List.mem_singleton.2 (rfl:s.stk.getLastD 0=s.stk.getLastD 0))
      rw [← stk_split s.stk h0] at this
      exact this
  | fldB t id =>
    rw [run_fldB]
    split
    · exact ⟨h1,hf.2,h3⟩
    · exact ⟨hf.2,h2,h3⟩
  | bool b =>
    rw [run_bool]
    split
    · exact ⟨h2,h2,h3⟩
    · exact ⟨h1,h2,h3⟩
  | _=>exact ⟨h1,h2,h3⟩

def cmpO (s:CW) (o:WOp):List UInt8:=(cmpRun s o).2.1.take o.cost

def cmpStep (r:CW × List UInt8) (o:WOp):(CW × List UInt8) × Nat:=(((cmpRun r.1 o).1,r.2++cmpO r.1 o),(cmpRun r.1 o).2.2)

def cmpRoom (r:CW × List UInt8):Nat:=r.2.length+32 * r.1.stk.length

theorem uv5 (N:Nat) (h:N < 4294967296):(Lib.uvarint N).length≤5:=Lib.uvarint_length 4 _ (by omega)

theorem zz_lt (x:Int) (h0:-2147483648≤x) (h1:x < 2147483648):Lib.zigzag x < 4294967296:=by unfold Lib.zigzag;split <;> omega

theorem zz_lt64 (x:Int) (h0:-9223372036854775808≤x) (h1:x < 9223372036854775808):Lib.zigzag x < 18446744073709551616:=by unfold Lib.zigzag;split <;> omega

theorem cHead_le (last id:Int) (c:Nat) (h0:-32768≤id) (h1:id < 32768):(cHead last id c).length≤6:=by
  unfold cHead
  have:=uv5 _ (zz_lt id (by omega) (by omega))
  split <;> simp <;> omega

theorem cmpO_len (s:CW) (h:okW s) (o:WOp) (hf:o.fit):(cmpRun s o).2.1.length≤o.cost:=by
  obtain ⟨h1,h2,h3⟩:=h
  cases o with
  | msgB nm t seq =>
    have h5:=uv5 (seq % 4294967296).toNat (by omega)
    have h6:=uv5 nm.length (by have:=hf.1;omega)
    simp [cmpRun,WOp.cost,cText]
    omega
  | strE=>rw [run_strE];split <;> simp
  | fldB t id =>
    have:=cHead_le s.last id (cCode t) hf.2.1 hf.2.2
    rw [run_fldB]
    split <;> simp [WOp.cost]
    omega
  | mapB k t n =>
    have h5:=uv5 (n % 4294967296).toNat (by omega)
    simp only [cmpRun,WOp.cost]
    split <;> simp
    omega
  | lstB t n =>
    have h5:=uv5 (n % 4294967296).toNat (by omega)
    simp only [cmpRun,WOp.cost]
    split <;> simp
    omega
  | setB t n =>
    have h5:=uv5 (n % 4294967296).toNat (by omega)
    simp only [cmpRun,WOp.cost]
    split <;> simp
    omega
  | bool b =>
    have:=cHead_le s.last s.pid (if b then 1 else 2) h2.1 h2.2
    rw [run_bool]
    split <;> simp [WOp.cost]
    omega
  | byte n=>simp [cmpRun,WOp.cost]
  | i16 n=>have:=uv5 _ (zz_lt n (by have:=hf.1;omega) (by have:=hf.2;omega));simp [cmpRun,WOp.cost];omega
  | i32 n=>have:=uv5 _ (zz_lt n hf.1 hf.2);simp [cmpRun,WOp.cost];omega
  | i64 n=>have:=Lib.uvarint_length64 (zz_lt64 n hf.1 hf.2);simp [cmpRun,WOp.cost];omega
  | dbl n=>simp [cmpRun,WOp.cost,le8,Lib.leBytes_length]
  | str x=>have:=uv5 x.length (by have:x.length≤2147483647:=hf;omega);simp [cmpRun,WOp.cost,cText];omega
  | bin x=>have:=uv5 x.length (by have:x.length≤2147483647:=hf;omega);simp [cmpRun,WOp.cost,cText];omega
  | uuid x=>have:x.length=16:=hf;simp [cmpRun,WOp.cost];omega
  | _=>simp [cmpRun,WOp.cost]

theorem cmpO_fit (s:CW) (h:okW s) (o:WOp) (hf:o.fit):cmpO s o=(cmpRun s o).2.1:=List.take_of_length_le (cmpO_len s h o hf)

theorem cmpRun_stk (s:CW) (o:WOp):(cmpRun s o).1.stk.length≤s.stk.length∨(o=.strB∧(cmpRun s o).1.stk.length=s.stk.length+1):=by
  cases o with
  | strB=>exact .inr ⟨rfl,by simp [cmpRun]⟩
  | strE=>left;rw [run_strE];split <;> simp
  | fldB t id=>left;rw [run_fldB];split <;> simp
  | bool b=>left;rw [run_bool];split <;> simp
  | _=>exact .inl (Nat.le_refl _)

theorem cmpRoom_grow (r:CW × List UInt8) (o:WOp):cmpRoom (cmpStep r o).1≤cmpRoom r+o.cost:=by
  have h1:(cmpO r.1 o).length≤o.cost:=by unfold cmpO;simp;omega
  unfold cmpRoom cmpStep
  simp only [List.length_append]
  rcases cmpRun_stk r.1 o with h | ⟨rfl,h⟩
  · omega
  · rw [h]
    have:(cmpO r.1 .strB).length=0:=by simp [cmpO,cmpRun]
    simp only [WOp.cost]
    omega

end Go.Proofs.YtmjcnomgpikncaaGreatDoor

namespace Go.Proofs.YtmjcnomgpikncaaGreatDoor

open Go.RowKit Go.Deep



def binFn (s:String):FuncId :=
  if s = "WriteMessageBegin" then 243 else
  if s = "WriteMessageEnd" then 244 else
  if s = "WriteStructBegin" then 248 else
  if s = "WriteStructEnd" then 249 else
  if s = "WriteFieldBegin" then 233 else
  if s = "WriteFieldEnd" then 234 else
  if s = "WriteFieldStop" then 235 else
  if s = "WriteMapBegin" then 241 else
  if s = "WriteMapEnd" then 242 else
  if s = "WriteListBegin" then 239 else
  if s = "WriteListEnd" then 240 else
  if s = "WriteSetBegin" then 245 else
  if s = "WriteSetEnd" then 246 else
  if s = "WriteBool" then 230 else
  if s = "WriteByte" then 231 else
  if s = "WriteI16" then 236 else
  if s = "WriteI32" then 237 else
  if s = "WriteI64" then 238 else
  if s = "WriteDouble" then 232 else
  if s = "WriteString" then 247 else
  if s = "WriteBinary" then 229 else
  250

theorem bin_meth (p:Nat) (o:WOp) (k:Nat) (w:World):(method (k+1) 155 (.pointer (some ⟨p,0,none⟩)) o.nm).run Tryz.prog w=.ok (binFn o.nm,.pointer (some ⟨p,0,none⟩)) w:=by
  cases o <;> kernel_rfl

theorem bin_ahead (p:Nat) (o:WOp) (k:Nat) (w:World):(nilAhead (k+1) 155 (.pointer (some ⟨p,0,none⟩)) o.nm).run Tryz.prog w=.ok (some false) w:=by
  cases o <;> kernel_rfl

theorem bin_ent (o:WOp) (args:Array Value) (w:World):(callFunc (binFn o.nm) args).run Tryz.prog w=.ok (.enter (binFn o.nm) args) w:=by
  cases o <;> kernel_rfl

def binO (b:Bool) (o:WOp):List UInt8 :=
  match o with
  | .uuid s=>s.take 16
  | o=>binOut b o

theorem binO_le (b:Bool) (o:WOp):(binO b o).length≤o.cost:=by
  cases o <;> simp only [binO,binOut,WOp.cost,bText,List.length_append,List.length_cons,List.length_nil,be_length,List.length_take] <;> (try split) <;> (try simp only [List.length_append,List.length_cons,List.length_nil,be_length]) <;> omega

theorem cast_l {σ:Type} {Is:List Nat→σ→World→Prop} {f:FuncId} {a:Array Value} {S:List Nat} {w:World} {x y:σ} (h:x=y) (hc:Calls Tryz.prog f a w (Did Is S w (x,0))):Calls Tryz.prog f a w (Did Is S w (y,0)):=h ▸ hc

theorem bin_does (p m:Nat) (og cf:Value) (c:Cfg) {S:List Nat} {l:List UInt8} {w:World} (h:BW p m og cf c S l w) (o:WOp) (hb:o.isBin=false) (hf:o.fit) (hr:l.length+o.cost≤140737488355328) :
    Calls Tryz.prog (binFn o.nm) (o.argv (.pointer (some ⟨p,0,none⟩))) w (Did (BW p m og cf c) S w (l++binO c.strictW o,0)):=by
  cases o with
  | msgB nm t seq =>
    simp only [WOp.cost] at hr
    by_cases hc:c.strictW=true
    · exact cast_l (by simp [binO,binOut,hc]) (bw_msgB_strict h ctxV nm t seq hf.1 (by omega) hc)
    · have hc':c.strictW=false:=by simpa using hc
      exact cast_l (by simp [binO,binOut,hc']) (bw_msgB_loose h ctxV nm t seq hf.1 (by omega) hc')
  | msgE=>exact cast_l (List.append_nil l).symm (bw_msgE h ctxV)
  | strB=>exact cast_l (List.append_nil l).symm (bw_strB h ctxV (.string ByteArray.empty))
  | strE=>exact cast_l (List.append_nil l).symm (bw_strE h ctxV)
  | fldB t id=>exact bw_fldB h ctxV _ t id (by simp only [WOp.cost] at hr;omega)
  | fldE=>exact cast_l (List.append_nil l).symm (bw_fldE h ctxV)
  | stop=>exact bw_stop h ctxV (by simp only [WOp.cost] at hr;omega)
  | mapB k t n=>exact bw_mapB h ctxV k t n (by simp only [WOp.cost] at hr;omega)
  | mapE=>exact cast_l (List.append_nil l).symm (bw_mapE h ctxV)
  | lstB t n=>exact bw_lstB h ctxV t n (by simp only [WOp.cost] at hr;omega)
  | lstE=>exact cast_l (List.append_nil l).symm (bw_lstE h ctxV)
  | setB t n=>exact bw_setB h ctxV t n (by simp only [WOp.cost] at hr;omega)
  | setE=>exact cast_l (List.append_nil l).symm (bw_setE h ctxV)
  | bool b=>exact bw_bool h ctxV b (by simp only [WOp.cost] at hr;omega)
  | byte n=>exact bw_byte h ctxV n (by simp only [WOp.cost] at hr;omega)
  | i16 n=>exact bw_i16 h ctxV n (by simp only [WOp.cost] at hr;omega)
  | i32 n=>exact bw_i32 h ctxV n (by simp only [WOp.cost] at hr;omega)
  | i64 n=>exact bw_i64 h ctxV n (by simp only [WOp.cost] at hr;omega)
  | dbl n=>exact bw_dbl h ctxV n hf (by simp only [WOp.cost] at hr;omega)
  | str s=>exact bw_str h ctxV s hf (by simp only [WOp.cost] at hr;omega)
  | bin s=>simp [WOp.isBin] at hb
  | uuid s=>exact cast_l (by show l++s=l++s.take 16;rw [List.take_of_length_le (by have:s.length=16:=hf;omega)]) (bw_uuid h ctxV s hf (by simp only [WOp.cost] at hr;omega))

def PBin (p m:Nat) (og cf:Value) (c:Cfg):PW where
  ty:=155
  ptr:=.pointer (some ⟨p,0,none⟩)
  fn:=binFn
  σ:=List UInt8
  Is:=BW p m og cf c
  room:=List.length
  run:=fun l o=>(l++binO c.strictW o,0)
  meth:=bin_meth p
  ahead:=bin_ahead p
  ent:=bin_ent
  step:=fun h _ _ _ hs hn=>h.step hs hn
  lt:=fun h=>h.lt
  grow:=fun s o=>by simp only [List.length_append];have:=binO_le c.strictW o;omega
  does:=fun h o hb hf hr=>bin_does p m og cf c h o hb hf hr
  bdoes:=fun h xs ao cp hl hn hr=>by
    have h1:WOp.cost (.bin xs)=xs.length+32:=rfl
    rw [h1] at hr
    exact bw_bin h ctxV xs ao xs.length cp rfl hn (by omega) hl.1 hl.2

def binAll (b:Bool) (l:List WOp):List UInt8:=l.flatMap (binO b)

theorem bin_runs (b:Bool):∀ (l:List WOp) (s:List UInt8),runs (fun s o=>(s++binO b o,0)) l s=(s++binAll b l,0)
  | [],s=>by simp [runs,binAll]
  | o :: l,s=>by
    simp only [runs,if_true]
    rw [bin_runs b l]
    simp [binAll,List.append_assoc]

end Go.Proofs.YtmjcnomgpikncaaGreatDoor

namespace Go.Proofs.YtmjcnomgpikncaaGreatDoor

open Go.RowKit Go.Deep



def cmpFn (s:String):FuncId :=
  if s = "WriteMessageBegin" then 168 else
  if s = "WriteMessageEnd" then 169 else
  if s = "WriteStructBegin" then 173 else
  if s = "WriteStructEnd" then 174 else
  if s = "WriteFieldBegin" then 158 else
  if s = "WriteFieldEnd" then 159 else
  if s = "WriteFieldStop" then 160 else
  if s = "WriteMapBegin" then 166 else
  if s = "WriteMapEnd" then 167 else
  if s = "WriteListBegin" then 164 else
  if s = "WriteListEnd" then 165 else
  if s = "WriteSetBegin" then 170 else
  if s = "WriteSetEnd" then 171 else
  if s = "WriteBool" then 155 else
  if s = "WriteByte" then 156 else
  if s = "WriteI16" then 161 else
  if s = "WriteI32" then 162 else
  if s = "WriteI64" then 163 else
  if s = "WriteDouble" then 157 else
  if s = "WriteString" then 172 else
  if s = "WriteBinary" then 154 else
  175

theorem cmp_meth (p:Nat) (o:WOp) (k:Nat) (w:World):(method (k+1) 151 (.pointer (some ⟨p,0,none⟩)) o.nm).run Tryz.prog w=.ok (cmpFn o.nm,.pointer (some ⟨p,0,none⟩)) w:=by
  cases o <;> kernel_rfl

theorem cmp_ahead (p:Nat) (o:WOp) (k:Nat) (w:World):(nilAhead (k+1) 151 (.pointer (some ⟨p,0,none⟩)) o.nm).run Tryz.prog w=.ok (some false) w:=by
  cases o <;> kernel_rfl

theorem cmp_ent (o:WOp) (args:Array Value) (w:World):(callFunc (cmpFn o.nm) args).run Tryz.prog w=.ok (.enter (cmpFn o.nm) args) w:=by
  cases o <;> kernel_rfl

def CmpIs (p m:Nat) (og cf:Value) (c:Cfg) (S:List Nat) (r:CW × List UInt8) (w:World):Prop :=
  (∃ bv bn,CP p m og cf c 0 S ⟨r.1.stk,r.1.last,r.1.pend,r.1.pid,bv,bn⟩ r.2 w)∧okW r.1

theorem toC {p m:Nat} {og cf:Value} {c:Cfg} {f:FuncId} {a:Array Value} {S:List Nat} {w:World} {st:CSt} {s1:CW} {l1 l2:List UInt8} {k:Nat} (hc:Calls Tryz.prog f a w (Did (CIs p m og cf c) S w ((st,l1),k)))
    (hst:st.stk=s1.stk∧st.last=s1.last∧st.pend=s1.pend∧st.pid=s1.pid) (hl:l1=l2) (ok:okW s1):Calls Tryz.prog f a w (Did (CmpIs p m og cf c) S w ((s1,l2),k)):=by
  subst hl
  refine hc.mono ?_
  rintro e w' ⟨ev,S1,rfl,he,h1,hs⟩
  obtain ⟨q1,q2,q3,q4⟩:=hst
  obtain ⟨a1,a2,a3,a4,a5,a6⟩:=st
  dsimp only at q1 q2 q3 q4
  subst q1 q2 q3 q4
  exact ⟨ev,S1,rfl,he,⟨⟨a5,a6,h1⟩,ok⟩,hs⟩

set_option maxHeartbeats 1000000 in
theorem cmp_does (p m:Nat) (og cf:Value) (c:Cfg) {S:List Nat} {r:CW × List UInt8} {w:World} (h:CmpIs p m og cf c S r w) (o:WOp) (hb:o.isBin=false) (hf:o.fit) (hr:cmpRoom r+o.cost≤140737488355328) :
    Calls Tryz.prog (cmpFn o.nm) (o.argv (.pointer (some ⟨p,0,none⟩))) w (Did (CmpIs p m og cf c) S w (cmpStep r o)):=by
  obtain ⟨s,l⟩:=r
  obtain ⟨⟨bv,bn,hI⟩,ok⟩:=h
  have ok2:=okW_run s ok o hf
  have hk:cmpO s o=(cmpRun s o).2.1:=cmpO_fit s ok o hf
  obtain ⟨⟨h1,h2⟩,⟨h3,h4⟩,h5⟩:=ok
  unfold cmpRoom at hr
  unfold cmpStep
  rw [hk]
  dsimp only at *
  cases o with
  | msgB nm t seq=>exact toC (cp_msgB hI ctxV nm t seq hf.1 (by simp only [WOp.cost] at hr;omega)) ⟨rfl,rfl,rfl,rfl⟩ rfl ok2
  | msgE=>exact toC (cp_msgE hI ctxV) ⟨rfl,rfl,rfl,rfl⟩ (List.append_nil l).symm ok2
  | strB=>exact toC (cp_strB hI ctxV (.string ByteArray.empty) (by simp only [WOp.cost] at hr;dsimp only;omega)) ⟨rfl,rfl,rfl,rfl⟩ (List.append_nil l).symm ok2
  | strE =>
    by_cases h0:s.stk=[]
    · have e:cmpRun s .strE=(s,[],11):=by simp [cmpRun,h0]
      rw [e] at ok2 ⊢
      exact toC (cp_strE_none hI ctxV h0) ⟨rfl,rfl,rfl,rfl⟩ (List.append_nil l).symm ok2
    · have e:cmpRun s .strE=({ s with stk:=s.stk.dropLast,last:=s.stk.getLastD 0 },[],0):=by simp [cmpRun,h0]
      rw [e] at ok2 ⊢
      exact toC (cp_strE hI ctxV s.stk.dropLast (s.stk.getLastD 0) (stk_split s.stk h0)) ⟨rfl,rfl,rfl,rfl⟩ (List.append_nil l).symm ok2
  | fldB t id =>
    by_cases h0:t=2
    · subst h0
      exact toC (cp_fldB_bool hI ctxV ByteArray.empty id) ⟨rfl,rfl,rfl,rfl⟩ (List.append_nil l).symm ok2
    · have e:cmpRun s (.fldB t id)=({ s with last:=id },cHead s.last id (cCode t),0):=by simp [cmpRun,h0]
      rw [e] at ok2 ⊢
      exact toC (cp_fldB hI ctxV _ t id h0 hf.2.1 hf.2.2 h1 h2 (by simp only [WOp.cost] at hr;omega)) ⟨rfl,rfl,rfl,rfl⟩ rfl ok2
  | fldE=>exact toC (cp_fldE hI ctxV) ⟨rfl,rfl,rfl,rfl⟩ (List.append_nil l).symm ok2
  | stop=>exact toC (cp_stop hI ctxV (by simp only [WOp.cost] at hr;omega)) ⟨rfl,rfl,rfl,rfl⟩ rfl ok2
  | mapB k t n =>
    by_cases h0:n=0
    · subst h0
      exact toC (cp_mapB_none hI ctxV k t (by simp only [WOp.cost] at hr;omega)) ⟨rfl,rfl,rfl,rfl⟩ rfl ok2
    · exact toC (cp_mapB_some hI ctxV k t n h0 (by simp only [WOp.cost] at hr;omega)) ⟨rfl,rfl,rfl,rfl⟩ (by simp [cmpRun,h0]) ok2
  | mapE=>exact toC (cp_mapE hI ctxV) ⟨rfl,rfl,rfl,rfl⟩ (List.append_nil l).symm ok2
  | lstB t n=>exact toC (cp_lstB hI ctxV t n (by simp only [WOp.cost] at hr;omega)) ⟨rfl,rfl,rfl,rfl⟩ (by simp [cmpRun,cColl]) ok2
  | lstE=>exact toC (cp_lstE hI ctxV) ⟨rfl,rfl,rfl,rfl⟩ (List.append_nil l).symm ok2
  | setB t n=>exact toC (cp_setB hI ctxV t n (by simp only [WOp.cost] at hr;omega)) ⟨rfl,rfl,rfl,rfl⟩ (by simp [cmpRun,cColl]) ok2
  | setE=>exact toC (cp_setE hI ctxV) ⟨rfl,rfl,rfl,rfl⟩ (List.append_nil l).symm ok2
  | bool b =>
    cases hp:s.pend
    · have e:cmpRun s (.bool b)=(s,[if b then 1 else 2],0):=by simp [cmpRun,hp]
      rw [e] at ok2 ⊢
      exact toC (cp_bool hI ctxV b hp (by simp only [WOp.cost] at hr;omega)) ⟨rfl,rfl,rfl,rfl⟩ rfl ok2
    · have e:cmpRun s (.bool b)=({ s with last:=s.pid,pend:=false },cHead s.last s.pid (if b then 1 else 2),0):=by simp [cmpRun,hp]
      rw [e] at ok2 ⊢
      exact toC (cp_bool_pend hI ctxV b hp h3 h4 h1 h2 (by simp only [WOp.cost] at hr;omega)) ⟨rfl,rfl,rfl,rfl⟩ rfl ok2
  | byte n=>exact toC (cp_byte hI ctxV n (by simp only [WOp.cost] at hr;omega)) ⟨rfl,rfl,rfl,rfl⟩ rfl ok2
  | i16 n=>exact toC (cp_i16 hI ctxV n hf.1 hf.2 (by simp only [WOp.cost] at hr;omega)) ⟨rfl,rfl,rfl,rfl⟩ rfl ok2
  | i32 n=>exact toC (cp_i32 hI ctxV n hf.1 hf.2 (by simp only [WOp.cost] at hr;omega)) ⟨rfl,rfl,rfl,rfl⟩ rfl ok2
  | i64 n=>exact toC (cp_i64 hI ctxV n hf.1 hf.2 (by simp only [WOp.cost] at hr;omega)) ⟨rfl,rfl,rfl,rfl⟩ rfl ok2
  | dbl n=>exact toC (cp_dbl hI ctxV n hf (by simp only [WOp.cost] at hr;omega)) ⟨rfl,rfl,rfl,rfl⟩ rfl ok2
  | str x=>exact toC (cp_str hI ctxV x hf (by simp only [WOp.cost] at hr;omega)) ⟨rfl,rfl,rfl,rfl⟩ rfl ok2
  | bin x=>simp [WOp.isBin] at hb
  | uuid x=>exact toC (cp_uuid hI ctxV x hf (by simp only [WOp.cost] at hr;omega)) ⟨rfl,rfl,rfl,rfl⟩ rfl ok2

theorem cmp_doesB {p m:Nat} {og cf:Value} {c:Cfg} {S:List Nat} {r:CW × List UInt8} {w:World} (h:CmpIs p m og cf c S r w) (xs:List UInt8) (ao:Option Addr) (cp:Nat) (hl:LiesAt xs ao S w) (hn:xs.length≤2147483647) (hr:cmpRoom r+(WOp.bin xs).cost≤140737488355328) :
    Calls Tryz.prog (cmpFn "WriteBinary") #[.pointer (some ⟨p,0,none⟩),ctxV,.slice ao xs.length cp] w (Did (CmpIs p m og cf c) S w (cmpStep r (.bin xs))):=by
  obtain ⟨s,l⟩:=r
  obtain ⟨⟨bv,bn,hI⟩,ok⟩:=h
  have ok2:=okW_run s ok (.bin xs) hn
  have hk:cmpO s (.bin xs)=(cmpRun s (.bin xs)).2.1:=cmpO_fit s ok (.bin xs) hn
  unfold cmpRoom at hr
  unfold cmpStep
  rw [hk]
  dsimp only at *
  exact toC (cp_bin hI ctxV xs ao cp hn (by simp only [WOp.cost] at hr;omega) hl) ⟨rfl,rfl,rfl,rfl⟩ rfl ok2

def PCmp (p m:Nat) (og cf:Value) (c:Cfg):PW where
  ty:=151
  ptr:=.pointer (some ⟨p,0,none⟩)
  fn:=cmpFn
  σ:=CW × List UInt8
  Is:=CmpIs p m og cf c
  room:=cmpRoom
  run:=cmpStep
  meth:=cmp_meth p
  ahead:=cmp_ahead p
  ent:=cmp_ent
  step:=fun h _ _ _ hs hn=>⟨by obtain ⟨bv,bn,h1⟩:=h.1;exact ⟨bv,bn,h1.step hs hn⟩,h.2⟩
  lt:=fun h=>by obtain ⟨bv,bn,h1⟩:=h.1;exact h1.lt
  grow:=cmpRoom_grow
  does:=fun h o hb hf hr=>cmp_does p m og cf c h o hb hf hr
  bdoes:=fun h xs ao cp hl hn hr=>cmp_doesB h xs ao cp hl hn hr

end Go.Proofs.YtmjcnomgpikncaaGreatDoor

namespace Go.Proofs.YtmjcnomgpikncaaGreatDoor

open Go.RowKit Go.Deep



def cfgOf (plain rb sb:Bool) (ms ct fr:Int):Cfg:=⟨plain,rb,sb,ms,ct,fr⟩

theorem missing_one (want:Array (String × TypeId)) (got:Array Method) (s:String) (h:(want.toList.filter fun (name,sig)=>!got.any fun m=>m.name == name && m.sig == sig).map (·.1)=[s]):∃ m,Instr.missingMethod want got=some m:=by
  unfold Instr.missingMethod
  rw [h]
  by_cases hc:s.contains '.'=true
  · simp only [List.partition,List.partition.loop,hc,List.reverse_cons,List.reverse_nil,List.nil_append,List.map_cons,List.map_nil]
    exact ⟨_,rfl⟩
  · have hc':s.contains '.'=false:=by simpa using hc
    simp only [List.partition,List.partition.loop,hc',List.reverse_cons,List.reverse_nil,List.nil_append,List.map_cons,List.map_nil]
    exact ⟨_,rfl⟩

noncomputable def setterWant:Array (String × TypeId):=match Tryz.prog.underlying 249 with
  | some (.interface w)=>w
  | _=>#[]

noncomputable def memMethods:Array Method:=((Tryz.prog.info? 80).getD default).methods

theorem setterWant_is:Tryz.prog.underlying 249=some (.interface setterWant):=by kernel_rfl

theorem setter_missing:(setterWant.toList.filter fun (name,sig)=>!memMethods.any fun m=>m.name == name && m.sig == sig).map (·.1)=["SetTConfiguration"]:=by kernel_rfl

theorem setter_info (w:World):(typeInfo 80).run Tryz.prog w=.ok ((Tryz.prog.info? 80).getD default) w:=by kernel_rfl

theorem setter_zero (w:World):(zeroValue 249).run Tryz.prog w=.ok .nilIface w:=by kernel_rfl

theorem mem_noSetter (m:Nat) (w:World):(Instr.typeAssert (memV m) 20 249 true).run Tryz.prog w=.ok (.tuple #[.nilIface,.bool false]) w:=by
  obtain ⟨x,hx⟩:=missing_one setterWant memMethods _ setter_missing
  simp only [Instr.typeAssert,Sem.run_bind,run_underlying setterWant_is,Result.andThen,setter_info]
  rw [show ((Tryz.prog.info? 80).getD default).methods=memMethods from rfl,hx]
  simp [setter_zero,Result.andThen]

theorem cfg_given (proto:Int) (rb sb:Bool) (ms ct fr:Int) (w:World):Calls Tryz.prog 70 #[confV proto false rb sb ms ct fr] w fun e w'=>∃ k K,e=.returned (.pointer (some ⟨k,0,none⟩))∧CfgAt (cfgOf false rb sb ms ct fr) (.pointer (some ⟨k,0,none⟩)) K w'∧(∀ j,j∈K→w.heap.size≤j)∧w'.cell? ⟨k,5,none⟩=some (.bool false)∧Below w.heap.size w w':=by
  refine (config_given proto rb sb ms ct fr w).mono ?_
  rintro e w' ⟨k,r,s,rfl,hc,hb,h5,⟨k1,k2,k3⟩,⟨q1,q2,q3⟩⟩
  refine ⟨k,[k,r,s],rfl,.inr ⟨rfl,k,r,s,rfl,rfl,q1,q2,q3,hc⟩,?_,h5,hb⟩
  intro j hj
  simp only [List.mem_cons,List.not_mem_nil,or_false] at hj
  rcases hj with rfl | rfl | rfl <;> assumption

set_option maxRecDepth 100000 in
set_option maxHeartbeats 1000000 in
theorem newBin_given (m k:Nat) (w:World) (h0:∃ x,w.cell? ⟨k,0,none⟩=some x) (h5:w.cell? ⟨k,5,none⟩=some (.bool false)) :
    Calls Tryz.prog 71 #[memV m,.pointer (some ⟨k,0,none⟩)] w fun e w'=>∃ p sc,e=.returned (.pointer (some ⟨p,0,none⟩))∧w.heap.size≤p∧Bin p (memV m) (memV m) (.pointer (some ⟨k,0,none⟩)) sc w'∧Below w.heap.size w w':=by
  have hta:=mem_isRich
  have htb:=mem_noSetter
  go_enter Tryz.func71,Tryz.ntmps71
  go_wp2
  first
    | (refine bodyPost_ret (results_none rfl _ _ _) rfl ?_;go_wp2)
    | (go_end0;go_wp2)
    | (go_outline;trace_state;fail)
  go_ret
  obtain ⟨sc,hz,hl,h1⟩:=zeroBin
  refine ⟨w.heap.size,sc,rfl,by omega,⟨?_,hl,h1⟩,?_⟩
  · refine (heap_alloc_at (by simp) _).trans ?_
    rw [hz];simp
  · exact (Below.refl _ _).alloc (by simp) _

set_option maxRecDepth 100000 in
set_option maxHeartbeats 1000000 in
theorem newCmp_given (m k:Nat) (w:World) (h0:∃ x,w.cell? ⟨k,0,none⟩=some x) (h5:w.cell? ⟨k,5,none⟩=some (.bool false)) :
    Calls Tryz.prog 69 #[memV m,.pointer (some ⟨k,0,none⟩)] w fun e w'=>∃ p sc,e=.returned (.pointer (some ⟨p,0,none⟩))∧w.heap.size≤p∧Cmp p (memV m) (memV m) (.pointer (some ⟨k,0,none⟩)) CS0 sc w'∧Below w.heap.size w w':=by
  have hta:=mem_isRich
  have htb:=mem_noSetter
  go_enter Tryz.func69,Tryz.ntmps69
  go_wp2
  first
    | (refine bodyPost_ret (results_none rfl _ _ _) rfl ?_;go_wp2)
    | (go_end0;go_wp2)
    | (go_outline;trace_state;fail)
  go_ret
  obtain ⟨sc,hz,hl,h1⟩:=zeroCmp
  refine ⟨w.heap.size,sc,rfl,by omega,⟨?_,hl,h1⟩,?_⟩
  · refine (heap_alloc_at (by simp) _).trans ?_
    rw [hz];simp [CS.row]
  · exact (Below.refl _ _).alloc (by simp) _

set_option maxRecDepth 100000 in
set_option maxHeartbeats 1000000 in
theorem protocol_binC (proto:Int) (hpr:¬ proto=1) (plain rb sb:Bool) (ms ct fr:Int) (m:Nat) (w:World) :
    Calls Tryz.prog 45 #[confV proto plain rb sb ms ct fr,memV m] w fun e w'=>∃ p cf K sc,e=.returned (binV p)∧w.heap.size≤p∧Bin p (memV m) (memV m) cf sc w'∧CfgAt (cfgOf plain rb sb ms ct fr) cf K w'∧(∀ k,k∈K→w.heap.size≤k∧k≠p)∧Below w.heap.size w w':=by
  have hp1:(proto == 1)=false:=by simpa using hpr
  have hta:=mem_isRich
  cases plain with
  | true =>
    go_enter Tryz.func45,Tryz.ntmps45
    go_wp2
    refine bodyPost_ret (results_none rfl _ _ _) rfl ?_
    go_wp2
    go_ret
    obtain ⟨sc,hz,hl,h1⟩:=zeroBin
    refine ⟨w.heap.size+1+1,.pointer none,[],sc,rfl,by omega,⟨?_,hl,h1⟩,.inl ⟨rfl,rfl,rfl⟩,by simp,?_⟩
    · refine (heap_alloc_at (by simp) _).trans ?_
      rw [hz];simp
    · exact (((Below.refl _ _).alloc (by simp) _).alloc (by simp <;> omega) _).alloc (by simp <;> omega) _
  | false =>
    have HC:=Lib.hid (cfg_given proto rb sb ms ct fr)
    go_enter Tryz.func45,Tryz.ntmps45
    go_wp2_with (fail)
    refine (HC.out _).mono ?_
    rintro e W1 ⟨k,K,rfl,hc,hK,h5,hb⟩
    have h0:∃ x,W1.cell? ⟨k,0,none⟩=some x:=by
      rcases hc with ⟨h,_⟩ | ⟨_,k',r,s,_,he,_,_,_,h0,_⟩
      · cases h
      · cases he;exact ⟨_,h0⟩
    have HN:=Lib.hid (newBin_given m k W1 h0 h5)
    have HCF:=Lib.hid hc
    have HB:=Lib.hid hb
    clear h0 h5 hc hb
    go_wp2_with (fail)
    ((with_reducible refine HN.out.mono ?_);rintro e W2 ⟨p,sc,rfl,hp,hB,hb2⟩)
    go_wp2
    go_ret
    have hz:=HB.out.size
    simp at hz
    refine ⟨p,_,K,sc,rfl,by omega,hB,HCF.out.step (Step.ofBelow (S:=[]) hb2) (by simp),fun j hj=>⟨?_,?_⟩,?_⟩
    · have:=hK j hj;simp at this;omega
    · have:=HCF.out.lt j hj;omega
    · exact ((Below.refl _ _).alloc (Nat.le_refl _) _).trans ((HB.out.mono (by simp)).trans (hb2.mono (by omega)))

end Go.Proofs.YtmjcnomgpikncaaGreatDoor

namespace Go.Proofs.YtmjcnomgpikncaaGreatDoor

open Go.RowKit Go.Deep Go.Proofs.YtmjcnomgpikncaaGreatDoorW.PrintWords



def Boxes (b:Nat) (c0 c1 c2 c3 c4 c5 c6 x0 x1 x2 x3 x4 x5 x6:Value) (W:World):Prop :=
  (W.cell? ⟨b,0,none⟩=some c0∧W.cell? ⟨b,1,none⟩=some c1∧W.cell? ⟨b,2,none⟩=some c2∧W.cell? ⟨b,3,none⟩=some c3∧W.cell? ⟨b,4,none⟩=some c4∧W.cell? ⟨b,5,none⟩=some c5∧W.cell? ⟨b,6,none⟩=some c6) ∧
    (W.cell? ⟨b+1,0,none⟩=some x0∧W.cell? ⟨b+1,1,none⟩=some x1∧W.cell? ⟨b+1,2,none⟩=some x2∧W.cell? ⟨b+1,3,none⟩=some x3∧W.cell? ⟨b+1,4,none⟩=some x4∧W.cell? ⟨b+1,5,none⟩=some x5∧W.cell? ⟨b+1,6,none⟩=some x6)

theorem boxes_at {w:World} {c0 c1 c2 c3 c4 c5 c6 x0 x1 x2 x3 x4 x5 x6:Value} {t1 t2:TypeId} {W:World} (h:Below (w.heap.size+1+1) ((w.alloc (.cells #[c0,c1,c2,c3,c4,c5,c6] t1)).alloc (.cells #[x0,x1,x2,x3,x4,x5,x6] t2)) W):Boxes w.heap.size c0 c1 c2 c3 c4 c5 c6 x0 x1 x2 x3 x4 x5 x6 W:=by
  have a1:((w.alloc (.cells #[c0,c1,c2,c3,c4,c5,c6] t1)).alloc (.cells #[x0,x1,x2,x3,x4,x5,x6] t2)).heap[w.heap.size]?=some (.cells #[c0,c1,c2,c3,c4,c5,c6] t1):=heap_alloc_old (heap_alloc_new _ _) _
  have a2:((w.alloc (.cells #[c0,c1,c2,c3,c4,c5,c6] t1)).alloc (.cells #[x0,x1,x2,x3,x4,x5,x6] t2)).heap[w.heap.size+1]?=some (.cells #[x0,x1,x2,x3,x4,x5,x6] t2):=heap_alloc_at (by simp) _
  have b1:=(h.block w.heap.size (by omega)).trans a1
  have b2:=(h.block (w.heap.size+1) (by omega)).trans a2
  exact ⟨⟨(cell_heap b1 0).trans rfl,(cell_heap b1 1).trans rfl,(cell_heap b1 2).trans rfl,(cell_heap b1 3).trans rfl,(cell_heap b1 4).trans rfl,(cell_heap b1 5).trans rfl,(cell_heap b1 6).trans rfl⟩,
    (cell_heap b2 0).trans rfl,(cell_heap b2 1).trans rfl,(cell_heap b2 2).trans rfl,(cell_heap b2 3).trans rfl,(cell_heap b2 4).trans rfl,(cell_heap b2 5).trans rfl,(cell_heap b2 6).trans rfl⟩

end Go.Proofs.YtmjcnomgpikncaaGreatDoor

namespace Go.Proofs.YtmjcnomgpikncaaGreatDoor

open Go.RowKit Go.Deep



set_option maxRecDepth 100000 in
set_option maxHeartbeats 1000000 in
theorem protocol_cmpC (plain rb sb:Bool) (ms ct fr:Int) (m:Nat) (w:World) :
    Calls Tryz.prog 45 #[confV 1 plain rb sb ms ct fr,memV m] w fun e w'=>∃ p cf K sc,e=.returned (cmpV p)∧w.heap.size≤p∧Cmp p (memV m) (memV m) cf CS0 sc w'∧CfgAt (cfgOf plain rb sb ms ct fr) cf K w'∧(∀ k,k∈K→w.heap.size≤k∧k≠p)∧Below w.heap.size w w':=by
  have hta:=mem_isRich
  cases plain with
  | true =>
    go_enter Tryz.func45,Tryz.ntmps45
    go_wp2
    refine bodyPost_ret (results_none rfl _ _ _) rfl ?_
    go_wp2
    go_ret
    obtain ⟨sc,hz,hl,h1⟩:=zeroCmp
    refine ⟨w.heap.size+1+1,.pointer none,[],sc,rfl,by omega,⟨?_,hl,h1⟩,.inl ⟨rfl,rfl,rfl⟩,by simp,?_⟩
    · refine (heap_alloc_at (by simp) _).trans ?_
      rw [hz];simp [CS.row]
    · exact (((Below.refl _ _).alloc (by simp) _).alloc (by simp <;> omega) _).alloc (by simp <;> omega) _
  | false =>
    have HC:=Lib.hid (cfg_given 1 rb sb ms ct fr)
    go_enter Tryz.func45,Tryz.ntmps45
    go_wp2_with (fail)
    refine (HC.out _).mono ?_
    rintro e W1 ⟨k,K,rfl,hc,hK,h5,hb⟩
    have h0:∃ x,W1.cell? ⟨k,0,none⟩=some x:=by
      rcases hc with ⟨h,_⟩ | ⟨_,k',r,s,_,he,_,_,_,h0,_⟩
      · cases h
      · cases he;exact ⟨_,h0⟩
    have HN:=Lib.hid (newCmp_given m k W1 h0 h5)
    have HCF:=Lib.hid hc
    have HB:=Lib.hid hb
    clear h0 h5 hc hb
    go_wp2_with (fail)
    ((with_reducible refine HN.out.mono ?_);rintro e W2 ⟨p,sc,rfl,hp,hB,hb2⟩)
    go_wp2
    go_ret
    have hz:=HB.out.size
    simp at hz
    refine ⟨p,_,K,sc,rfl,by omega,hB,HCF.out.step (Step.ofBelow (S:=[]) hb2) (by simp),fun j hj=>⟨?_,?_⟩,?_⟩
    · have:=hK j hj;simp at this;omega
    · have:=HCF.out.lt j hj;omega
    · exact ((Below.refl _ _).alloc (Nat.le_refl _) _).trans ((HB.out.mono (by simp)).trans (hb2.mono (by omega)))

end Go.Proofs.YtmjcnomgpikncaaGreatDoor

namespace Go.Proofs.YtmjcnomgpikncaaGreatDoor

open Go.RowKit Go.Deep



def encC (proto:Int) (c:Cfg) (l:List WOp):List UInt8 × Nat :=
  if proto=1 then ((runs cmpStep l (CW0,[])).1.2,(runs cmpStep l (CW0,[])).2) else (binAll c.strictW l,0)

structure OverMem (m:Nat) where
  P:PW
  s0:P.σ
  bytes:P.σ→List UInt8
  mem:∀ {S s w},P.Is S s w→∃ b g,Mem m b g 0 (Lib.byteCells (bytes s)) w∧m∈S∧b∈S∧g∈S
  room0:P.room s0=0

def OverMem.enc {m:Nat} (O:OverMem m) (l:List WOp):List UInt8 × Nat:=(O.bytes (runs O.P.run l O.s0).1,(runs O.P.run l O.s0).2)

def OBin (p m:Nat) (og cf:Value) (c:Cfg):OverMem m where
  P:=PBin p m og cf c
  s0:=([]:List UInt8)
  bytes:=fun s=>s
  mem:=fun h=>by
    obtain ⟨b,g,sc,K,rfl,hp,hM,hC,-⟩:=h
    exact ⟨b,g,hM,by simp,by simp,by simp⟩
  room0:=rfl

theorem OBin_enc (p m:Nat) (og cf:Value) (c:Cfg) (l:List WOp):(OBin p m og cf c).enc l=(binAll c.strictW l,0):=by
  have h:=bin_runs c.strictW l ([]:List UInt8)
  show ((runs (fun (s:List UInt8) (o:WOp)=>(s++binO c.strictW o,0)) l []).1,(runs (fun (s:List UInt8) (o:WOp)=>(s++binO c.strictW o,0)) l []).2)=_
  rw [h]
  rfl

def OCmp (p m:Nat) (og cf:Value) (c:Cfg):OverMem m where
  P:=PCmp p m og cf c
  s0:=(CW0,([]:List UInt8))
  bytes:=fun s=>s.2
  mem:=fun h=>by
    obtain ⟨⟨bv,bn,b,g,r,K,lf,nm,sc,rfl,hp,hM,hC,-⟩,-⟩:=h
    exact ⟨b,g,hM,by simp,by simp,by simp⟩
  room0:=rfl

theorem OCmp_enc (p m:Nat) (og cf:Value) (c:Cfg) (l:List WOp):(OCmp p m og cf c).enc l=((runs cmpStep l (CW0,[])).1.2,(runs cmpStep l (CW0,[])).2):=rfl

theorem protocol_C (proto:Int) (plain rb sb:Bool) (ms ct fr:Int) (m b:Nat) (w:World) (hM:Mem m b b 0 [] w) :
    Calls Tryz.prog 45 #[confV proto plain rb sb ms ct fr,memV m] w fun e w'=>∃ (O:OverMem m) (S:List Nat),e=.returned (.iface O.P.ty O.P.ptr)∧(∀ l,O.enc l=encC proto (cfgOf plain rb sb ms ct fr) l)∧O.P.Is S O.s0 w' ∧
      (∀ k,k∈S→k=m∨k=b∨w.heap.size≤k)∧Below w.heap.size w w':=by
  have hml:=hM.lt
  have hbl:=hM.2.2.2.lt.1
  by_cases hpr:proto=1
  · subst hpr
    refine (protocol_cmpC plain rb sb ms ct fr m w).mono ?_
    rintro e w' ⟨p,cf,K,sc,rfl,hp,hP,hC,hK,hB⟩
    have hM':=Mem.step hM (Step.ofBelow (S:=[]) hB) (by simp) (by simp) (by simp)
    refine ⟨OCmp p m (memV m) cf (cfgOf plain rb sb ms ct fr),p :: m :: b :: b :: p :: K,rfl,fun l=>by rw [OCmp_enc,encC,if_pos rfl],⟨⟨false,false,b,b,p,K,.slice none 0 0,.string ByteArray.empty,sc,rfl,hP,hM',hC,.inl ⟨rfl,rfl,rfl⟩,by omega,by omega,fun k hk=>?_⟩,okW_0⟩,fun k hk=>?_,hB⟩
    · have:=hK k hk
      omega
    · simp only [List.mem_cons] at hk
      rcases hk with rfl | rfl | rfl | rfl | rfl | hk
      · exact .inr (.inr hp)
      · exact .inl rfl
      · exact .inr (.inl rfl)
      · exact .inr (.inl rfl)
      · exact .inr (.inr hp)
      · exact .inr (.inr (hK k hk).1)
  · refine (protocol_binC proto hpr plain rb sb ms ct fr m w).mono ?_
    rintro e w' ⟨p,cf,K,sc,rfl,hp,hP,hC,hK,hB⟩
    have hM':=Mem.step hM (Step.ofBelow (S:=[]) hB) (by simp) (by simp) (by simp)
    refine ⟨OBin p m (memV m) cf (cfgOf plain rb sb ms ct fr),p :: m :: b :: b :: K,rfl,fun l=>by rw [OBin_enc,encC,if_neg hpr],⟨b,b,sc,K,rfl,hP,hM',hC,by omega,by omega,by omega,fun k hk=>?_⟩,fun k hk=>?_,hB⟩
    · have:=hK k hk
      omega
    · simp only [List.mem_cons] at hk
      rcases hk with rfl | rfl | rfl | rfl | hk
      · exact .inr (.inr hp)
      · exact .inl rfl
      · exact .inr (.inl rfl)
      · exact .inr (.inl rfl)
      · exact .inr (.inr (hK k hk).1)

end Go.Proofs.YtmjcnomgpikncaaGreatDoor

namespace Go.Proofs.YtmjcnomgpikncaaGreatDoor

open Go.RowKit Go.Deep Go.Proofs.YtmjcnomgpikncaaGreatDoorW.PrintWords



set_option maxRecDepth 100000 in
set_option maxHeartbeats 4000000 in
theorem Put_C (V:Val) (hw:wfV V) (proto:Int) (plain rb sb:Bool) (ms ct fr:Int) (x0 x1 x2 x3 x4 x5 x6:Value) (w:World) (hK:kVal.K w V [x0,x1,x2,x3,x4,x5,x6]) (hr:costs (ops V)≤70368744177664) (h0:(encC proto (cfgOf plain rb sb ms ct fr) (ops V)).2=0) :
    Calls Tryz.prog 17 #[confV proto plain rb sb ms ct fr,.agg #[x0,x1,x2,x3,x4,x5,x6]] w fun e w'=>∃ v k,e=.returned (.tuple #[v,.int .i64 0])∧w.heap.size≤k∧IsB (Lib.byteCells (encC proto (cfgOf plain rb sb ms ct fr) (ops V)).1) v k w'∧Below w.heap.size w w':=by
  have HKV:=Lib.hid hK
  have HBX:=Lib.hid (fun W h=>@boxes_at w (.int .i64 proto) (.bool plain) (.bool rb) (.bool sb) (.int .i32 ms) (.int .i32 ct) (.int .i32 fr) x0 x1 x2 x3 x4 x5 x6 23 28 W h)
  have HPR:=Lib.hid (fun m b W=>protocol_C proto plain rb sb ms ct fr m b W)
  have H0:=Lib.hid h0
  clear hK h0
  go_enter Tryz.func17,Tryz.ntmps17
  go_wp2_with (go_at_call 43;refine (newMem _).mono ?_)
  rintro e W1 ⟨m,b,rfl,hm,hb,hM,hB⟩
  replace hm:w.heap.size+1+1≤m:=by simpa using hm
  replace hb:w.heap.size+1+1≤b:=by simpa using hb
  rw [show ∀ (x y:Obj),((w.alloc x).alloc y).heap.size=w.heap.size+1+1 from fun x y=>by simp] at hB
  have hw1:Below w.heap.size w W1:=(((Below.refl _ w).alloc (Nat.le_refl _) _).alloc (by simp) _).trans (hB.mono (by omega))
  have HM:=Lib.hid hM
  have HB:=Lib.hid hB
  have HW1:=Lib.hid hw1
  have hml:=hM.lt
  have hbl:=hM.2.2.2.lt.1
  have hbs:=hB.size
  simp at hbs
  clear hM hB hw1
  go_wp2_with (fail)
  go_region_held3 (fun W'=>(W'.cell? ⟨w.heap.size,0,none⟩=some (.int .i64 proto)∧W'.cell? ⟨w.heap.size,1,none⟩=some (.bool plain)∧W'.cell? ⟨w.heap.size,2,none⟩=some (.bool rb)∧W'.cell? ⟨w.heap.size,3,none⟩=some (.bool sb)∧W'.cell? ⟨w.heap.size,4,none⟩=some (.int .i32 ms)∧W'.cell? ⟨w.heap.size,5,none⟩=some (.int .i32 ct)∧W'.cell? ⟨w.heap.size,6,none⟩=some (.int .i32 fr))∧W'.cell? ⟨w.heap.size+1,0,none⟩=some x0∧W'.cell? ⟨w.heap.size+1,1,none⟩=some x1∧W'.cell? ⟨w.heap.size+1,2,none⟩=some x2∧W'.cell? ⟨w.heap.size+1,3,none⟩=some x3∧W'.cell? ⟨w.heap.size+1,4,none⟩=some x4∧W'.cell? ⟨w.heap.size+1,5,none⟩=some x5∧W'.cell? ⟨w.heap.size+1,6,none⟩=some x6) (first | exact HBX.out _ HB.out | exact HBX.out _ HB.out.drew | exact HBX.out _ HB2.out | exact HBX.out _ HB3.out)
    (first
      | (go_at_call 45;refine (HPR.out m b _ (show Mem m b b 0 [] W1.drew from HM.out)).mono ?_;rintro e W2 ⟨O,S2,rfl,hE2,hI2,hS2,hB2⟩;have HB2:=Lib.hid (HB.out.drew.trans (hB2.mono (show w.heap.size+1+1≤W1.heap.size from hbs)));have HW2:=Lib.hid (HW1.out.drew.trans (hB2.mono (show w.heap.size≤W1.heap.size by omega)));have HI:=Lib.hid hI2;have hown:∀ k,k∈S2→w.heap.size+1+1≤k:=(fun k hk=>by rcases hS2 k hk with h | h | h;omega;omega;exact Nat.le_trans hbs h);have HO:=Lib.hid (put_any O.P w V hw S2 O.s0 W2 _ HI.out (fun k hk=>by have:=hown k hk;omega) HW2.out HKV.out (by rw [O.room0];omega));have HOWN:=Lib.hid hown;have HE2:=Lib.hid hE2;clear hB2 hI2 hS2 hE2 hown)
      | (go_at_call 44;refine HO.out.mono ?_;rintro e W3 ⟨ev,S3,rfl,he,hI3,hs⟩;have HB3:=Lib.hid (HB2.out.trans (hs.below _ (Nat.le_trans (by simp) HB2.out.size) HOWN.out));have HI3:=Lib.hid hI3;have HE3:=Lib.hid he;have HS3:=Lib.hid hs;clear hs hI3 he))
  have he:=HE3.out
  rw [show (runs O.P.run (ops V) O.s0).2=0 from by have h1:=HE2.out (ops V);unfold OverMem.enc at h1;have h2:=congrArg Prod.snd h1;exact h2.trans H0.out] at he
  obtain rfl:=he.zero
  obtain ⟨b3,g3,hM3,-,-,hg3⟩:=O.mem HI3.out
  rw [show O.bytes (runs O.P.run (ops V) O.s0).1=(encC proto (cfgOf plain rb sb ms ct fr) (ops V)).1 from by have h1:=HE2.out (ops V);unfold OverMem.enc at h1;exact congrArg Prod.fst h1] at hM3
  have hgo:w.heap.size≤g3:=by
    rcases HS3.out.own g3 hg3 with hh | hh
    · have:=HOWN.out g3 hh;omega
    · have:=HW2.out.size;omega
  have hbw:Below w.heap.size w W3:=HW2.out.trans (HS3.out.below _ HW2.out.size (fun k hk=>by have:=HOWN.out k hk;omega))
  have HM3:=Lib.hid hM3
  have HBW:=Lib.hid hbw
  have cm3:=hM3.cell
  clear he hM3 hg3 hbw
  go_wp2_with (go_at_call 46;refine (buf_bytes b3 g3 _ _ HM3.out.2.2.2).mono ?_)
  rintro e W4 ⟨v,rfl,hv,n,rfl⟩
  go_wp2_with (go_at_call 47;refine (kind_nil _).mono ?_;rintro e w' ⟨rfl,rfl⟩)
  go_ret2
  exact ⟨v,g3,rfl,hgo,hv,below_drewN HBW.out n⟩

end Go.Proofs.YtmjcnomgpikncaaGreatDoor

namespace Go.Proofs.YtmjcnomgpikncaaGreatDoor

open Go.RowKit



theorem enc_len (proto:Int) (c:Cfg) (l:List WOp):(encC proto c l).1.length≤costs l:=by
  unfold encC
  by_cases hp:proto=1
  · rw [if_pos hp]
    have h:=(PCmp 0 0 .nilIface .nilIface c).grows l (CW0,([]:List UInt8))
    have h':cmpRoom (runs cmpStep l (CW0,[])).1≤cmpRoom (CW0,[])+costs l:=h
    unfold cmpRoom at h'
    simp only [CW0,List.length_nil] at h' ⊢
    omega
  · rw [if_neg hp]
    have h:=(PBin 0 0 .nilIface .nilIface c).grows l ([]:List UInt8)
    have h':(runs (fun (s:List UInt8) (o:WOp)=>(s++binO c.strictW o,0)) l []).1.length≤0+costs l:=h
    rw [bin_runs] at h'
    simpa using h'

end Go.Proofs.YtmjcnomgpikncaaGreatDoor
