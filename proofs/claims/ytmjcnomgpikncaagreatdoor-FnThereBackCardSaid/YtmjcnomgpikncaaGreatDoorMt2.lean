/- The binary protocol: bytes, fields, containers are read. No condition. -/
import Derived.Test.YtmjcnomgpikncaaGreatDoorMt1
import Derived.Test.YtmjcnomgpikncaaGreatDoorMc
set_option linter.unusedVariables false
set_option linter.unusedSimpArgs false
namespace Go.Proofs.YtmjcnomgpikncaaGreatDoor

open Go.RowKit Go.Deep



theorem results_tmp4 {fn:Func} {t u v x:Tmp} (h:fn.results=#[.tmp t,.tmp u,.tmp v,.tmp x]) (tmps:Array Value) (P:Program) (w:World) :
    (results fn tmps).run P w=.ok (.tuple #[tmps.getD t undef,tmps.getD u undef,tmps.getD v undef,tmps.getD x undef]) w:=by
  simp [results,h]

theorem Buf.le {b g off:Nat} {bs:List Value} {w:World} (h:Buf b g off bs w):bs.length < 9223372036854775808:=by
  obtain ⟨lr,⟨_,_,_,rfl⟩ | ⟨cap,cur,_,_,_,h1,h2,_⟩⟩:=h
  · simp
  · unfold maxLen at h2;omega

theorem BR.le {p m:Nat} {og cf:Value} {c:Cfg} {S:List Nat} {l:List UInt8} {w:World} (h:BR p m og cf c S l w):l.length < 9223372036854775808:=by
  obtain ⟨b,g,off,sc,K,rfl,hp,hm,hC,hd,hK⟩:=h
  have:=hm.2.2.2.le
  rwa [Lib.byteCells_length] at this

theorem BR.cfg {p m:Nat} {og cf:Value} {c:Cfg} {S:List Nat} {l:List UInt8} {w:World} (h:BR p m og cf c S l w):∃ K,CfgAt c cf K w:=by
  obtain ⟨b,g,off,sc,K,rfl,hp,hm,hC,hd,hK⟩:=h
  exact ⟨K,hC⟩

theorem BR.cell0 {p m:Nat} {og cf:Value} {c:Cfg} {S:List Nat} {l:List UInt8} {w:World} (h:BR p m og cf c S l w):w.cell? ⟨p,0,none⟩=some (memV m)∧w.cell? ⟨p,2,none⟩=some cf:=by
  obtain ⟨b,g,off,sc,K,rfl,hp,hm,hC,hd,hK⟩:=h
  exact ⟨by rw [hp.cells];rfl,by rw [hp.cells];rfl⟩

set_option maxRecDepth 100000 in
set_option maxHeartbeats 1000000 in
theorem mem_left {m b g off:Nat} {bs:List Value} {w:World} (h:Mem m b g off bs w):Calls Tryz.prog 315 #[.pointer (some ⟨m,0,none⟩)] w fun e w'=>e=.returned (.int .u64 bs.length)∧∃ n,w'=w.drewN n:=by
  have cm:=h.cell
  have hle:=h.2.2.2.le
  have HB:=Lib.hid (buf_left b g off bs w h.2.2.2)
  have hu:IntKind.u64.wrap (bs.length:Int)=bs.length:=by rw [IntKind.wrap_u64];omega
  clear h
  go_enter Tryz.func315,Tryz.ntmps315
  go_wp2_with (go_at_call 51;refine HB.out.mono ?_)
  rintro e w' ⟨rfl,n,rfl⟩
  go_wp2
  (first | go_ret | go_ret2)
  exact ⟨rfl,n,rfl⟩

theorem br_left {p m:Nat} {og cf:Value} {c:Cfg} {S:List Nat} {l:List UInt8} {w:World} (h:BR p m og cf c S l w):Calls Tryz.prog 315 #[.pointer (some ⟨m,0,none⟩)] w fun e w'=>e=.returned (.int .u64 l.length)∧∃ n,w'=w.drewN n:=by
  obtain ⟨b,g,off,sc,K,rfl,hp,hm,hC,hd,hK⟩:=h
  have:=mem_left hm
  rwa [Lib.byteCells_length] at this

set_option maxRecDepth 100000 in
set_option maxHeartbeats 1000000 in
theorem br_byte {p m:Nat} {og cf:Value} {c:Cfg} {S:List Nat} {x:UInt8} {l:List UInt8} {w:World} (h:BR p m og cf c S (x :: l) w) :
    Calls Tryz.prog 207 #[.pointer (some ⟨p,0,none⟩),ctxV] w (RD (BR p m og cf c) S w (.tuple #[.int .i8 (i8w x),.nilIface]) l):=by
  obtain ⟨b,g,off,sc,K,rfl,hp,hm,hC,hd,hK⟩:=h
  have c0:w.cell? ⟨p,0,none⟩=some (memV m):=by rw [hp.cells];rfl
  have cm:=hm.cell
  have hmeth:=mem_ReadByte
  have hnil:=mem_nil_ReadByte
  have HB:=Lib.hid (buf_readByte b g off (.int .u8 (x.toNat:Nat)) (Lib.byteCells l) w hm.2.2.2)
  have HP:=Lib.hid hp
  have HM:=Lib.hid hm
  obtain ⟨y,hy⟩:∃ y,i8w x=y:=⟨_,rfl⟩
  have hy2:IntKind.i8.wrap (x.toNat:Int)=y:=hy
  rw [hy]
  clear hp hm hy
  go_enter Tryz.func207,Tryz.ntmps207
  go_wp2_with (go_at_call 112;refine HB.out.mono ?_)
  rintro e W1 ⟨rfl,hB,hs⟩
  go_wp2
  go_ret2
  have hT:=BR.took hC hd hK (HP.out.step hs (by simp [hd.2.1])) (HM.out.took hB hs (by simp [HM.out.2.1])) (hs.more (by simp) (fun k hk=>.inr (.inl hk)))
  exact ⟨_,rfl,hT.1,hT.2⟩

theorem br_msgE {p m:Nat} {og cf:Value} {c:Cfg} {S:List Nat} {l:List UInt8} {w:World} (h:BR p m og cf c S l w) :
    Calls Tryz.prog 219 #[.pointer (some ⟨p,0,none⟩),ctxV] w (RD (BR p m og cf c) S w .nilIface l):=by
  go_enter Tryz.func219,Tryz.ntmps219
  go_wp2
  (first | (go_ret;exact ⟨_,rfl,h,Step.refl _ _⟩) | (go_ret2;exact ⟨_,rfl,h,Step.refl _ _⟩))

theorem br_strE {p m:Nat} {og cf:Value} {c:Cfg} {S:List Nat} {l:List UInt8} {w:World} (h:BR p m og cf c S l w) :
    Calls Tryz.prog 224 #[.pointer (some ⟨p,0,none⟩),ctxV] w (RD (BR p m og cf c) S w .nilIface l):=by
  go_enter Tryz.func224,Tryz.ntmps224
  go_wp2
  (first | (go_ret;exact ⟨_,rfl,h,Step.refl _ _⟩) | (go_ret2;exact ⟨_,rfl,h,Step.refl _ _⟩))

theorem br_fldE {p m:Nat} {og cf:Value} {c:Cfg} {S:List Nat} {l:List UInt8} {w:World} (h:BR p m og cf c S l w) :
    Calls Tryz.prog 210 #[.pointer (some ⟨p,0,none⟩),ctxV] w (RD (BR p m og cf c) S w .nilIface l):=by
  go_enter Tryz.func210,Tryz.ntmps210
  go_wp2
  (first | (go_ret;exact ⟨_,rfl,h,Step.refl _ _⟩) | (go_ret2;exact ⟨_,rfl,h,Step.refl _ _⟩))

theorem br_mapE {p m:Nat} {og cf:Value} {c:Cfg} {S:List Nat} {l:List UInt8} {w:World} (h:BR p m og cf c S l w) :
    Calls Tryz.prog 217 #[.pointer (some ⟨p,0,none⟩),ctxV] w (RD (BR p m og cf c) S w .nilIface l):=by
  go_enter Tryz.func217,Tryz.ntmps217
  go_wp2
  (first | (go_ret;exact ⟨_,rfl,h,Step.refl _ _⟩) | (go_ret2;exact ⟨_,rfl,h,Step.refl _ _⟩))

theorem br_lstE {p m:Nat} {og cf:Value} {c:Cfg} {S:List Nat} {l:List UInt8} {w:World} (h:BR p m og cf c S l w) :
    Calls Tryz.prog 215 #[.pointer (some ⟨p,0,none⟩),ctxV] w (RD (BR p m og cf c) S w .nilIface l):=by
  go_enter Tryz.func215,Tryz.ntmps215
  go_wp2
  (first | (go_ret;exact ⟨_,rfl,h,Step.refl _ _⟩) | (go_ret2;exact ⟨_,rfl,h,Step.refl _ _⟩))

theorem br_setE {p m:Nat} {og cf:Value} {c:Cfg} {S:List Nat} {l:List UInt8} {w:World} (h:BR p m og cf c S l w) :
    Calls Tryz.prog 221 #[.pointer (some ⟨p,0,none⟩),ctxV] w (RD (BR p m og cf c) S w .nilIface l):=by
  go_enter Tryz.func221,Tryz.ntmps221
  go_wp2
  (first | (go_ret;exact ⟨_,rfl,h,Step.refl _ _⟩) | (go_ret2;exact ⟨_,rfl,h,Step.refl _ _⟩))

theorem br_strB {p m:Nat} {og cf:Value} {c:Cfg} {S:List Nat} {l:List UInt8} {w:World} (h:BR p m og cf c S l w) :
    Calls Tryz.prog 223 #[.pointer (some ⟨p,0,none⟩),ctxV] w (RD (BR p m og cf c) S w (.tuple #[.string ByteArray.empty,.nilIface]) l):=by
  go_enter Tryz.func223,Tryz.ntmps223
  go_wp2
  (first | (go_ret;exact ⟨_,rfl,h,Step.refl _ _⟩) | (go_ret2;exact ⟨_,rfl,h,Step.refl _ _⟩))

set_option maxRecDepth 100000 in
set_option maxHeartbeats 1000000 in
theorem br_bool {p m:Nat} {og cf:Value} {c:Cfg} {S:List Nat} {x:UInt8} {l:List UInt8} {w:World} (h:BR p m og cf c S (x :: l) w) :
    Calls Tryz.prog 206 #[.pointer (some ⟨p,0,none⟩),ctxV] w (RD (BR p m og cf c) S w (.tuple #[.bool (decide (x=1)),.nilIface]) l):=by
  have HB:=Lib.hid (br_byte h)
  obtain ⟨y,hy⟩:∃ y,i8w x=y:=⟨_,rfl⟩
  rw [hy] at HB
  by_cases hx:x=1
  · have h1:y=1:=by rw [← hy,hx];rfl
    rw [decide_eq_true hx]
    clear h hy hx
    go_enter Tryz.func206,Tryz.ntmps206
    go_wp2_with (fail)
    refine HB.out.mono ?_
    rintro e W1 ⟨S1,rfl,hI,hs⟩
    go_wp2
    go_ret2
    exact ⟨_,rfl,hI,hs⟩
  · have h1:¬ y=1:=by
      intro e
      apply hx
      have h2:IntKind.i8.wrap (x.toNat:Int)=1:=hy.trans e
      rw [wrap_i8] at h2
      have h3:=x.toNat_lt
      apply UInt8.toNat_inj.1
      show x.toNat=1
      omega
    rw [decide_eq_false hx]
    clear h hy hx
    go_enter Tryz.func206,Tryz.ntmps206
    go_wp2_with (fail)
    refine HB.out.mono ?_
    rintro e W1 ⟨S1,rfl,hI,hs⟩
    go_wp2
    go_ret2
    exact ⟨_,rfl,hI,hs⟩

theorem i8_u8 (x:UInt8):IntKind.u8.wrap (i8w x)=(x.toNat:Int):=by
  have h3:=x.toNat_lt
  unfold i8w
  rw [wrap_i8,IntKind.wrap_u8]
  omega

theorem i8_zero (x:UInt8):i8w x=0↔x=0:=by
  have h3:=x.toNat_lt
  unfold i8w
  rw [wrap_i8]
  constructor
  · intro h
    apply UInt8.toNat_inj.1
    show x.toNat=0
    omega
  · rintro rfl
    rfl

set_option maxRecDepth 100000 in
set_option maxHeartbeats 1000000 in
theorem br_stop {p m:Nat} {og cf:Value} {c:Cfg} {S:List Nat} {l:List UInt8} {w:World} (h:BR p m og cf c S (0 :: l) w) :
    Calls Tryz.prog 209 #[.pointer (some ⟨p,0,none⟩),ctxV] w (RD (BR p m og cf c) S w (.tuple #[.string ByteArray.empty,.int .u8 0,.int .i16 0,.nilIface]) l):=by
  have HB:=Lib.hid (br_byte h)
  rw [show i8w 0=0 from rfl] at HB
  clear h
  go_enter Tryz.func209,Tryz.ntmps209
  go_wp2_with (fail)
  refine HB.out.mono ?_
  rintro e W1 ⟨S1,rfl,hI,hs⟩
  go_wp2
  (try simp only [Exit.inBlock,Exit.then])
  refine bodyPost_ret (results_tmp4 rfl _ _ _) rfl ?_
  exact ⟨_,rfl,hI,hs⟩

set_option maxRecDepth 100000 in
set_option maxHeartbeats 1000000 in
theorem br_fldB {p m:Nat} {og cf:Value} {c:Cfg} {S:List Nat} {x b0 b1:UInt8} {l:List UInt8} {w:World} (h:BR p m og cf c S (x :: b0 :: b1 :: l) w) (hx:x≠0) :
    Calls Tryz.prog 209 #[.pointer (some ⟨p,0,none⟩),ctxV] w (RD (BR p m og cf c) S w (.tuple #[.string ByteArray.empty,.int .u8 (x.toNat:Nat),.int .i16 (i16w [b0,b1]),.nilIface]) l):=by
  have HB:=Lib.hid (br_byte h)
  have hu:=i8_u8 x
  obtain ⟨y,hy⟩:∃ y,i8w x=y:=⟨_,rfl⟩
  have h1:¬ y=0:=by rw [← hy];exact fun e=>hx ((i8_zero x).1 e)
  rw [hy] at HB hu
  have hi:i16w [b0,b1]=IntKind.i16.wrap (Lib.beNat [b0,b1]:Int):=rfl
  clear h hy hx
  go_enter Tryz.func209,Tryz.ntmps209
  go_wp2_with (fail)
  refine HB.out.mono ?_
  rintro e W1 ⟨S1,rfl,hI,hs⟩
  have H2:=Lib.hid (br_i16 hI)
  rw [← hi] at H2
  clear hI
  go_wp2_with (fail)
  refine H2.out.mono ?_
  rintro e W2 ⟨S2,rfl,hI,hs2⟩
  go_wp2
  (try simp only [Exit.inBlock,Exit.then])
  refine bodyPost_ret (results_tmp4 rfl _ _ _) rfl ?_
  exact ⟨_,rfl,hI,hs.trans hs2⟩

theorem br_check {p m:Nat} {og cf:Value} {c:Cfg} {S:List Nat} {l:List UInt8} {w:World} (h:BR p m og cf c S l w) (hf:c.fit) (n mn:Int) (hn:-9223372036854775808≤n∧n < 9223372036854775808) (hm:1≤mn∧mn≤64) :
    ∀ W,Step [] [] w W→Calls Tryz.prog 188 #[.int .i64 n,.int .i32 mn,.int .u64 (l.length:Nat),cf] W (Checks (contK c n mn l.length) W):=fun W hW=>by
  obtain ⟨K,hC⟩:=(h.step hW (by simp)).cfg
  exact check_container hC hf n mn l.length hn hm h.le

set_option maxRecDepth 100000 in
set_option maxHeartbeats 2000000 in
theorem br_lstB {p m:Nat} {og cf:Value} {c:Cfg} {S:List Nat} {x b0 b1 b2 b3:UInt8} {l:List UInt8} {w:World} (h:BR p m og cf c S (x :: b0 :: b1 :: b2 :: b3 :: l) w) (hf:c.fit) :
    Calls Tryz.prog 214 #[.pointer (some ⟨p,0,none⟩),ctxV] w (Told (BR p m og cf c) .lstB S w (if contK c (wrap32 (Lib.beNat [b0,b1,b2,b3])) (minB x.toNat) l.length=0 then { t:=x.toNat,size:=wrap32 (Lib.beNat [b0,b1,b2,b3]) } else { t:=x.toNat },contK c (wrap32 (Lib.beNat [b0,b1,b2,b3])) (minB x.toNat) l.length,l)):=by
  have HB:=Lib.hid (br_byte h)
  have hu:=i8_u8 x
  obtain ⟨y,hy⟩:∃ y,i8w x=y:=⟨_,rfl⟩
  rw [hy] at HB hu
  have hx:=x.toNat_lt
  have HMn:=Lib.hid (fun p w=>minBin_any p (x.toNat:Int) (by omega) (by omega) w)
  have hmb:=minB_range (x.toNat:Int)
  obtain ⟨mn,hmn⟩:∃ mn,minB (x.toNat:Int)=mn:=⟨_,rfl⟩
  rw [hmn] at HMn hmb ⊢
  obtain ⟨n,hn⟩:∃ n,wrap32 (Lib.beNat [b0,b1,b2,b3])=n:=⟨_,rfl⟩
  have hnr:-2147483648≤n∧n < 2147483648:=by rw [← hn];unfold wrap32;omega
  have hnw:IntKind.i64.wrap n=n:=by rw [IntKind.wrap_i64];omega
  rw [hn]
  obtain ⟨k,hk⟩:∃ k,contK c n mn l.length=k:=⟨_,rfl⟩
  rw [hk]
  obtain ⟨G,hG⟩:∃ G:RGot,(if k=0 then { t:=x.toNat,size:=n } else { t:=x.toNat })=G:=⟨_,rfl⟩
  rw [hG]
  have HG:=Lib.hid hG
  clear hG
  have hmeth:=mem_RemainingBytes
  have hnil:=mem_nil_RemainingBytes
  clear h hy hmn
  go_enter Tryz.func214,Tryz.ntmps214
  go_wp2_with (fail)
  refine HB.out.mono ?_
  rintro e W1 ⟨S1,rfl,hI,hs⟩
  have H2:=Lib.hid (br_i32 hI)
  rw [hn] at H2
  clear hI HB
  go_wp2_with (fail)
  refine H2.out.mono ?_
  rintro e W2 ⟨S2,rfl,hI,hs2⟩
  have HI:=Lib.hid hI
  have HCK:=Lib.hid (br_check hI hf n mn (by omega) (by omega))
  rw [hk] at HCK
  have HL:=Lib.hid (fun W (hW:Step [] [] W2 W)=>br_left (hI.step hW (by simp)))
  obtain ⟨c0,c2⟩:=hI.cell0
  have HS:=Lib.hid (hs.trans hs2)
  clear hI H2 hs hs2
  go_wp2_with (refine (HMn.out _ _).mono ?_;rintro e w' ⟨rfl,rfl⟩)
  go_region_held3 (fun W'=>W'.cell? ⟨p,0,none⟩=some (memV m)∧W'.cell? ⟨p,2,none⟩=some cf) (first | exact ⟨c0,c2⟩ | exact ⟨d0,d2⟩ | (simp [go_sem, *];done))
    (first
      | (go_at_call 315;refine (HL.out _ ?_).mono ?_;(repeat (first | (with_reducible exact Step.refl _ _) | (with_reducible refine Step.drew ?_) | (with_reducible refine Step.drewN ?_ _)));rintro e w' ⟨rfl,nn,rfl⟩)
      | (go_at_call 188;refine (HCK.out _ ?_).mono ?_;(repeat (first | (with_reducible exact Step.refl _ _) | (with_reducible refine Step.drew ?_) | (with_reducible refine Step.drewN ?_ _)));rintro e W3 ⟨ev,rfl,he,hb⟩;have hs3:=Step.trans (a:=W2) (S:=[]) (T:=[]) (U:=[]) (by (repeat (first | (with_reducible exact Step.refl _ _) | (with_reducible refine Step.drew ?_) | (with_reducible refine Step.drewN ?_ _)))) (Step.ofBelow (S:=[]) hb);have hI3:=HI.out.step hs3 (by simp);obtain ⟨d0,d2⟩:=hI3.cell0;have HI3:=Lib.hid hI3;have HS3:=Lib.hid hs3;have HE:=Lib.hid he;clear hI3 hs3 hb he))
  have HTR:=Lib.hid (HS.out.trans (HS3.out.more (S1:=S2) (T1:=S2) (by simp) (fun k hk=>.inr (.inl hk))))
  by_cases hk0:k=0
  · have hG1:G={ t:=x.toNat,size:=n }:=by have:=HG.out;rw [if_pos hk0] at this;exact this.symm
    have he0:=HE.out
    rw [hk0] at he0
    obtain rfl:=he0.zero
    clear he0 HE HG
    go_wp2
    (try simp only [Exit.inBlock,Exit.then])
    refine bodyPost_ret (results_tmp3 rfl _ _ _) rfl ?_
    exact ⟨.nilIface,S2,by rw [hG1];rfl,by rw [hk0];exact IsErr.nil _,HI3.out,HTR.out⟩
  · have hG1:G={ t:=x.toNat }:=by have:=HG.out;rw [if_neg hk0] at this;exact this.symm
    rcases HE.out with ⟨h0,_⟩ | he
    · exact absurd h0 hk0
    have HE2:=Lib.hid he
    obtain ⟨bb,t,er,ms,hk1,hk2,rfl,hbb⟩:=he
    clear hk1 hk2 hbb HE HG
    go_wp2
    (try simp only [Exit.inBlock,Exit.then])
    refine bodyPost_ret (results_tmp3 rfl _ _ _) rfl ?_
    exact ⟨_,S2,by rw [hG1];rfl,.inr HE2.out,HI3.out,HTR.out⟩

set_option maxRecDepth 100000 in
set_option maxHeartbeats 2000000 in
theorem br_setB {p m:Nat} {og cf:Value} {c:Cfg} {S:List Nat} {x b0 b1 b2 b3:UInt8} {l:List UInt8} {w:World} (h:BR p m og cf c S (x :: b0 :: b1 :: b2 :: b3 :: l) w) (hf:c.fit) :
    Calls Tryz.prog 220 #[.pointer (some ⟨p,0,none⟩),ctxV] w (Told (BR p m og cf c) .setB S w (if contK c (wrap32 (Lib.beNat [b0,b1,b2,b3])) (minB x.toNat) l.length=0 then { t:=x.toNat,size:=wrap32 (Lib.beNat [b0,b1,b2,b3]) } else { t:=x.toNat },contK c (wrap32 (Lib.beNat [b0,b1,b2,b3])) (minB x.toNat) l.length,l)):=by
  have HB:=Lib.hid (br_byte h)
  have hu:=i8_u8 x
  obtain ⟨y,hy⟩:∃ y,i8w x=y:=⟨_,rfl⟩
  rw [hy] at HB hu
  have hx:=x.toNat_lt
  have HMn:=Lib.hid (fun p w=>minBin_any p (x.toNat:Int) (by omega) (by omega) w)
  have hmb:=minB_range (x.toNat:Int)
  obtain ⟨mn,hmn⟩:∃ mn,minB (x.toNat:Int)=mn:=⟨_,rfl⟩
  rw [hmn] at HMn hmb ⊢
  obtain ⟨n,hn⟩:∃ n,wrap32 (Lib.beNat [b0,b1,b2,b3])=n:=⟨_,rfl⟩
  have hnr:-2147483648≤n∧n < 2147483648:=by rw [← hn];unfold wrap32;omega
  have hnw:IntKind.i64.wrap n=n:=by rw [IntKind.wrap_i64];omega
  rw [hn]
  obtain ⟨k,hk⟩:∃ k,contK c n mn l.length=k:=⟨_,rfl⟩
  rw [hk]
  obtain ⟨G,hG⟩:∃ G:RGot,(if k=0 then { t:=x.toNat,size:=n } else { t:=x.toNat })=G:=⟨_,rfl⟩
  rw [hG]
  have HG:=Lib.hid hG
  clear hG
  have hmeth:=mem_RemainingBytes
  have hnil:=mem_nil_RemainingBytes
  clear h hy hmn
  go_enter Tryz.func220,Tryz.ntmps220
  go_wp2_with (fail)
  refine HB.out.mono ?_
  rintro e W1 ⟨S1,rfl,hI,hs⟩
  have H2:=Lib.hid (br_i32 hI)
  rw [hn] at H2
  clear hI HB
  go_wp2_with (fail)
  refine H2.out.mono ?_
  rintro e W2 ⟨S2,rfl,hI,hs2⟩
  have HI:=Lib.hid hI
  have HCK:=Lib.hid (br_check hI hf n mn (by omega) (by omega))
  rw [hk] at HCK
  have HL:=Lib.hid (fun W (hW:Step [] [] W2 W)=>br_left (hI.step hW (by simp)))
  obtain ⟨c0,c2⟩:=hI.cell0
  have HS:=Lib.hid (hs.trans hs2)
  clear hI H2 hs hs2
  go_wp2_with (refine (HMn.out _ _).mono ?_;rintro e w' ⟨rfl,rfl⟩)
  go_region_held3 (fun W'=>W'.cell? ⟨p,0,none⟩=some (memV m)∧W'.cell? ⟨p,2,none⟩=some cf) (first | exact ⟨c0,c2⟩ | exact ⟨d0,d2⟩ | (simp [go_sem, *];done))
    (first
      | (go_at_call 315;refine (HL.out _ ?_).mono ?_;(repeat (first | (with_reducible exact Step.refl _ _) | (with_reducible refine Step.drew ?_) | (with_reducible refine Step.drewN ?_ _)));rintro e w' ⟨rfl,nn,rfl⟩)
      | (go_at_call 188;refine (HCK.out _ ?_).mono ?_;(repeat (first | (with_reducible exact Step.refl _ _) | (with_reducible refine Step.drew ?_) | (with_reducible refine Step.drewN ?_ _)));rintro e W3 ⟨ev,rfl,he,hb⟩;have hs3:=Step.trans (a:=W2) (S:=[]) (T:=[]) (U:=[]) (by (repeat (first | (with_reducible exact Step.refl _ _) | (with_reducible refine Step.drew ?_) | (with_reducible refine Step.drewN ?_ _)))) (Step.ofBelow (S:=[]) hb);have hI3:=HI.out.step hs3 (by simp);obtain ⟨d0,d2⟩:=hI3.cell0;have HI3:=Lib.hid hI3;have HS3:=Lib.hid hs3;have HE:=Lib.hid he;clear hI3 hs3 hb he))
  have HTR:=Lib.hid (HS.out.trans (HS3.out.more (S1:=S2) (T1:=S2) (by simp) (fun k hk=>.inr (.inl hk))))
  by_cases hk0:k=0
  · have hG1:G={ t:=x.toNat,size:=n }:=by have:=HG.out;rw [if_pos hk0] at this;exact this.symm
    have he0:=HE.out
    rw [hk0] at he0
    obtain rfl:=he0.zero
    clear he0 HE HG
    go_wp2
    (try simp only [Exit.inBlock,Exit.then])
    refine bodyPost_ret (results_tmp3 rfl _ _ _) rfl ?_
    exact ⟨.nilIface,S2,by rw [hG1];rfl,by rw [hk0];exact IsErr.nil _,HI3.out,HTR.out⟩
  · have hG1:G={ t:=x.toNat }:=by have:=HG.out;rw [if_neg hk0] at this;exact this.symm
    rcases HE.out with ⟨h0,_⟩ | he
    · exact absurd h0 hk0
    have HE2:=Lib.hid he
    obtain ⟨bb,t,er,ms,hk1,hk2,rfl,hbb⟩:=he
    clear hk1 hk2 hbb HE HG
    go_wp2
    (try simp only [Exit.inBlock,Exit.then])
    refine bodyPost_ret (results_tmp3 rfl _ _ _) rfl ?_
    exact ⟨_,S2,by rw [hG1];rfl,.inr HE2.out,HI3.out,HTR.out⟩

set_option maxRecDepth 100000 in
set_option maxHeartbeats 2000000 in
theorem br_mapB {p m:Nat} {og cf:Value} {c:Cfg} {S:List Nat} {x z b0 b1 b2 b3:UInt8} {l:List UInt8} {w:World} (h:BR p m og cf c S (x :: z :: b0 :: b1 :: b2 :: b3 :: l) w) (hf:c.fit) :
    Calls Tryz.prog 216 #[.pointer (some ⟨p,0,none⟩),ctxV] w (Told (BR p m og cf c) .mapB S w (if contK c (wrap32 (Lib.beNat [b0,b1,b2,b3])) (minB x.toNat+minB z.toNat) l.length=0 then { k:=x.toNat,t:=z.toNat,size:=wrap32 (Lib.beNat [b0,b1,b2,b3]) } else { k:=x.toNat,t:=z.toNat },contK c (wrap32 (Lib.beNat [b0,b1,b2,b3])) (minB x.toNat+minB z.toNat) l.length,l)):=by
  have HB:=Lib.hid (br_byte h)
  have hu:=i8_u8 x
  have hu2:=i8_u8 z
  obtain ⟨y,hy⟩:∃ y,i8w x=y:=⟨_,rfl⟩
  obtain ⟨y2,hy2⟩:∃ y,i8w z=y:=⟨_,rfl⟩
  rw [hy] at HB hu
  rw [hy2] at hu2
  have hx:=x.toNat_lt
  have hz:=z.toNat_lt
  have HM:=Lib.hid minBin_any
  have hmb1:=minB_range (x.toNat:Int)
  have hmb2:=minB_range (z.toNat:Int)
  obtain ⟨mn1,hmn1⟩:∃ mn,minB (x.toNat:Int)=mn:=⟨_,rfl⟩
  obtain ⟨mn2,hmn2⟩:∃ mn,minB (z.toNat:Int)=mn:=⟨_,rfl⟩
  rw [hmn1,hmn2]
  rw [hmn1] at hmb1
  rw [hmn2] at hmb2
  obtain ⟨mn,hmn⟩:∃ mn,mn1+mn2=mn:=⟨_,rfl⟩
  rw [hmn]
  have hmb:1≤mn∧mn≤64:=by omega
  have hw1:wrap32 (mn1+mn2)=mn:=by unfold wrap32;omega
  have hw2:IntKind.i32.wrap (mn1+mn2)=mn:=by rw [IntKind.wrap_i32];omega
  obtain ⟨n,hn⟩:∃ n,wrap32 (Lib.beNat [b0,b1,b2,b3])=n:=⟨_,rfl⟩
  have hnr:-2147483648≤n∧n < 2147483648:=by rw [← hn];unfold wrap32;omega
  have hnw:IntKind.i64.wrap n=n:=by rw [IntKind.wrap_i64];omega
  rw [hn]
  obtain ⟨k,hk⟩:∃ k,contK c n mn l.length=k:=⟨_,rfl⟩
  rw [hk]
  obtain ⟨G,hG⟩:∃ G:RGot,(if k=0 then { k:=x.toNat,t:=z.toNat,size:=n } else { k:=x.toNat,t:=z.toNat })=G:=⟨_,rfl⟩
  rw [hG]
  have HG:=Lib.hid hG
  clear hG
  have hmeth:=mem_RemainingBytes
  have hnil:=mem_nil_RemainingBytes
  clear h hy hmn
  go_enter Tryz.func216,Tryz.ntmps216
  go_wp2_with (fail)
  refine HB.out.mono ?_
  rintro e W1 ⟨S1,rfl,hI,hs⟩
  have HB2:=Lib.hid (br_byte hI)
  rw [hy2] at HB2
  clear hI HB hy2
  go_wp2_with (fail)
  refine HB2.out.mono ?_
  rintro e W1 ⟨S1,rfl,hI,hs1⟩
  have hs:=hs.trans hs1
  clear hs1
  have H2:=Lib.hid (br_i32 hI)
  rw [hn] at H2
  clear hI HB2
  go_wp2_with (fail)
  refine H2.out.mono ?_
  rintro e W2 ⟨S2,rfl,hI,hs2⟩
  have HI:=Lib.hid hI
  have HCK:=Lib.hid (br_check hI hf n mn (by omega) (by omega))
  rw [hk] at HCK
  have HL:=Lib.hid (fun W (hW:Step [] [] W2 W)=>br_left (hI.step hW (by simp)))
  obtain ⟨c0,c2⟩:=hI.cell0
  have HS:=Lib.hid (hs.trans hs2)
  clear hI H2 hs hs2
  go_wp2_with (refine (HM.out _ _ ?_ ?_ _).mono ?_;omega;omega;rintro e w' ⟨rfl,rfl⟩)
  go_region_held3 (fun W'=>W'.cell? ⟨p,0,none⟩=some (memV m)∧W'.cell? ⟨p,2,none⟩=some cf) (first | exact ⟨c0,c2⟩ | exact ⟨d0,d2⟩ | (simp [go_sem, *];done))
    (first
      | (go_at_call 315;refine (HL.out _ ?_).mono ?_;(repeat (first | (with_reducible exact Step.refl _ _) | (with_reducible refine Step.drew ?_) | (with_reducible refine Step.drewN ?_ _)));rintro e w' ⟨rfl,nn,rfl⟩)
      | (go_at_call 188;refine (HCK.out _ ?_).mono ?_;(repeat (first | (with_reducible exact Step.refl _ _) | (with_reducible refine Step.drew ?_) | (with_reducible refine Step.drewN ?_ _)));rintro e W3 ⟨ev,rfl,he,hb⟩;have hs3:=Step.trans (a:=W2) (S:=[]) (T:=[]) (U:=[]) (by (repeat (first | (with_reducible exact Step.refl _ _) | (with_reducible refine Step.drew ?_) | (with_reducible refine Step.drewN ?_ _)))) (Step.ofBelow (S:=[]) hb);have hI3:=HI.out.step hs3 (by simp);obtain ⟨d0,d2⟩:=hI3.cell0;have HI3:=Lib.hid hI3;have HS3:=Lib.hid hs3;have HE:=Lib.hid he;clear hI3 hs3 hb he))
  have HTR:=Lib.hid (HS.out.trans (HS3.out.more (S1:=S2) (T1:=S2) (by simp) (fun k hk=>.inr (.inl hk))))
  by_cases hk0:k=0
  · have hG1:G={ k:=x.toNat,t:=z.toNat,size:=n }:=by have:=HG.out;rw [if_pos hk0] at this;exact this.symm
    have he0:=HE.out
    rw [hk0] at he0
    obtain rfl:=he0.zero
    clear he0 HE HG
    go_wp2
    (try simp only [Exit.inBlock,Exit.then])
    refine bodyPost_ret (results_tmp4 rfl _ _ _) rfl ?_
    exact ⟨.nilIface,S2,by rw [hG1];rfl,by rw [hk0];exact IsErr.nil _,HI3.out,HTR.out⟩
  · have hG1:G={ k:=x.toNat,t:=z.toNat }:=by have:=HG.out;rw [if_neg hk0] at this;exact this.symm
    rcases HE.out with ⟨h0,_⟩ | he
    · exact absurd h0 hk0
    have HE2:=Lib.hid he
    obtain ⟨bb,t,er,ms,hk1,hk2,rfl,hbb⟩:=he
    clear hk1 hk2 hbb HE HG
    go_wp2
    (try simp only [Exit.inBlock,Exit.then])
    refine bodyPost_ret (results_tmp4 rfl _ _ _) rfl ?_
    exact ⟨_,S2,by rw [hG1];rfl,.inr HE2.out,HI3.out,HTR.out⟩

end Go.Proofs.YtmjcnomgpikncaaGreatDoor
