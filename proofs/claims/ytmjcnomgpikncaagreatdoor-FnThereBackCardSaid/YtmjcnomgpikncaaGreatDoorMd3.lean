/- The writers of the compact protocol: bools, containers, begins of structs. No condition. -/
import Derived.Test.YtmjcnomgpikncaaGreatDoorMd2
import Derived.Deep.RegionHeld3
import Derived.BigRegion
import Derived.Outline
import Derived.Deep.AppendLies
import Derived.Test.YtmjcnomgpikncaaGreatDoorMw1
set_option linter.unusedVariables false
set_option linter.unusedSimpArgs false
namespace Go.Proofs.YtmjcnomgpikncaaGreatDoor

open Go.RowKit Go.Deep



set_option maxRecDepth 100000 in
set_option maxHeartbeats 1000000 in
theorem cp_fldB_bool {p m:Nat} {og cf:Value} {c:Cfg} {S:List Nat} {st:CSt} {l:List UInt8} {w:World} (h:CP p m og cf c 0 S st l w) (cx:Value) (nm:ByteArray) (id:Int) :
    Calls Tryz.prog 158 #[.pointer (some ⟨p,0,none⟩),cx,.string nm,.int .u8 2,.int .i16 id] w (Did (CIs p m og cf c) S w (({ st with pend:=true,pid:=id },l),0)):=by
  obtain ⟨c0,c4,⟨x5,c5⟩,c6,c7,c8,c9,f⟩:=h.read
  have f5:=f 5
  have f6:=f 6
  have f7:=f 7
  have HI:=Lib.hid h
  clear f h c0 c4 c8 c9
  go_enter Tryz.func158,Tryz.ntmps158
  go_wp2
  go_ret
  refine ⟨_,S,rfl,IsErr.nil _,?_,?_⟩
  · exact ((HI.out.setName _).setPid _).setPend _
  · exact ((HI.out.stepSet 5 _).trans (((HI.out.setName _).stepSet 6 _))).trans ((((HI.out.setName _).setPid _).stepSet 7 _))

set_option maxRecDepth 100000 in
set_option maxHeartbeats 1000000 in
theorem cp_fldB {p m:Nat} {og cf:Value} {c:Cfg} {S:List Nat} {st:CSt} {l:List UInt8} {w:World} (h:CP p m og cf c 0 S st l w) (cx nm:Value) (t id:Int) (ht:¬ t=2) (h0:-32768≤id) (h1:id < 32768) (hl0:-32768≤st.last) (hl1:st.last < 32768) (hlim:l.length+16≤140737488355328) :
    Calls Tryz.prog 158 #[.pointer (some ⟨p,0,none⟩),cx,nm,.int .u8 t,.int .i16 id] w (Did (CIs p m og cf c) S w (({ st with last:=id },l++cHead st.last id (cCode t)),0)):=by
  have HF:=Lib.hid (fun cx nm=>cp_fieldTab h cx nm t id h0 h1 hl0 hl1 hlim)
  have ht':(t == 2)=false:=by simpa using ht
  go_enter Tryz.func158,Tryz.ntmps158
  go_wp2_with (fail)
  ((with_reducible refine (HF.out _ _).mono ?_);rintro e W1 ⟨⟨j,rfl⟩,S1,hI,hs⟩)
  go_wp2_with (first | (go_at_call 178;go_in))
  go_ret
  exact ⟨_,_,rfl,IsErr.nil _,hI,hs⟩

set_option maxRecDepth 100000 in
set_option maxHeartbeats 1000000 in
theorem cp_bool {p m:Nat} {og cf:Value} {c:Cfg} {S:List Nat} {st:CSt} {l:List UInt8} {w:World} (h:CP p m og cf c 0 S st l w) (cx:Value) (b:Bool) (hp:st.pend=false) (hlim:l.length+16≤140737488355328) :
    Calls Tryz.prog 155 #[.pointer (some ⟨p,0,none⟩),cx,.bool b] w (Did (CIs p m og cf c) S w ((st,l++[if b then 1 else 2]),0)):=by
  obtain ⟨c0,c4,⟨x5,c5⟩,c6,c7,c8,c9,f⟩:=h.read
  rw [hp] at c7
  have HI:=Lib.hid h
  clear f h c0 c4 c8 c9
  cases b
  · go_enter Tryz.func155,Tryz.ntmps155
    go_wp2_with (fail)
    refine (cp_directN HI.out 2 (by omega) (by omega)).mono ?_
    rintro e W1 ⟨ev,S1,rfl,he,hI1,hs1⟩
    obtain rfl:=he.zero
    go_wp2_with (first | (go_at_call 178;go_in))
    go_ret
    exact ⟨_,_,rfl,IsErr.nil _,hI1,hs1⟩
  · go_enter Tryz.func155,Tryz.ntmps155
    go_wp2_with (fail)
    refine (cp_directN HI.out 1 (by omega) (by omega)).mono ?_
    rintro e W1 ⟨ev,S1,rfl,he,hI1,hs1⟩
    obtain rfl:=he.zero
    go_wp2_with (first | (go_at_call 178;go_in))
    go_ret
    exact ⟨_,_,rfl,IsErr.nil _,hI1,hs1⟩

set_option maxRecDepth 100000 in
set_option maxHeartbeats 1000000 in
theorem cp_bool_pend {p m:Nat} {og cf:Value} {c:Cfg} {S:List Nat} {st:CSt} {l:List UInt8} {w:World} (h:CP p m og cf c 0 S st l w) (cx:Value) (b:Bool) (hp:st.pend=true) (h0:-32768≤st.pid) (h1:st.pid < 32768) (hl0:-32768≤st.last) (hl1:st.last < 32768) (hlim:l.length+16≤140737488355328) :
    Calls Tryz.prog 155 #[.pointer (some ⟨p,0,none⟩),cx,.bool b] w (Did (CIs p m og cf c) S w (({ st with last:=st.pid,pend:=false },l++cHead st.last st.pid (if b then 1 else 2)),0)):=by
  obtain ⟨c0,c4,⟨x5,c5⟩,c6,c7,c8,c9,f⟩:=h.read
  rw [hp] at c7
  have HI:=Lib.hid h
  clear f h c0 c4 c8 c9
  cases b
  · have hF:∀ W,Step [] [] w W→∀ cx nm t,Calls Tryz.prog 191 #[.pointer (some ⟨p,0,none⟩),cx,nm,.int .u8 t,.int .i16 st.pid,.int .u8 2] W fun e w'=>(∃ j,e=.returned (.tuple #[.int .i64 j,.nilIface]))∧∃ S',CP p m og cf c 0 S' { st with last:=st.pid } (l++cHead st.last st.pid 2) w'∧Step S S' W w':=fun W hW cx nm t=>cp_field (HI.out.step hW (by simp)) cx nm t st.pid 2 (by omega) h0 h1 hl0 hl1 hlim
    have HF:=Lib.hid hF
    clear hF
    go_enter Tryz.func155,Tryz.ntmps155
    go_wp2_with (fail)
    go_region_with (((with_reducible refine (HF.out _ ?_ _ _ _).mono ?_);exact (Step.refl _ _).drew;rintro e W1 ⟨⟨j,rfl⟩,S1,hI,hs⟩;replace hs:=(Step.refl S w).drew.trans hs;obtain ⟨-,-,-,-,c7',-,-,f'⟩:=hI.read;have f7':=f' 7;have HI2:=Lib.hid hI;clear f' hI))
    all_goals go_wp2_with (first | (go_at_call 178;go_in))
    all_goals go_ret
    all_goals exact ⟨_,S1,rfl,IsErr.nil _,HI2.out.setPend false,hs.trans (HI2.out.stepSet 7 _)⟩
  · have hF:∀ W,Step [] [] w W→∀ cx nm t,Calls Tryz.prog 191 #[.pointer (some ⟨p,0,none⟩),cx,nm,.int .u8 t,.int .i16 st.pid,.int .u8 1] W fun e w'=>(∃ j,e=.returned (.tuple #[.int .i64 j,.nilIface]))∧∃ S',CP p m og cf c 0 S' { st with last:=st.pid } (l++cHead st.last st.pid 1) w'∧Step S S' W w':=fun W hW cx nm t=>cp_field (HI.out.step hW (by simp)) cx nm t st.pid 1 (by omega) h0 h1 hl0 hl1 hlim
    have HF:=Lib.hid hF
    clear hF
    go_enter Tryz.func155,Tryz.ntmps155
    go_wp2_with (fail)
    go_region_with (((with_reducible refine (HF.out _ ?_ _ _ _).mono ?_);exact (Step.refl _ _).drew;rintro e W1 ⟨⟨j,rfl⟩,S1,hI,hs⟩;replace hs:=(Step.refl S w).drew.trans hs;obtain ⟨-,-,-,-,c7',-,-,f'⟩:=hI.read;have f7':=f' 7;have HI2:=Lib.hid hI;clear f' hI))
    all_goals go_wp2_with (first | (go_at_call 178;go_in))
    all_goals go_ret
    all_goals exact ⟨_,S1,rfl,IsErr.nil _,HI2.out.setPend false,hs.trans (HI2.out.stepSet 7 _)⟩

end Go.Proofs.YtmjcnomgpikncaaGreatDoor

namespace Go.Proofs.YtmjcnomgpikncaaGreatDoor

open Go.RowKit Go.Deep



set_option maxRecDepth 100000 in
set_option maxHeartbeats 1000000 in
theorem cp_stop {p m:Nat} {og cf:Value} {c:Cfg} {S:List Nat} {st:CSt} {l:List UInt8} {w:World} (h:CP p m og cf c 0 S st l w) (cx:Value) (hlim:l.length+1≤140737488355328) :
    Calls Tryz.prog 160 #[.pointer (some ⟨p,0,none⟩),cx] w (Did (CIs p m og cf c) S w ((st,l++[0]),0)):=by
  go_enter Tryz.func160,Tryz.ntmps160
  go_wp2_with (fail)
  refine (cp_directN h 0 (by omega) hlim).mono ?_
  rintro e W1 ⟨ev,S1,rfl,he,hI1,hs1⟩
  obtain rfl:=he.zero
  go_wp2_with (first | (go_at_call 178;go_in))
  go_ret
  exact ⟨_,_,rfl,IsErr.nil _,hI1,hs1⟩

theorem or_coll (n:Int) (c:Nat) (hc:c≤15):bits .or .i32 (wrap32 (wrap64 (n * 16))) (c:Int) % 256=(((n % 16).toNat * 16+c:Nat):Int):=by
  simp only [bits]
  rw [IntKind.wrap_i32,BitVec.toNat_or,BitVec.toNat_ofInt,BitVec.toNat_ofInt]
  have e1:((c:Int) % ((2 ^ IntKind.i32.bits:Nat):Int)).toNat=c:=by
    have e:((2 ^ IntKind.i32.bits:Nat):Int)=4294967296:=by decide
    rw [e];omega
  obtain ⟨a,ha⟩:∃ a:Nat,(wrap32 (wrap64 (n * 16)) % ((2 ^ IntKind.i32.bits:Nat):Int)).toNat=a:=⟨_,rfl⟩
  have ha2:a % 256=(n % 16).toNat * 16:=by
    have e:((2 ^ IntKind.i32.bits:Nat):Int)=4294967296:=by decide
    rw [← ha,e];unfold wrap32 wrap64;omega
  rw [e1,ha]
  have h1:(a ||| c) % 256=(n % 16).toNat * 16+c:=by
    have:=@Nat.or_mod_two_pow a c 8
    rw [show (2:Nat) ^ 8=256 from rfl] at this
    rw [this,ha2,show c % 256=c by omega]
    have e2:(n % 16).toNat * 16=2 ^ 4 * (n % 16).toNat:=by omega
    rw [e2,Nat.two_pow_add_eq_or_of_lt (by omega)]
  omega

theorem or_240 (c:Nat) (hc:c≤15):bits .or .u8 240 (c:Int)=((240+c:Nat):Int):=by
  have:=or_high 15 c (by omega) hc
  simpa using this

set_option maxRecDepth 100000 in
set_option maxHeartbeats 1000000 in
theorem cp_coll_near {p m:Nat} {og cf:Value} {c:Cfg} {S:List Nat} {st:CSt} {l:List UInt8} {w:World} (h:CP p m og cf c 0 S st l w) (t n:Int) (hlim:l.length+16≤140737488355328) (hn:n≤14) :
    Calls Tryz.prog 196 #[.pointer (some ⟨p,0,none⟩),.int .u8 t,.int .i64 n] w fun e w'=>(∃ k,e=.returned (.tuple #[.int .i64 k,.nilIface]))∧∃ S',CP p m og cf c 0 S' st (l++[((n % 16).toNat * 16+cCode t).toUInt8]) w'∧Step S S' w w':=by
  go_enter Tryz.func196,Tryz.ntmps196
  go_wp2_with (fail)
  refine (compactType_of _ t w).mono ?_
  rintro e W1 ⟨rfl,hB⟩
  have hs0:=Lib.hid (Step.ofBelow (S:=S) hB)
  have HI:=Lib.hid (h.step (Step.ofBelow (S:=[]) hB) (by simp))
  clear hB h
  have hct:=cCode_le t
  go_wp2_with (fail)
  rw [or_coll n (cCode t) (by omega)]
  refine (cp_directN HI.out ((n % 16).toNat * 16+cCode t) (by omega) (by omega)).mono ?_
  rintro e W2 ⟨ev,S1,rfl,he,hI1,hs1⟩
  obtain rfl:=he.zero
  go_wp2
  go_ret2
  exact ⟨⟨_,rfl⟩,S1,hI1,hs0.out.trans hs1⟩

set_option maxRecDepth 100000 in
set_option maxHeartbeats 1000000 in
theorem cp_coll_far {p m:Nat} {og cf:Value} {c:Cfg} {S:List Nat} {st:CSt} {l:List UInt8} {w:World} (h:CP p m og cf c 0 S st l w) (t n:Int) (hlim:l.length+16≤140737488355328) (hn:¬ n≤14) :
    Calls Tryz.prog 196 #[.pointer (some ⟨p,0,none⟩),.int .u8 t,.int .i64 n] w fun e w'=>(∃ k,e=.returned (.tuple #[.int .i64 k,.nilIface]))∧∃ S',CP p m og cf c 0 S' st (l++(240+cCode t).toUInt8 :: Lib.uvarint (n % 4294967296).toNat) w'∧Step S S' w w':=by
  obtain ⟨N,hN⟩:∃ N:Nat,(n % 4294967296).toNat=N:=⟨_,rfl⟩
  rw [hN]
  have hN2:=Lib.hid (show wrap32 n % 4294967296=N by unfold wrap32;omega)
  clear hN
  go_enter Tryz.func196,Tryz.ntmps196
  go_wp2_with (fail)
  refine (compactType_of _ t w).mono ?_
  rintro e W1 ⟨rfl,hB⟩
  have hs0:=Lib.hid (Step.ofBelow (S:=S) hB)
  have HI:=Lib.hid (h.step (Step.ofBelow (S:=[]) hB) (by simp))
  clear hB h
  have hct:=cCode_le t
  go_wp2_with (fail)
  rw [or_240 (cCode t) (by omega)]
  refine (cp_directN HI.out (240+cCode t) (by omega) (by omega)).mono ?_
  rintro e W2 ⟨ev,S1,rfl,he,hI1,hs1⟩
  obtain rfl:=he.zero
  go_wp2_with (fail)
  refine (cp_varint32 hI1 _ N hN2.out (by simp only [List.length_append,List.length_cons,List.length_nil];omega)).mono ?_
  rintro e W3 ⟨⟨k,rfl⟩,S2,hI2,hs2⟩
  go_wp2
  go_ret2
  refine ⟨⟨_,rfl⟩,S2,?_,hs0.out.trans (hs1.trans hs2)⟩
  simpa [List.append_assoc] using hI2

def cColl (t n:Int):List UInt8:=if n≤14 then [((n % 16).toNat * 16+cCode t).toUInt8] else (240+cCode t).toUInt8 :: Lib.uvarint (n % 4294967296).toNat

theorem cp_coll {p m:Nat} {og cf:Value} {c:Cfg} {S:List Nat} {st:CSt} {l:List UInt8} {w:World} (h:CP p m og cf c 0 S st l w) (t n:Int) (hlim:l.length+16≤140737488355328) :
    Calls Tryz.prog 196 #[.pointer (some ⟨p,0,none⟩),.int .u8 t,.int .i64 n] w fun e w'=>(∃ k,e=.returned (.tuple #[.int .i64 k,.nilIface]))∧∃ S',CP p m og cf c 0 S' st (l++cColl t n) w'∧Step S S' w w':=by
  by_cases hn:n≤14
  · rw [cColl,if_pos hn];exact cp_coll_near h t n hlim hn
  · rw [cColl,if_neg hn];exact cp_coll_far h t n hlim hn

set_option maxRecDepth 100000 in
set_option maxHeartbeats 1000000 in
theorem cp_lstB {p m:Nat} {og cf:Value} {c:Cfg} {S:List Nat} {st:CSt} {l:List UInt8} {w:World} (h:CP p m og cf c 0 S st l w) (cx:Value) (t n:Int) (hlim:l.length+16≤140737488355328) :
    Calls Tryz.prog 164 #[.pointer (some ⟨p,0,none⟩),cx,.int .u8 t,.int .i64 n] w (Did (CIs p m og cf c) S w ((st,l++cColl t n),0)):=by
  go_enter Tryz.func164,Tryz.ntmps164
  go_wp2_with (fail)
  refine (cp_coll h t n hlim).mono ?_
  rintro e W1 ⟨⟨k,rfl⟩,S1,hI1,hs1⟩
  go_wp2_with (first | (go_at_call 178;go_in))
  go_ret
  exact ⟨_,_,rfl,IsErr.nil _,hI1,hs1⟩

set_option maxRecDepth 100000 in
set_option maxHeartbeats 1000000 in
theorem cp_setB {p m:Nat} {og cf:Value} {c:Cfg} {S:List Nat} {st:CSt} {l:List UInt8} {w:World} (h:CP p m og cf c 0 S st l w) (cx:Value) (t n:Int) (hlim:l.length+16≤140737488355328) :
    Calls Tryz.prog 170 #[.pointer (some ⟨p,0,none⟩),cx,.int .u8 t,.int .i64 n] w (Did (CIs p m og cf c) S w ((st,l++cColl t n),0)):=by
  go_enter Tryz.func170,Tryz.ntmps170
  go_wp2_with (fail)
  refine (cp_coll h t n hlim).mono ?_
  rintro e W1 ⟨⟨k,rfl⟩,S1,hI1,hs1⟩
  go_wp2_with (first | (go_at_call 178;go_in))
  go_ret
  exact ⟨_,_,rfl,IsErr.nil _,hI1,hs1⟩

set_option maxRecDepth 100000 in
set_option maxHeartbeats 1000000 in
theorem cp_mapB_none {p m:Nat} {og cf:Value} {c:Cfg} {S:List Nat} {st:CSt} {l:List UInt8} {w:World} (h:CP p m og cf c 0 S st l w) (cx:Value) (k t:Int) (hlim:l.length+16≤140737488355328) :
    Calls Tryz.prog 166 #[.pointer (some ⟨p,0,none⟩),cx,.int .u8 k,.int .u8 t,.int .i64 0] w (Did (CIs p m og cf c) S w ((st,l++[0]),0)):=by
  go_enter Tryz.func166,Tryz.ntmps166
  go_wp2_with (fail)
  refine (cp_directN h 0 (by omega) (by omega)).mono ?_
  rintro e W1 ⟨ev,S1,rfl,he,hI1,hs1⟩
  obtain rfl:=he.zero
  go_wp2_with (first | (go_at_call 178;go_in))
  go_ret
  exact ⟨_,_,rfl,IsErr.nil _,hI1,hs1⟩

set_option maxRecDepth 100000 in
set_option maxHeartbeats 1000000 in
theorem cp_mapB_some {p m:Nat} {og cf:Value} {c:Cfg} {S:List Nat} {st:CSt} {l:List UInt8} {w:World} (h:CP p m og cf c 0 S st l w) (cx:Value) (k t n:Int) (hn:¬ n=0) (hlim:l.length+16≤140737488355328) :
    Calls Tryz.prog 166 #[.pointer (some ⟨p,0,none⟩),cx,.int .u8 k,.int .u8 t,.int .i64 n] w (Did (CIs p m og cf c) S w ((st,l++(Lib.uvarint (n % 4294967296).toNat++[(cCode k * 16+cCode t).toUInt8])),0)):=by
  obtain ⟨N,hN⟩:∃ N:Nat,(n % 4294967296).toNat=N:=⟨_,rfl⟩
  rw [hN]
  have hN2:=Lib.hid (show wrap32 n % 4294967296=N by unfold wrap32;omega)
  have hNl:=Lib.hid (show (Lib.uvarint N).length≤5 from Lib.uvarint_length 4 _ (by omega))
  clear hN
  have hn':(n == 0)=false:=by simpa using hn
  go_enter Tryz.func166,Tryz.ntmps166
  go_wp2_with (fail)
  refine (cp_varint32 h _ N hN2.out (by omega)).mono ?_
  rintro e W1 ⟨⟨j,rfl⟩,S1,hI1,hs1⟩
  have HI1:=Lib.hid hI1
  clear hI1
  go_wp2_with (fail)
  refine (compactType_of _ k W1).mono ?_
  rintro e W2 ⟨rfl,hB2⟩
  have hs2:=Lib.hid (Step.ofBelow (S:=[]) hB2)
  have hs2':=Lib.hid (Step.ofBelow (S:=S1) hB2)
  have HI2:=Lib.hid (HI1.out.step hs2.out (by simp))
  clear hB2
  go_wp2_with (fail)
  refine (compactType_of _ t W2).mono ?_
  rintro e W3 ⟨rfl,hB3⟩
  have hs3:=Lib.hid (Step.ofBelow (S:=[]) hB3)
  have hs3':=Lib.hid (Step.ofBelow (S:=S1) hB3)
  have HI3:=Lib.hid (HI2.out.step hs3.out (by simp))
  clear hB3
  have hk1:=cCode_le k
  have ht1:=cCode_le t
  go_wp2_with (fail)
  rw [show (cCode k:Int) * 16 % 256=(cCode k:Int) * 16 by omega,or_high (cCode k) (cCode t) (by omega) (by omega)]
  refine (cp_directN HI3.out (cCode k * 16+cCode t) (by omega) (by simp only [List.length_append];have:=hNl.out;omega)).mono ?_
  rintro e W4 ⟨ev,S4,rfl,he,hI4,hs4⟩
  obtain rfl:=he.zero
  go_wp2_with (first | (go_at_call 178;go_in))
  go_ret
  refine ⟨_,_,rfl,IsErr.nil _,?_,hs1.trans (hs2'.out.trans (hs3'.out.trans hs4))⟩
  simpa [List.append_assoc] using hI4

end Go.Proofs.YtmjcnomgpikncaaGreatDoor

namespace Go.Proofs.YtmjcnomgpikncaaGreatDoor

open Go.RowKit Go.Deep Go.Proofs.YtmjcnomgpikncaaGreatDoorW.PrintLast



def Keeps3 (p:Nat) (lf:Value) (x:Int) (W:World):Prop :=
  W.cell? ⟨p,3,none⟩=some lf∧W.cell? ⟨p,4,none⟩=some (.int .i64 x)∧W.frozen? ⟨p,3,none⟩=false∧W.frozen? ⟨p,4,none⟩=false

theorem Keeps3.of {p:Nat} {tr og cf:Value} {s:CS} {sc:List Value} {W:World} (h:W.heap[p]?=some (.cells (CS.row tr og cf s sc).toArray 220 (0,0))):Keeps3 p s.lf s.last W :=
  ⟨(cell_heap h 3).trans rfl,(cell_heap h 4).trans rfl,frozen_heap h 3,frozen_heap h 4⟩

theorem infoInt:(Tryz.prog.info? 3).map (fun i=>(i.zero,i.size,i.bytes))=some (some (.int .i64 0),1,8):=by kernel_rfl

theorem StkAt.owns {r p:Nat} {v:Value} {xs:List Int} {w:World} (h:StkAt r p v xs w):w.ownsRow 0 3 1 v xs.length (xs.map (Value.int .i64)):=by
  rcases h with ⟨rfl,rfl,rfl⟩ | ⟨cap,cur,rfl,h2,h3,h4,h5,h6,h7⟩
  · exact World.ownsRow_nil _ _ _ _
  · exact ⟨by simp,.inr ⟨r,cap,cur,rfl,Nat.zero_le _,h2,h4,h5,by omega,by rw [Nat.mul_one];exact h6⟩⟩

theorem StkAt.block {r p:Nat} {v:Value} {xs:List Int} {w:World} (h:StkAt r p v xs w):v.ownBlock=none∨(v.ownBlock=some r∧r≠p):=by
  rcases h with ⟨rfl,rfl,rfl⟩ | ⟨cap,cur,rfl,h2,h3,h4,h5,h6,h7⟩
  · exact .inl rfl
  · exact .inr ⟨rfl,h7⟩

theorem CP.push {p m b g r g1 cap1 H:Nat} {og cf lf n5:Value} {c:Cfg} {K:List Nat} {st:CSt} {sc:List Value} {l:List UInt8} {w W0 W2:World} {x:Int} {off:Nat} (hp:Cmp p (memV m) og cf ⟨lf,st.last,n5,st.pid,st.pend,st.bv,st.bn⟩ sc w) (hm:Mem m b g off (Lib.byteCells l) w) (hC:CfgAt c cf K w) (hk:StkAt r p lf st.stk w)
    (hd:p≠m∧p≠b∧p≠g) (hr:r≠m∧r≠b∧r≠g) (hK:∀ k,k∈K→k≠p∧k≠b∧k≠g∧k≠r) (h0:Step [] [] w W0) (hg:W0.grownBy W2 lf.ownBlock)
    (hown:W2.ownsRow 0 3 1 (.slice (some ⟨g1,0,none⟩) (st.stk.length+1) cap1) (st.stk.length+1) (st.stk.map (Value.int .i64)++[.int .i64 x])) (hat:lf.ownBlock=some g1∨g1=H) (hH:w.heap.size≤H) :
    CP p m og cf c off (p :: m :: b :: g :: g1 :: K) { st with stk:=st.stk++[x],last:=0 } l ((W2.setCell ⟨p,3,none⟩ (.slice (some ⟨g1,0,none⟩) (st.stk.length+1) cap1)).setCell ⟨p,4,none⟩ (.int .i64 0)) ∧
      Step (p :: m :: b :: g :: r :: K) (p :: m :: b :: g :: g1 :: K) w ((W2.setCell ⟨p,3,none⟩ (.slice (some ⟨g1,0,none⟩) (st.stk.length+1) cap1)).setCell ⟨p,4,none⟩ (.int .i64 0)):=by
  have hpl:=hp.lt
  have hml:=hm.lt
  have hbl:=hm.2.2.2.lt
  have hgr:g1=r∨w.heap.size≤g1:=by
    rcases hat with hat | hat
    · rcases hk.block with hb | ⟨hb,_⟩
      · rw [hb] at hat;cases hat
      · rw [hb] at hat;injection hat with e;exact .inl e.symm
    · exact .inr (by omega)
  have hgp:g1≠p:=by
    rcases hat with hat | hat
    · rcases hk.block with hb | ⟨hb,hrp⟩
      · rw [hb] at hat;cases hat
      · rw [hb] at hat;injection hat with e;omega
    · omega
  have hs2:Step [p,r] [p,g1] w W2:=by
    refine ⟨hg.os.trans h0.os,hg.tape.trans h0.tape,hg.output.trans h0.output,Nat.le_trans h0.size hg.size,fun k hk' hn=>?_,fun k hk'=>?_⟩
    · simp only [List.mem_cons,List.not_mem_nil,or_false,not_or] at hn
      refine (hg.block k (Nat.lt_of_lt_of_le hk' h0.size) (fun e=>?_)).trans (h0.block k hk' (by simp))
      rcases hk.block with hb | ⟨hb,_⟩
      · rw [hb] at e;cases e
      · rw [hb] at e;injection e with e;exact hn.2 e
    · simp only [List.mem_cons,List.not_mem_nil,or_false] at hk' ⊢
      rcases hk' with rfl | rfl
      · exact .inl (.inl rfl)
      · rcases hgr with h | h
        · exact .inl (.inr h)
        · exact .inr h
  have hp2:W2.heap[p]?=some (.cells (CS.row (memV m) og cf ⟨lf,st.last,n5,st.pid,st.pend,st.bv,st.bn⟩ sc).toArray 220 (0,0)):=by
    refine ((hg.block p (Nat.lt_of_lt_of_le hpl h0.size) (fun e=>?_)).trans (h0.block p hpl (by simp))).trans hp.1
    rcases hk.block with hb | ⟨hb,hrp⟩
    · rw [hb] at e;cases e
    · rw [hb] at e;injection e with e;exact hrp e.symm
  have hs3:=(hs2.setCell (p:=⟨p,3,none⟩) (.inl (by simp)) (.slice (some ⟨g1,0,none⟩) (st.stk.length+1) cap1)).setCell (p:=⟨p,4,none⟩) (.inl (by simp)) (.int .i64 0)
  refine ⟨⟨b,g,g1,K,.slice (some ⟨g1,0,none⟩) (st.stk.length+1) cap1,n5,sc,rfl,⟨?_,hp.2⟩,hm.step hs3 (by simp [Ne.symm hd.1,Ne.symm hr.1]) (by simp [Ne.symm hd.2.1,Ne.symm hr.2.1]) (by simp [Ne.symm hd.2.2,Ne.symm hr.2.2]),hC.step hs3 (fun k hk'=>by have:=hK k hk';simp [this]),?_,hd,?_,fun k hk'=>?_⟩,hs3.more ?_ ?_⟩
  · rw [heap_set_same (heap_set_same hp2 _)]
    simp [CS.row]
  · rcases hown.2 with ⟨e,_⟩ | ⟨g2,cap2,cur,e,_,h2,h3,h4,h5,h6⟩
    · cases e
    · injection e with e1 e2 e3
      injection e1 with e1
      injection e1 with e1 _ _
      subst e1 e3
      rw [Nat.mul_one] at h6
      refine .inr ⟨_,cur,by simp,heap_set_other (heap_set_other h2 (by exact hgp) _) (by exact hgp) _,by omega,by simpa using h3,h4,?_,hgp⟩
      simpa using h6
  · rcases hgr with h | h
    · rw [h];exact hr
    · exact ⟨by omega,by omega,by omega⟩
  · have h1:=hK k hk'
    have h2:=hC.lt k hk'
    refine ⟨h1.1,h1.2.1,h1.2.2.1,?_⟩
    rcases hgr with h | h
    · rw [h];exact h1.2.2.2
    · omega
  · intro k hk'
    simp only [List.mem_cons,List.not_mem_nil,or_false] at hk'
    rcases hk' with rfl | rfl <;> simp
  · intro k hk'
    simp only [List.mem_cons] at hk'
    rcases hk' with rfl | rfl | rfl | rfl | rfl | hk'
    · simp
    · simp
    · simp
    · simp
    · simp
    · simp [hk']

set_option maxRecDepth 100000 in
set_option maxHeartbeats 1000000 in
theorem cp_strB {p m:Nat} {og cf:Value} {c:Cfg} {S:List Nat} {st:CSt} {l:List UInt8} {w:World} (h:CP p m og cf c 0 S st l w) (cx:Value) (nm:Value) (hlim:st.stk.length < 5000000000000) :
    Calls Tryz.prog 173 #[.pointer (some ⟨p,0,none⟩),cx,nm] w (Did (CIs p m og cf c) S w (({ st with stk:=st.stk++[st.last],last:=0 },l),0)):=by
  obtain ⟨b,g,r,K,lf,n5,sc,rfl,hp,hm,hC,hk,hd,hr,hK⟩:=h
  obtain ⟨i0,hi,hz0,hz1,hz2⟩:=info_parts infoInt
  have hp1:∀ o,Cmp p (memV m) og cf ⟨lf,st.last,n5,st.pid,st.pend,st.bv,st.bn⟩ sc (w.alloc o):=fun o=>hp.alloc o
  have HP:=Lib.hid (fun o W2 g1 cap1=>@CP.push p m b g r g1 cap1 (w.heap.size+1) og cf lf n5 c K st sc l w (w.alloc o).drew W2 st.last 0 hp hm hC hk hd hr hK (((Step.refl [] w).alloc o).drew))
  have HO:=Lib.hid (fun o=>show (w.alloc o).drew.ownsRow 0 3 1 lf st.stk.length (st.stk.map (Value.int .i64)) from by
    have h1:=(hk.step ((Step.refl [] w).alloc o) (by simp)).owns
    exact h1)
  have HN:=Lib.hid (fun cs=>World.news_of_block (show (w.alloc (.cells cs 3)).drew.heap[w.heap.size]?=some (.cells cs 3 (0,0)) from heap_alloc_new w _))
  have hq2:∀ o W2,(w.alloc o).drew.grownBy W2 lf.ownBlock→W2.heap[p]?=some (.cells (CS.row (memV m) og cf ⟨lf,st.last,n5,st.pid,st.pend,st.bv,st.bn⟩ sc).toArray 220 (0,0)):=fun o W2 hg =>
    (hg.block p (by have:=hp.lt;simp;omega) (fun e=>by
      rcases hk.block with hb | ⟨hb,hrp⟩
      · rw [hb] at e;cases e
      · rw [hb] at e;injection e with e;exact hrp e.symm)).trans (heap_alloc_old hp.1 o)
  have HQ0:=Lib.hid (show Keeps3 p lf st.last w from Keeps3.of hp.1)
  have HQ1:=Lib.hid (fun o=>show Keeps3 p lf st.last (w.alloc o) from Keeps3.of (hp1 o).1)
  have HQ2:=Lib.hid (fun o W2 (hg:(w.alloc o).drew.grownBy W2 lf.ownBlock)=>show Keeps3 p lf st.last W2 from Keeps3.of (hq2 o W2 hg))
  clear hq2 hp hm hC hk hp1
  go_enter Tryz.func173,Tryz.ntmps173
  go_wp2_with (fail)
  refine start_ (n:=14) (S:=Keeps3 p lf st.last) (ds:=[13]) #[false,false,false,false,false,false,false,false,false,false,false,false,false,false] (by kernel_rfl) rfl rfl HQ0.out (fun hHeld=>?_)
  refine pure_ (i:=0) (N:=some 7) (v:=?_) (a':=?_) #[true,false,false,false,false,false,false,false,false,false,false,false,false,false] rfl rfl (by kernel_rfl) (fun _ _ _ h=>h) (Or.inl ⟨by rfl,?_⟩) ?_ ?_
  rotate_left
  · intro w'
    go_simp
    with_reducible rfl
  rotate_left
  · simp only [Act.put,List.setIfInBounds_toArray,List.set_cons_zero,List.set_cons_succ,i64_w,i32_w]
    rfl
  refine pure_ (i:=1) (N:=some 8) (v:=?_) (a':=?_) #[true,true,false,false,false,false,false,false,false,false,false,false,false,false] rfl rfl (by kernel_rfl) (fun _ _ _ h=>h) (Or.inl ⟨by rfl,?_⟩) ?_ ?_
  rotate_left
  · intro w'
    go_simp
    with_reducible rfl
  rotate_left
  · simp only [Act.put,List.setIfInBounds_toArray,List.set_cons_zero,List.set_cons_succ,i64_w,i32_w]
    rfl
  refine pure_ (i:=5) (N:=some 12) (v:=?_) (a':=?_) #[true,true,false,false,false,true,false,false,false,false,false,false,false,false] rfl rfl (by kernel_rfl) (fun _ _ _ h=>h) (Or.inl ⟨by rfl,?_⟩) ?_ ?_
  rotate_left
  · intro w'
    go_simp
    with_reducible rfl
  rotate_left
  · simp only [Act.put,List.setIfInBounds_toArray,List.set_cons_zero,List.set_cons_succ,i64_w,i32_w]
    rfl
  refine pure_ (i:=2) (N:=some 9) (v:=?_) (a':=?_) #[true,true,true,false,false,true,false,false,false,false,false,false,false,false] rfl rfl (by kernel_rfl) (fun _ _ _ h=>h) (Or.inl ⟨by rfl,?_⟩) ?_ ?_
  rotate_left
  · intro w'
    go_simp
    with_reducible rfl
  rotate_left
  · simp only [Act.put,List.setIfInBounds_toArray,List.set_cons_zero,List.set_cons_succ,i64_w,i32_w]
    rfl
  refine pure_ (i:=3) (N:=some 10) (v:=?_) (a':=?_) #[true,true,true,true,false,true,false,false,false,false,false,false,false,false] rfl rfl (by kernel_rfl) (fun _ _ _ h=>h) (Or.inl ⟨by rfl,?_⟩) ?_ ?_
  rotate_left
  · intro w'
    go_simp
    with_reducible rfl
  rotate_left
  · simp only [Act.put,List.setIfInBounds_toArray,List.set_cons_zero,List.set_cons_succ,i64_w,i32_w]
    rfl
  refine pure_ (i:=6) (N:=some 13) (v:=?_) (a':=?_) #[true,true,true,true,false,true,true,false,false,false,false,false,false,false] rfl rfl (by kernel_rfl) (fun _ _ _ h=>h) (Or.inl ⟨by rfl,?_⟩) ?_ ?_
  rotate_left
  · intro w'
    go_simp
    with_reducible rfl
  rotate_left
  · simp only [Act.put,List.setIfInBounds_toArray,List.set_cons_zero,List.set_cons_succ,i64_w,i32_w]
    rfl
  refine pure_ (i:=7) (N:=some 14) (v:=?_) (a':=?_) #[true,true,true,true,false,true,true,true,false,false,false,false,false,false] rfl rfl (by kernel_rfl) (fun _ _ _ h=>h) (Or.inl ⟨by rfl,?_⟩) ?_ ?_
  rotate_left
  · intro w'
    go_simp
    with_reducible rfl
  rotate_left
  · simp only [Act.put,List.setIfInBounds_toArray,List.set_cons_zero,List.set_cons_succ,i64_w,i32_w]
    rfl
  refine take_ (i:=4) (N:=some 11) (v:=?_) (a':=?_) #[true,true,true,true,true,true,true,true,false,false,false,false,false,false] rfl rfl (by kernel_rfl) (fun _ _ _ h=>h) (Or.inl ⟨by rfl,?_⟩) hHeld ?_ ?_
  rotate_left
  · rintro w' ⟨s0,s1,s2,s3⟩
    go_simp
    with_reducible rfl
  rotate_left
  · simp only [Act.put,List.setIfInBounds_toArray,List.set_cons_zero,List.set_cons_succ,i64_w,i32_w]
    rfl
  refine take_ (i:=8) (N:=some 15) (v:=?_) (a':=?_) #[true,true,true,true,true,true,true,true,true,false,false,false,false,false] rfl rfl (by kernel_rfl) (fun _ _ _ h=>h) (Or.inl ⟨by rfl,?_⟩) hHeld ?_ ?_
  rotate_left
  · rintro w' ⟨s0,s1,s2,s3⟩
    go_simp
    with_reducible rfl
  rotate_left
  · simp only [Act.put,List.setIfInBounds_toArray,List.set_cons_zero,List.set_cons_succ,i64_w,i32_w]
    rfl
  refine one_ (i:=9) (N:=some 16) #[true,true,true,true,true,true,true,true,true,true,false,false,false,false] rfl rfl (by kernel_rfl) (by decide) (fun K hK=>?_)
  refine value_ (w1:=(w.alloc (.cells #[.int .i64 st.last] 3)).drew) (v:=.slice (some ⟨w.heap.size,0,none⟩) 1 1) (by rfl) rfl (by go_simp) ?_
  refine hK.out _ _ (HQ1.out _) (fun hHeld=>?_)
  clear hK K
  refine norm_ (a':=?_) ?_ ?_
  rotate_left
  · show Act.put _ (some 16) _=_
    simp only [Act.put,List.setIfInBounds_toArray,List.set_cons_zero,List.set_cons_succ,i64_w,i32_w]
    rfl
  refine one_ (i:=10) (N:=some 17) #[true,true,true,true,true,true,true,true,true,true,true,false,false,false] rfl rfl (by kernel_rfl) (by decide) (fun K hK=>?_)
  (refine step_append_lies _ (by rfl) _ _ _ (by rfl) 0 3 i0 (.int .i64 0) 1 8 Tryz.underlying25 hi hz0 hz1 hz2 rfl (by omega) _ _ _ rfl (HO.out _) ⟨w.heap.size,0,none⟩ 1 1 _ rfl ?_ (HN.out _) ?_ (by omega) ?_ ?_ ?_ _ rfl ?_;rfl;(intro x hx;simp at hx;subst hx;rfl);(unfold maxLen;omega);omega;(simp <;> omega);intro g1 cap1 W2 hown hgrow hat hlt)
  refine hK.out _ _ (HQ2.out _ _ hgrow) (fun hHeld=>?_)
  clear hK K
  refine norm_ (a':=?_) ?_ ?_
  rotate_left
  · show Act.put _ (some 17) _=_
    simp only [Act.put,List.setIfInBounds_toArray,List.set_cons_zero,List.set_cons_succ,i64_w,i32_w]
    rfl
  refine pure_ (i:=11) (N:=some 18) (v:=?_) (a':=?_) #[true,true,true,true,true,true,true,true,true,true,true,true,false,false] rfl rfl (by kernel_rfl) (fun _ _ _ h=>h) (Or.inl ⟨by rfl,?_⟩) ?_ ?_
  rotate_left
  · intro w'
    go_simp
    with_reducible rfl
  rotate_left
  · simp only [Act.put,List.setIfInBounds_toArray,List.set_cons_zero,List.set_cons_succ,i64_w,i32_w]
    rfl
  refine pure_ (i:=12) (N:=some 19) (v:=?_) (a':=?_) #[true,true,true,true,true,true,true,true,true,true,true,true,true,false] rfl rfl (by kernel_rfl) (fun _ _ _ h=>h) (Or.inl ⟨by rfl,?_⟩) ?_ ?_
  rotate_left
  · intro w'
    go_simp
    with_reducible rfl
  rotate_left
  · simp only [Act.put,List.setIfInBounds_toArray,List.set_cons_zero,List.set_cons_succ,i64_w,i32_w]
    rfl
  have HOW:=Lib.hid hown
  have HGR:=Lib.hid hgrow
  have HAT:=Lib.hid hat
  clear hown hgrow hat
  obtain ⟨s0,s1,s2,s3⟩:=hHeld
  refine last_ (i:=13) (N:=none) #[true,true,true,true,true,true,true,true,true,true,true,true,true,true] rfl rfl (by kernel_rfl) (by decide) (fun K hK=>?_)
  refine skip_ (w1:=W2.setCell ⟨p,3,none⟩ (.slice (some ⟨g1,0,none⟩) (st.stk.length+1) cap1)) (by rfl) rfl (by go_simp) ?_
  refine hK.out _ _ ?_
  clear hK K
  refine done_ (by kernel_rfl) ?_
  go_wp2
  go_ret
  have HF:=HP.out _ W2 g1 cap1 HGR.out HOW.out (by rcases HAT.out with h | h;exact .inl h;exact .inr (by simpa using h)) (by omega)
  exact ⟨_,_,rfl,IsErr.nil _,HF.1,HF.2⟩

end Go.Proofs.YtmjcnomgpikncaaGreatDoor
