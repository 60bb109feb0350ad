/- The compact protocol: numbers are read. No condition. -/
import Derived.Test.YtmjcnomgpikncaaGreatDoorMt1
import Derived.Test.YtmjcnomgpikncaaGreatDoorMd4
import Derived.Test.YtmjcnomgpikncaaGreatDoorMb1
import Derived.Lib.VarintBits
import Derived.Test.YtmjcnomgpikncaaGreatDoorMt2
import Derived.Test.YtmjcnomgpikncaaGreatDoorMt3
set_option linter.unusedVariables false
set_option linter.unusedSimpArgs false
namespace Go.Proofs.YtmjcnomgpikncaaGreatDoor

open Go.RowKit Go.Deep



def CR (p m:Nat) (og cf:Value) (c:Cfg) (S:List Nat) (r:CSt × List UInt8) (w:World):Prop:=∃ off,CP p m og cf c off S r.1 r.2 w

section

variable {p m:Nat} {og cf:Value} {c:Cfg} {S:List Nat} {r:CSt × List UInt8} {w:World}

theorem CR.step (h:CR p m og cf c S r w) {T U:List Nat} {w1:World} (hs:Step T U w w1) (hn:∀ k,k∈S→k∉T):CR p m og cf c S r w1:=by
  obtain ⟨off,h⟩:=h
  exact ⟨off,h.step hs hn⟩

theorem CR.lt (h:CR p m og cf c S r w):∀ k,k∈S→k < w.heap.size:=by
  obtain ⟨off,h⟩:=h
  exact h.lt

theorem CR.cfg (h:CR p m og cf c S r w):∃ K,CfgAt c cf K w:=by
  obtain ⟨off,b,g,r,K,lf,nm,sc,rfl,hp,hm,hC,hk,hd,hr,hK⟩:=h
  exact ⟨K,hC⟩

theorem CR.cell0 (h:CR p m og cf c S r w):w.cell? ⟨p,0,none⟩=some (memV m)∧w.cell? ⟨p,2,none⟩=some cf:=by
  obtain ⟨off,b,g,r,K,lf,nm,sc,rfl,hp,hm,hC,hk,hd,hr,hK⟩:=h
  exact ⟨by rw [hp.cells];rfl,by rw [hp.cells];rfl⟩

end

theorem CR.took {p m b g r off1:Nat} {og cf lf nm:Value} {c:Cfg} {K:List Nat} {st:CSt} {sc1:List Value} {l1:List UInt8} {w w1:World} (hC:CfgAt c cf K w) (hk:StkAt r p lf st.stk w) (hd:p≠m∧p≠b∧p≠g) (hr:r≠m∧r≠b∧r≠g) (hK:∀ k,k∈K→k≠p∧k≠b∧k≠g∧k≠r)
    (hp:Cmp p (memV m) og cf ⟨lf,st.last,nm,st.pid,st.pend,st.bv,st.bn⟩ sc1 w1) (hM:Mem m b g off1 (Lib.byteCells l1) w1) (hs:Step [b,p] [b,p] w w1) :
    CR p m og cf c (p :: m :: b :: g :: r :: K) (st,l1) w1∧Step (p :: m :: b :: g :: r :: K) (p :: m :: b :: g :: r :: K) w w1:=by
  refine ⟨⟨off1,b,g,r,K,lf,nm,sc1,rfl,hp,hM,hC.step hs (fun k hk=>by have:=hK k hk;simp [this]),hk.step hs (fun h=>by simp [h,hr]),hd,hr,hK⟩,hs.more ?_ (fun k hk=>.inr (.inl hk))⟩
  intro k hk
  simp only [List.mem_cons,List.not_mem_nil,or_false] at hk
  rcases hk with rfl | rfl <;> simp

set_option maxRecDepth 100000 in
set_option maxHeartbeats 1000000 in
theorem cr_direct {p m:Nat} {og cf:Value} {c:Cfg} {S:List Nat} {st:CSt} {x:UInt8} {l:List UInt8} {w:World} (h:CR p m og cf c S (st,x :: l) w) :
    Calls Tryz.prog 180 #[.pointer (some ⟨p,0,none⟩)] w (RD (CR p m og cf c) S w (.tuple #[.int .u8 (x.toNat:Nat),.nilIface]) (st,l)):=by
  obtain ⟨off,b,g,r,K,lf,nm,sc,rfl,hp,hm,hC,hk,hd,hr,hK⟩:=h
  have c0:w.cell? ⟨p,0,none⟩=some (memV m):=by rw [hp.cells];rfl
  have cm:=hm.cell
  have hmeth:=mem_ReadByte
  have hnil:=mem_nil_ReadByte
  have HB:=Lib.hid (buf_readByte b g off (.int .u8 (x.toNat:Nat)) (Lib.byteCells l) w hm.2.2.2)
  have HP:=Lib.hid hp
  have HM:=Lib.hid hm
  clear hp hm
  go_enter Tryz.func180,Tryz.ntmps180
  go_wp2_with (go_at_call 112;refine HB.out.mono ?_;rintro e W1 ⟨rfl,hB,hs⟩)
  go_ret2
  have hT:=CR.took hC hk hd hr hK (HP.out.step hs (by simp [hd.2.1])) (HM.out.took hB hs (by simp [HM.out.2.1])) (hs.more (by simp) (fun k hk=>.inr (.inl hk)))
  exact ⟨_,rfl,hT.1,hT.2⟩

def unvar:Nat→Nat→Nat→List UInt8→Option (Int × Nat × List UInt8)
  | 0,_,_,l=>some (0,11,l)
  | _+1,_,_,[]=>none
  | n+1,F,V,x :: l=>if x.toNat < 128 then some (wrap64 ((V+x.toNat % 128 * F:Nat):Int),0,l) else unvar n (F * 128) (V+x.toNat % 128 * F) l

theorem unvar_uvarint:∀ (n F V N:Nat) (l:List UInt8),N < 128 ^ (n+1)→unvar (n+1) F V (Lib.uvarint N++l)=some (wrap64 ((V+N * F:Nat):Int),0,l)
  | n,F,V,N,l,h=>by
    by_cases hs:N < 128
    · rw [Lib.uvarint_small hs]
      have e:(N.toUInt8).toNat=N:=by
        show N % 256=N
        omega
      simp only [List.singleton_append,unvar,e,if_pos hs]
      rw [show N % 128=N by omega]
    · cases n with
      | zero=>simp at h;omega
      | succ n =>
        rw [Lib.uvarint_big (by omega)]
        have e:((N % 128+128).toUInt8).toNat=N % 128+128:=by
          show (N % 128+128) % 256=_
          omega
        rw [List.cons_append,unvar,e]
        rw [if_neg (by omega),unvar_uvarint n _ _ (N / 128) l (by rw [Nat.pow_succ] at h;omega)]
        have e2:(N % 128+128) % 128=N % 128:=by omega
        rw [e2,Nat.add_assoc]
        have e3:N % 128 * F+N / 128 * (F * 128)=N * F:=by
          rw [show N / 128 * (F * 128)=N / 128 * 128 * F by rw [Nat.mul_assoc,Nat.mul_comm F 128],← Nat.add_mul]
          congr 1
          omega
        rw [e3]

theorem i64_or_u64 (a b:Int):bits .or .i64 a b=IntKind.i64.wrap (bits .or .u64 (a % 18446744073709551616) (b % 18446744073709551616)):=by
  simp only [bits,BitVec.toNat_or,bitsOf]
  have e1:∀ x:Int,x % (2:Int) ^ IntKind.i64.bits=x % 18446744073709551616:=fun x=>rfl
  have e2:∀ x:Int,x % (2:Int) ^ IntKind.u64.bits=x % 18446744073709551616:=fun x=>rfl
  rw [e1,e1,e2,e2,Int.emod_emod_of_dvd _ (Int.dvd_refl _),Int.emod_emod_of_dvd _ (Int.dvd_refl _)]
  simp only [IntKind.wrap_i64,IntKind.wrap_u64]
  omega

end Go.Proofs.YtmjcnomgpikncaaGreatDoor

namespace Go.Proofs.YtmjcnomgpikncaaGreatDoor

open Go.RowKit Go.Deep



theorem cunz64_any (p:Nat) (x:Int) (w:World):Calls Tryz.prog 186 #[.pointer (some ⟨p,0,none⟩),.int .i64 x] w fun e w'=>e=.returned (.int .i64 (unz64 x))∧w=w':=by
  have ho:=i64_one x
  have hz:bits .xor .i64 (wrap64 (IntKind.u64.wrap x / 2)) (-(x % 2))=unz64 x:=by
    rw [show wrap64 (IntKind.u64.wrap x / 2)=IntKind.i64.wrap (IntKind.u64.wrap x / 2) from by rw [IntKind.wrap_i64];unfold wrap64;omega,← i64_unzigzag x,show IntKind.i64.wrap (-(x % 2))=-(x % 2) by rw [IntKind.wrap_i64];omega]
  rw [← hz]
  clear hz
  go_enter Tryz.func186,Tryz.ntmps186
  go_wp2
  go_ret
  exact ⟨rfl,rfl⟩

theorem cunz32_any (p:Nat) (x:Int) (w:World):Calls Tryz.prog 184 #[.pointer (some ⟨p,0,none⟩),.int .i32 x] w fun e w'=>e=.returned (.int .i32 (unz32 x))∧w=w':=by
  have ho:=i32_one x
  have hz:bits .xor .i32 (x % 4294967296 / 2) (-(x % 2))=unz32 x:=by
    rw [← i32_unzigzag x,show IntKind.i32.wrap (-(x % 2))=-(x % 2) by rw [IntKind.wrap_i32];omega,show IntKind.i32.wrap (IntKind.u32.wrap x / 2)=x % 4294967296 / 2 by simp only [IntKind.wrap_i32,IntKind.wrap_u32];omega]
  rw [← hz]
  clear hz
  go_enter Tryz.func184,Tryz.ntmps184
  go_wp2
  go_ret
  exact ⟨rfl,rfl⟩

theorem unz32_w (n:Int):unz32 (wrap32 n)=unz32 n:=by
  rw [show wrap32 n=IntKind.i32.wrap n from by rw [IntKind.wrap_i32];unfold wrap32;omega]
  exact unz32_wrap n

def v64 (l:List UInt8):Option (Int × List UInt8):=match unvar 10 1 0 l with
  | some (n,0,r)=>some (n,r)
  | _=>none

theorem v64_of {l r:List UInt8} {n:Int} (h:v64 l=some (n,r)):unvar 10 1 0 l=some (n,0,r):=by
  unfold v64 at h
  split at h
  · next h2=>injection h with h;injection h with h3 h4;rw [h2,h3,h4]
  · cases h

theorem v64_uvarint (N:Nat) (l:List UInt8) (h:N < 18446744073709551616):v64 (Lib.uvarint N++l)=some (wrap64 (N:Int),l):=by
  unfold v64
  rw [unvar_uvarint 9 1 0 N l (by have:18446744073709551616≤128 ^ (9+1):=by decide
                                  omega)]
  simp

theorem or_var1 (j V t:Nat) (hV:(V:Int) < 2 ^ j) (ht:((t % 18446744073709551616:Nat):Int) % 2 ^ j=0) (h63:V < 9223372036854775808) :
    bits .or .i64 (wrap64 (V:Int)) (IntKind.i64.wrap (t:Int))=wrap64 ((V+t:Nat):Int):=by
  have e1:wrap64 (V:Int) % 18446744073709551616=(V:Int):=by clear hV ht;unfold wrap64;omega
  have e2:IntKind.i64.wrap (t:Int) % 18446744073709551616=((t % 18446744073709551616:Nat):Int):=by clear hV ht;rw [IntKind.wrap_i64];omega
  have h1:(0:Int)≤V:=by clear hV ht;omega
  have h2:(V:Int) < 2 ^ 64:=by clear hV ht;omega
  have h3:(0:Int)≤((t % 18446744073709551616:Nat):Int):=by clear hV ht;omega
  have h4:((t % 18446744073709551616:Nat):Int) < 2 ^ 64:=by clear hV ht;omega
  rw [i64_or_u64,e1,e2,bits_join_low .u64 64 (by decide) wraps_u64 j (V:Int) _ h1 hV h2 h3 ht h4]
  clear hV ht
  rw [IntKind.wrap_i64]
  unfold wrap64
  omega

theorem or_var (i V y:Nat) (hi:i < 10) (hV:V < 128 ^ i):bits .or .i64 (wrap64 (V:Int)) (IntKind.i64.wrap ((y * 128 ^ i:Nat):Int))=wrap64 ((V+y * 128 ^ i:Nat):Int):=by
  have hc:i=0∨i=1∨i=2∨i=3∨i=4∨i=5∨i=6∨i=7∨i=8∨i=9:=by omega
  rcases hc with rfl | rfl | rfl | rfl | rfl | rfl | rfl | rfl | rfl | rfl
  · simp only [Nat.reducePow] at hV ⊢
    exact or_var1 0 V _ (by simp only [Int.reducePow];omega) (by simp only [Int.reducePow];omega) (by omega)
  · simp only [Nat.reducePow] at hV ⊢
    exact or_var1 7 V _ (by simp only [Int.reducePow];omega) (by simp only [Int.reducePow];omega) (by omega)
  · simp only [Nat.reducePow] at hV ⊢
    exact or_var1 14 V _ (by simp only [Int.reducePow];omega) (by simp only [Int.reducePow];omega) (by omega)
  · simp only [Nat.reducePow] at hV ⊢
    exact or_var1 21 V _ (by simp only [Int.reducePow];omega) (by simp only [Int.reducePow];omega) (by omega)
  · simp only [Nat.reducePow] at hV ⊢
    exact or_var1 28 V _ (by simp only [Int.reducePow];omega) (by simp only [Int.reducePow];omega) (by omega)
  · simp only [Nat.reducePow] at hV ⊢
    exact or_var1 35 V _ (by simp only [Int.reducePow];omega) (by simp only [Int.reducePow];omega) (by omega)
  · simp only [Nat.reducePow] at hV ⊢
    exact or_var1 42 V _ (by simp only [Int.reducePow];omega) (by simp only [Int.reducePow];omega) (by omega)
  · simp only [Nat.reducePow] at hV ⊢
    exact or_var1 49 V _ (by simp only [Int.reducePow];omega) (by simp only [Int.reducePow];omega) (by omega)
  · simp only [Nat.reducePow] at hV ⊢
    exact or_var1 56 V _ (by simp only [Int.reducePow];omega) (by simp only [Int.reducePow];omega) (by omega)
  · simp only [Nat.reducePow] at hV ⊢
    exact or_var1 63 V _ (by simp only [Int.reducePow];omega) (by simp only [Int.reducePow];omega) (by omega)

theorem wrap64_range (x:Int):-9223372036854775808≤wrap64 x∧wrap64 x < 9223372036854775808:=by unfold wrap64;omega

end Go.Proofs.YtmjcnomgpikncaaGreatDoor

namespace Go.Proofs.YtmjcnomgpikncaaGreatDoor

open Go.RowKit Go.Deep



theorem and128 (x:Int) (h0:0≤x) (h1:x < 256):bits .and .u8 x 128=x / 128 * 128:=by
  have h:∀ n:Fin 256,bits .and .u8 (n.val:Int) 128=(n.val:Int) / 128 * 128:=by decide +kernel
  obtain ⟨n,rfl⟩:=Int.eq_ofNat_of_zero_le h0
  exact h ⟨n,Int.ofNat_lt.1 h1⟩

theorem v64_step (x:UInt8) (V i:Nat) (hi:i < 10) (hV:V < 128 ^ i):bits .or .i64 (wrap64 (V:Int)) (wrap64 (wrap64 (bits .and .u8 (x.toNat:Int) 127) * 2 ^ (7 * i)))=wrap64 ((V+x.toNat % 128 * 128 ^ i:Nat):Int):=by
  have hx:=x.toNat_lt
  have e1:wrap64 (bits .and .u8 (x.toNat:Int) 127)=((x.toNat % 128:Nat):Int):=by
    rw [u8_and127 _ (by omega) (by omega)]
    unfold wrap64
    omega
  have e2:((x.toNat % 128:Nat):Int) * 2 ^ (7 * i)=((x.toNat % 128 * 128 ^ i:Nat):Int):=by
    rw [Int.natCast_mul,Int.natCast_pow,Int.pow_mul]
    rfl
  rw [e1,e2,show wrap64 ((x.toNat % 128 * 128 ^ i:Nat):Int)=IntKind.i64.wrap ((x.toNat % 128 * 128 ^ i:Nat):Int) from by rw [IntKind.wrap_i64];unfold wrap64;rfl]
  exact or_var i V _ hi hV

def V64At (p m:Nat) (og cf:Value) (c:Cfg) (st:CSt) (a:Int) (r:List UInt8) (w:World) (S:List Nat) (i V:Nat) (W:World):Prop :=
  ∃ l S',unvar (10 - i) (128 ^ i) V l=some (a,0,r)∧V < 128 ^ i∧CR p m og cf c S' (st,l) W∧Step S S' w W

set_option maxRecDepth 100000 in
set_option maxHeartbeats 2000000 in
theorem cr_v64 {p m:Nat} {og cf:Value} {c:Cfg} {S:List Nat} {st:CSt} {l:List UInt8} {w:World} (h:CR p m og cf c S (st,l) w) {a:Int} {r:List UInt8} (hu:v64 l=some (a,r)) :
    Calls Tryz.prog 185 #[.pointer (some ⟨p,0,none⟩)] w (RD (CR p m og cf c) S w (.tuple #[.int .i64 a,.nilIface]) (st,r)):=by
  have H0:=Lib.hid (show V64At p m og cf c st a r w S 0 0 w from ⟨l,S,v64_of hu,by simp,h,Step.refl _ _⟩)
  clear h hu
  go_enter Tryz.func185,Tryz.ntmps185
  go_wp2_with (fail)
  go_loopw [4,5,8] (fun vs vr vi wr=>∃ i V:Nat,vs=.int .u64 ((7 * i:Nat):Int)∧vr=.int .i64 (wrap64 (V:Int))∧vi=.int .i64 (i:Int)∧i≤10∧Hid (V64At p m og cf c st a r w S i V wr)) (fun _ _ vi _=>10 - (intOf vi).toNat)
  case atStart=>exact ⟨0,0,rfl,congrArg (Value.int .i64) (by simp [wrap64]),rfl,by omega,H0⟩
  case round =>
    obtain ⟨i,V,rfl,rfl,rfl,hi,hP⟩:=hrel
    obtain ⟨l,S1,hu,hV,hI,hs⟩:=hP.out
    clear hP
    by_cases hi10:i=10
    · subst hi10
      exact absurd hu (by simp [unvar])
    obtain ⟨n,hn⟩:∃ n,10 - i=n+1:=⟨9 - i,by omega⟩
    rw [hn] at hu
    cases l with
    | nil=>exact absurd hu (by simp [unvar])
    | cons x l =>
      rw [unvar] at hu
      have HD:=Lib.hid (cr_direct hI)
      have hx:=x.toNat_lt
      have hi':(i:Int) < 10:=by omega
      clear hI
      go_wp2_with (fail)
      refine HD.out.mono ?_
      rintro e W1 ⟨S2,rfl,hI2,hs2⟩
      have hE:=v64_step x V i (by omega) hV
      obtain ⟨E,hEe⟩:∃ E:Nat,V+x.toNat % 128 * 128 ^ i=E:=⟨_,rfl⟩
      rw [hEe] at hu hE
      by_cases h8:x.toNat < 128
      · rw [if_pos h8] at hu
        injection hu with hu
        injection hu with h1 h2
        injection h2 with _ h2
        subst h2
        have hb:(bits .and .u8 (x.toNat:Int) 128 != 128)=true:=by
          rw [and128 _ (by omega) (by omega)]
          simp
          omega
        have HI2:=Lib.hid hI2
        have HS2:=Lib.hid (hs.trans hs2)
        clear hI2 hs hs2 hV hEe
        go_wp2
        go_ret2
        exact ⟨_,rfl,HI2.out,HS2.out⟩
      · rw [if_neg h8] at hu
        have hb:(bits .and .u8 (x.toNat:Int) 128 != 128)=false:=by
          rw [and128 _ (by omega) (by omega)]
          simp
          omega
        have hVE:E < 128 ^ (i+1):=by
          rw [← hEe,Nat.pow_succ]
          have h3:x.toNat % 128 * 128 ^ i≤127 * 128 ^ i:=Nat.mul_le_mul_right _ (by omega)
          omega
        have HP:=Lib.hid (show V64At p m og cf c st a r w S (i+1) E W1 from ⟨l,S2,by rw [show 10 - (i+1)=n by omega,Nat.pow_succ];exact hu,hVE,hI2,hs.trans hs2⟩)
        clear hI2 hs hs2 hV hEe hVE hu
        go_wp2
        refine ⟨⟨i+1,E,by congr 1,rfl,by congr 1,by omega,HP⟩,?_⟩
        show 10 - ((i:Int)+1).toNat < 10 - ((i:Int)).toNat
        omega

end Go.Proofs.YtmjcnomgpikncaaGreatDoor

namespace Go.Proofs.YtmjcnomgpikncaaGreatDoor

open Go.RowKit Go.Deep



set_option maxRecDepth 100000 in
set_option maxHeartbeats 2000000 in
theorem cr_v32 {p m:Nat} {og cf:Value} {c:Cfg} {S:List Nat} {st:CSt} {l:List UInt8} {w:World} (h:CR p m og cf c S (st,l) w) {n:Int} {r:List UInt8} (hu:v64 l=some (n,r)) :
    Calls Tryz.prog 177 #[.pointer (some ⟨p,0,none⟩)] w (RD (CR p m og cf c) S w (.tuple #[.int .i32 (wrap32 n),.nilIface]) (st,r)):=by
  have HV:=Lib.hid (cr_v64 h hu)
  clear h hu
  go_enter Tryz.func177,Tryz.ntmps177
  go_wp2_with (fail)
  refine HV.out.mono ?_
  rintro e W1 ⟨S1,rfl,hI,hs⟩
  go_wp2
  go_ret2
  exact ⟨_,rfl,hI,hs⟩

set_option maxRecDepth 100000 in
set_option maxHeartbeats 2000000 in
theorem cr_i32 {p m:Nat} {og cf:Value} {c:Cfg} {S:List Nat} {st:CSt} {l:List UInt8} {w:World} (h:CR p m og cf c S (st,l) w) {n:Int} {r:List UInt8} (hu:v64 l=some (n,r)) :
    Calls Tryz.prog 137 #[.pointer (some ⟨p,0,none⟩),ctxV] w (RD (CR p m og cf c) S w (.tuple #[.int .i32 (unz32 n),.nilIface]) (st,r)):=by
  have HV:=Lib.hid (cr_v32 h hu)
  have HZ:=Lib.hid (fun w=>cunz32_any p (wrap32 n) w)
  rw [unz32_w] at HZ
  obtain ⟨k,hk⟩:∃ k,wrap32 n=k:=⟨_,rfl⟩
  rw [hk] at HV HZ
  clear h hu hk
  go_enter Tryz.func137,Tryz.ntmps137
  go_wp2_with (fail)
  refine HV.out.mono ?_
  rintro e W1 ⟨S1,rfl,hI,hs⟩
  go_wp2_with (go_at_call 184;refine (HZ.out _).mono ?_;rintro e w' ⟨rfl,rfl⟩)
  go_ret2
  exact ⟨_,rfl,hI,hs⟩

set_option maxRecDepth 100000 in
set_option maxHeartbeats 2000000 in
theorem cr_i16 {p m:Nat} {og cf:Value} {c:Cfg} {S:List Nat} {st:CSt} {l:List UInt8} {w:World} (h:CR p m og cf c S (st,l) w) {n:Int} {r:List UInt8} (hu:v64 l=some (n,r)) :
    Calls Tryz.prog 136 #[.pointer (some ⟨p,0,none⟩),ctxV] w (RD (CR p m og cf c) S w (.tuple #[.int .i16 (IntKind.i16.wrap (unz32 n)),.nilIface]) (st,r)):=by
  have HV:=Lib.hid (cr_i32 h hu)
  clear h hu
  go_enter Tryz.func136,Tryz.ntmps136
  go_wp2_with (fail)
  refine HV.out.mono ?_
  rintro e W1 ⟨S1,rfl,hI,hs⟩
  go_wp2
  go_ret2
  exact ⟨_,rfl,hI,hs⟩

set_option maxRecDepth 100000 in
set_option maxHeartbeats 2000000 in
theorem cr_i64 {p m:Nat} {og cf:Value} {c:Cfg} {S:List Nat} {st:CSt} {l:List UInt8} {w:World} (h:CR p m og cf c S (st,l) w) {n:Int} {r:List UInt8} (hu:v64 l=some (n,r)) :
    Calls Tryz.prog 138 #[.pointer (some ⟨p,0,none⟩),ctxV] w (RD (CR p m og cf c) S w (.tuple #[.int .i64 (unz64 n),.nilIface]) (st,r)):=by
  have HV:=Lib.hid (cr_v64 h hu)
  have HZ:=Lib.hid (fun w=>cunz64_any p n w)
  clear h hu
  go_enter Tryz.func138,Tryz.ntmps138
  go_wp2_with (fail)
  refine HV.out.mono ?_
  rintro e W1 ⟨S1,rfl,hI,hs⟩
  go_wp2_with (go_at_call 186;refine (HZ.out _).mono ?_;rintro e w' ⟨rfl,rfl⟩)
  go_ret2
  exact ⟨_,rfl,hI,hs⟩

set_option maxRecDepth 100000 in
set_option maxHeartbeats 2000000 in
theorem cr_byte {p m:Nat} {og cf:Value} {c:Cfg} {S:List Nat} {st:CSt} {x:UInt8} {l:List UInt8} {w:World} (h:CR p m og cf c S (st,x :: l) w) :
    Calls Tryz.prog 132 #[.pointer (some ⟨p,0,none⟩),ctxV] w (RD (CR p m og cf c) S w (.tuple #[.int .i8 (i8w x),.nilIface]) (st,l)):=by
  have HV:=Lib.hid (cr_direct h)
  have hi:i8w x=IntKind.i8.wrap (x.toNat:Int):=rfl
  rw [hi]
  clear h hi
  go_enter Tryz.func132,Tryz.ntmps132
  go_wp2_with (fail)
  refine HV.out.mono ?_
  rintro e W1 ⟨S1,rfl,hI,hs⟩
  go_wp2
  go_ret2
  exact ⟨_,rfl,hI,hs⟩

theorem u8_is_one (x:UInt8):((x.toNat:Int)=1)↔x=1:=by
  constructor
  · intro h
    apply UInt8.toNat_inj.1
    show x.toNat=1
    omega
  · rintro rfl
    rfl

set_option maxRecDepth 100000 in
set_option maxHeartbeats 2000000 in
theorem cr_bool {p m:Nat} {og cf:Value} {c:Cfg} {S:List Nat} {st:CSt} {x:UInt8} {l:List UInt8} {w:World} (h:CR p m og cf c S (st,x :: l) w) (hb:st.bn=false) :
    Calls Tryz.prog 131 #[.pointer (some ⟨p,0,none⟩),ctxV] w (RD (CR p m og cf c) S w (.tuple #[.bool (decide (x=1)),.nilIface]) (st,l)):=by
  have HV:=Lib.hid (cr_direct h)
  have hx:=u8_is_one x
  obtain ⟨off,h⟩:=h
  obtain ⟨c0,c4,⟨x5,c5⟩,c6,c7,c8,c9,f⟩:=h.read
  rw [hb] at c9
  clear f h c0 c4 c8 c5 c6 c7
  by_cases h1:x=1
  · have h2:=hx.2 h1
    have h3:decide (x=1)=true:=by simpa using h1
    rw [h3]
    rw [h2] at HV
    clear h3 hx h1 h2
    go_enter Tryz.func131,Tryz.ntmps131
    go_wp2_with (fail)
    refine HV.out.mono ?_
    rintro e W1 ⟨S1,rfl,hI,hs⟩
    go_wp2
    go_ret2
    exact ⟨_,rfl,hI,hs⟩
  · have h2:¬ (x.toNat:Int)=1:=fun e=>h1 (hx.1 e)
    have h3:decide (x=1)=false:=by simpa using h1
    rw [h3]
    obtain ⟨k,hk⟩:∃ k:Int,(x.toNat:Int)=k:=⟨_,rfl⟩
    rw [hk] at HV h2
    have h4:(k == 1)=false:=by simpa using h2
    clear h3 hx h1 hk
    go_enter Tryz.func131,Tryz.ntmps131
    go_wp2_with (fail)
    refine HV.out.mono ?_
    rintro e W1 ⟨S1,rfl,hI,hs⟩
    go_wp2
    go_ret2
    exact ⟨_,rfl,hI,hs⟩

set_option maxRecDepth 100000 in
set_option maxHeartbeats 2000000 in
theorem cr_bool_kept {p m:Nat} {og cf:Value} {c:Cfg} {S:List Nat} {st:CSt} {l:List UInt8} {w:World} (h:CR p m og cf c S (st,l) w) (hb:st.bn=true) :
    Calls Tryz.prog 131 #[.pointer (some ⟨p,0,none⟩),ctxV] w (RD (CR p m og cf c) S w (.tuple #[.bool st.bv,.nilIface]) ({ st with bn:=false },l)):=by
  obtain ⟨off,h⟩:=h
  obtain ⟨c0,c4,⟨x5,c5⟩,c6,c7,c8,c9,f⟩:=h.read
  rw [hb] at c9
  have f9:=f 9
  have HI:=Lib.hid h
  clear f h c0 c4 c5 c6 c7
  go_enter Tryz.func131,Tryz.ntmps131
  go_wp2
  go_ret2
  exact ⟨_,rfl,⟨off,HI.out.setBn _⟩,HI.out.stepSet 9 _⟩

end Go.Proofs.YtmjcnomgpikncaaGreatDoor

namespace Go.Proofs.YtmjcnomgpikncaaGreatDoor

open Go.RowKit Go.Deep



theorem Cmp.filled {p n:Nat} {tr og cf:Value} {s:CS} {sc bs:List Value} {w w1:World} (h:Cmp p tr og cf s sc w) (hn:n≤64) (hb:n≤bs.length) (h1:∀ v∈bs,v.oneCell'=true)
    (hw:w1.heap[p]?=some (.cells ((CS.row tr og cf s sc).toArray.toList.take 10++bs.take n++(CS.row tr og cf s sc).toArray.toList.drop (10+n)).toArray 220 (0,0))):Cmp p tr og cf s (bs.take n++sc.drop n) w1:=by
  refine ⟨?_,?_,fun v hv=>?_⟩
  · rw [hw]
    congr 3
    simp [CS.row,Nat.add_comm 10]
  · have:=h.2.1
    simp;omega
  · rcases List.mem_append.1 hv with hv | hv
    · exact h1 v (List.mem_of_mem_take hv)
    · exact h.2.2 v (List.mem_of_mem_drop hv)

theorem cscratch_IsB {p n:Nat} {tr og cf:Value} {s:CS} {sc:List Value} {l:List UInt8} {w:World} (h:Cmp p tr og cf s ((Lib.byteCells l).take n++sc.drop n) w) (hn:n≤l.length) (h64:n≤64):IsB (Lib.byteCells (l.take n)) (.slice (some ⟨p,10,none⟩) n 64) p w:=by
  have hlen:(Lib.byteCells (l.take n)).length=n:=by rw [Lib.byteCells_length,List.length_take];omega
  have he:Lib.byteCells (l.take n)=(Lib.byteCells l).take n:=by simp [Lib.byteCells,List.map_take]
  refine ⟨64,.inr ⟨10,by rw [hlen],by rw [hlen];exact h64,by unfold maxLen;omega,h.lt,fun j x hj=>?_⟩⟩
  have hj':j < (Lib.byteCells (l.take n)).length:=(List.getElem?_eq_some_iff.1 hj).1
  rw [h.cells,Nat.add_comm]
  simp only [CS.row,List.getElem?_cons_succ]
  rw [List.getElem?_append_left (by rw [← he];exact hj'),← he]
  exact hj

theorem Cmp.size {p:Nat} {tr og cf:Value} {s:CS} {sc:List Value} {w:World} (h:Cmp p tr og cf s sc w):(CS.row tr og cf s sc).toArray.size=74:=by simp [CS.row,h.2.1]

theorem byteCells_drop (n:Nat) (l:List UInt8):(Lib.byteCells l).drop n=Lib.byteCells (l.drop n):=by simp [Lib.byteCells,List.map_drop]

theorem byteCells_take (n:Nat) (l:List UInt8):(Lib.byteCells l).take n=Lib.byteCells (l.take n):=by simp [Lib.byteCells,List.map_take]

set_option maxRecDepth 100000 in
set_option maxHeartbeats 2000000 in
theorem cr_dbl {p m:Nat} {og cf:Value} {c:Cfg} {S:List Nat} {st:CSt} {b0 b1 b2 b3 b4 b5 b6 b7:UInt8} {l:List UInt8} {w:World} (h:CR p m og cf c S (st,b0 :: b1 :: b2 :: b3 :: b4 :: b5 :: b6 :: b7 :: l) w) :
    Calls Tryz.prog 133 #[.pointer (some ⟨p,0,none⟩),ctxV] w (RD (CR p m og cf c) S w (.tuple #[.float .f64 (Lib.leNat [b0,b1,b2,b3,b4,b5,b6,b7]),.nilIface]) (st,l)):=by
  obtain ⟨off,b,g,r,K,lf,nm,sc,rfl,hp,hm,hC,hk,hd,hr,hK⟩:=h
  have c0:w.cell? ⟨p,0,none⟩=some (memV m):=by rw [hp.cells];rfl
  have HR:=Lib.hid (readFull_whole m b g off p 10 8 64 (Lib.byteCells (b0 :: b1 :: b2 :: b3 :: b4 :: b5 :: b6 :: b7 :: l)) _ _ w hm (by omega) (by simp [Lib.byteCells_length]) (Lib.byteCells_one _) hp.1 hd.1 hd.2.1 hd.2.2 (by rw [hp.size];omega) (by unfold maxLen;omega) (by omega) (by unfold maxLen;omega))
  go_enter Tryz.func133,Tryz.ntmps133
  go_wp2_with (fail)
  refine HR.out.mono ?_
  rintro e W1 ⟨rfl,hM,hpp,hs⟩
  have hB:=hp.filled (bs:=Lib.byteCells (b0 :: b1 :: b2 :: b3 :: b4 :: b5 :: b6 :: b7 :: l)) (n:=8) (by omega) (by simp [Lib.byteCells_length]) (Lib.byteCells_one _) hpp
  have hM':Mem m b g (off+8) (Lib.byteCells l) W1:=hM
  have d0:W1.cell? ⟨p,10,none⟩=some (.int .u8 b0.toNat):=by rw [hB.cells];rfl
  have d1:W1.cell? ⟨p,11,none⟩=some (.int .u8 b1.toNat):=by rw [hB.cells];rfl
  have d2:W1.cell? ⟨p,12,none⟩=some (.int .u8 b2.toNat):=by rw [hB.cells];rfl
  have d3:W1.cell? ⟨p,13,none⟩=some (.int .u8 b3.toNat):=by rw [hB.cells];rfl
  have d4:W1.cell? ⟨p,14,none⟩=some (.int .u8 b4.toNat):=by rw [hB.cells];rfl
  have d5:W1.cell? ⟨p,15,none⟩=some (.int .u8 b5.toNat):=by rw [hB.cells];rfl
  have d6:W1.cell? ⟨p,16,none⟩=some (.int .u8 b6.toNat):=by rw [hB.cells];rfl
  have d7:W1.cell? ⟨p,17,none⟩=some (.int .u8 b7.toNat):=by rw [hB.cells];rfl
  have HB:=Lib.hid hB
  have HC:=Lib.hid hC
  have HK:=Lib.hid hk
  clear HR hM hpp hB hC hk
  go_wp2_with (first | (go_at_call 181;go_in) | (go_at_call 199;refine (Tryz.binary_LE_Uint64 p 10 8 64 b0 b1 b2 b3 b4 b5 b6 b7 _ (Nat.le_refl _) d0 d1 d2 d3 d4 d5 d6 d7).mono ?_))
  rintro e W2 ⟨rfl,hb⟩
  have hs2:Step [b,p] [b,p] w W2:=hs.trans (Step.ofBelow hb)
  have hM2:Mem m b g (off+8) (Lib.byteCells l) W2:=hM'.step (Step.ofBelow (S:=[]) hb) (by simp) (by simp) (by simp)
  have hB2:=HB.out.step (Step.ofBelow (S:=[]) hb) (by simp)
  clear d0 d1 d2 d3 d4 d5 d6 d7
  have hfo:=f64of
  go_wp2
  go_ret2
  have hT:=CR.took HC.out HK.out hd hr hK hB2 hM2 hs2
  exact ⟨_,rfl,hT.1,hT.2⟩

set_option maxRecDepth 100000 in
set_option maxHeartbeats 2000000 in
theorem cr_str_bad {p m:Nat} {og cf:Value} {c:Cfg} {S:List Nat} {st:CSt} {l:List UInt8} {w:World} (h:CR p m og cf c S (st,l) w) {n:Int} {r:List UInt8} (hu:v64 l=some (n,r)) (hk:sizeK c (wrap32 n)≠0) :
    Calls Tryz.prog 147 #[.pointer (some ⟨p,0,none⟩),ctxV] w (Told (CR p m og cf c) .str S w ({},sizeK c (wrap32 n),(st,r))):=by
  have H2:=Lib.hid (cr_v32 h hu)
  obtain ⟨n,hn⟩:∃ k,wrap32 n=k:=⟨_,rfl⟩
  rw [hn] at H2 hk ⊢
  obtain ⟨k,hkk⟩:∃ k,sizeK c n=k:=⟨_,rfl⟩
  rw [hkk] at hk ⊢
  clear h hu hn
  go_enter Tryz.func147,Tryz.ntmps147
  go_wp2_with (fail)
  refine H2.out.mono ?_
  rintro e W2 ⟨S2,rfl,hI,hs⟩
  obtain ⟨c0,c2⟩:=hI.cell0
  obtain ⟨K,hC⟩:=hI.cfg
  have HCK:=Lib.hid (check_size hC n)
  rw [hkk] at HCK
  have HI:=Lib.hid hI
  clear hI hC H2
  go_wp2_with (fail)
  refine HCK.out.mono ?_
  rintro e W3 ⟨ev,rfl,he,hb⟩
  rcases he with ⟨h0,_⟩ | he
  · exact absurd h0 hk
  have HE:=Lib.hid he
  obtain ⟨bb,t,er,ms,hk1,hk2,rfl,hbb⟩:=he
  clear hk1 hk2 hbb hk hkk
  go_wp2
  go_ret2
  exact ⟨_,_,rfl,.inr HE.out,HI.out.step (Step.ofBelow (S:=[]) hb) (by simp),hs.trans (Step.ofBelow hb)⟩

set_option maxRecDepth 100000 in
set_option maxHeartbeats 2000000 in
theorem cr_str_ok {p m:Nat} {og cf:Value} {c:Cfg} {S:List Nat} {st:CSt} {l:List UInt8} {w:World} (h:CR p m og cf c S (st,l) w) {n0:Int} {r0:List UInt8} (hu:v64 l=some (n0,r0)) (n:Nat) (hn:wrap32 n0=n) (hk:sizeK c n=0) (hnl:n≤r0.length) :
    Calls Tryz.prog 147 #[.pointer (some ⟨p,0,none⟩),ctxV] w (Told (CR p m og cf c) .str S w ({ s:=r0.take n },0,(st,r0.drop n))):=by
  have H2:=Lib.hid (cr_v32 h hu)
  have hnr:n < 2147483648:=by
    have:wrap32 n0 < 2147483648:=by unfold wrap32;omega
    omega
  rw [hn] at H2
  clear h hu hn
  go_enter Tryz.func147,Tryz.ntmps147
  go_wp2_with (fail)
  refine H2.out.mono ?_
  rintro e W2 ⟨S2,rfl,hI,hs⟩
  obtain ⟨c0,c2⟩:=hI.cell0
  obtain ⟨K,hC⟩:=hI.cfg
  have HCK:=Lib.hid (check_size hC n)
  rw [hk] at HCK
  have HI:=Lib.hid hI
  clear hI hC H2
  go_wp2_with (fail)
  refine HCK.out.mono ?_
  rintro e W3 ⟨ev,rfl,he,hb⟩
  obtain rfl:=he.zero
  have HI3:=Lib.hid (HI.out.step (Step.ofBelow (S:=[]) hb) (by simp))
  have HS3:=Lib.hid (hs.trans (Step.ofBelow hb))
  clear hs hb he c0 c2 HCK HI
  by_cases h0:n=0
  · subst h0
    go_wp2
    go_ret2
    exact ⟨_,_,rfl,IsErr.nil _,HI3.out,HS3.out⟩
  have hq0:¬ (n:Int)=0:=by omega
  obtain ⟨off,b,g,r,K3,lf,nm,sc,rfl,hp,hm,hC,hkk,hd,hr,hK⟩:=HI3.out
  have c0:W3.cell? ⟨p,0,none⟩=some (memV m):=by rw [hp.cells];rfl
  by_cases h64:n < 64
  · have hq1:(n:Int) < 64:=by omega
    have hq2:(0:Int)≤(n:Int):=by omega
    have hq3:(n:Int)≤64:=by omega
    have HR:=Lib.hid (readFull_whole m b g off p 10 n 64 (Lib.byteCells r0) _ _ W3 hm (by omega) (by rw [Lib.byteCells_length];exact hnl) (Lib.byteCells_one _) hp.1 hd.1 hd.2.1 hd.2.2 (by rw [hp.size];omega) (by unfold maxLen;omega) (by omega) (by unfold maxLen;omega))
    have HP:=Lib.hid hp
    have HC:=Lib.hid hC
    have HKK:=Lib.hid hkk
    clear hp hm hC hkk
    go_wp2_with (go_at_call 91;refine HR.out.mono ?_)
    rintro e W4 ⟨rfl,hM,hpp,hs4⟩
    have hB:=HP.out.filled (bs:=Lib.byteCells r0) (n:=n) (by omega) (by rw [Lib.byteCells_length];exact hnl) (Lib.byteCells_one _) hpp
    have HB:=Lib.hid hB
    have HM:=Lib.hid (show Mem m b g (off+n) (Lib.byteCells (r0.drop n)) W4 from by
      rw [← byteCells_drop];exact hM)
    have HV:=Lib.hid (fun W (hW:Step [] [] W4 W)=>str_conv ((cscratch_IsB hB hnl (by omega)).step hW (by simp)))
    clear hB hM hpp HR
    go_wp2_with (fail)
    have cv0:=HV.out W4 (Step.refl _ _)
    have cv1:=HV.out W4.drew (Step.refl _ _).drew
    go_region_with (go_at_call 178;go_in)
    all_goals go_wp2
    all_goals go_ret2
    all_goals (
      have hT:=CR.took HC.out HKK.out hd hr hK HB.out HM.out hs4
      exact ⟨_,_,rfl,IsErr.nil _,hT.1.step ((Step.refl [] _).drew) (by simp),(HS3.out.trans hT.2).drew⟩)
  · have hq1:¬ (n:Int) < 64:=by omega
    have HR:=Lib.hid (safe_read m b g off n (Lib.byteCells r0) W3 hm (by omega) (by rw [Lib.byteCells_length];exact hnl) (Lib.byteCells_one _) (by omega))
    have HP:=Lib.hid hp
    have HC:=Lib.hid hC
    have HKK:=Lib.hid hkk
    clear hp hm hC hkk
    go_wp2_with (first | (go_at_call 82;refine HR.out.mono ?_;rintro e W4 ⟨v,dd,rfl,hIB,hM,hs4,hdd⟩))
    have HV:=Lib.hid (fun W (hW:Step [] [] W4 W)=>str_conv (show IsB (Lib.byteCells (r0.take n)) v dd W from by
      rw [← byteCells_take];exact hIB.step hW (by simp)))
    have HM:=Lib.hid (show Mem m b g (off+n) (Lib.byteCells (r0.drop n)) W4 from by
      rw [← byteCells_drop];exact hM)
    clear hIB hM HR
    have cv0:=HV.out W4 (Step.refl _ _)
    have cv1:=HV.out W4.drew (Step.refl _ _).drew
    go_region_with (go_at_call 178;go_in)
    all_goals go_wp2
    all_goals go_ret2
    all_goals (
      have hT:=CR.took HC.out HKK.out hd hr hK (HP.out.step hs4 (by simp [hd.2.1])) HM.out (hs4.more (by simp) (fun k hk=>.inr (.inl hk)))
      exact ⟨_,_,rfl,IsErr.nil _,hT.1.step ((Step.refl [] _).drew) (by simp),(HS3.out.trans hT.2).drew⟩)

theorem newExc_nil (w:World):Calls Tryz.prog 178 #[.nilIface] w fun e w'=>e=.returned .nilIface∧w=w':=by
  go_enter Tryz.func178,Tryz.ntmps178
  go_wp2
  go_ret
  exact ⟨rfl,rfl⟩

set_option maxRecDepth 100000 in
set_option maxHeartbeats 2000000 in
theorem cr_uuid {p m:Nat} {og cf:Value} {c:Cfg} {S:List Nat} {st:CSt} {l:List UInt8} {w:World} (h:CR p m og cf c S (st,l) w) (hn:16≤l.length) :
    Calls Tryz.prog 150 #[.pointer (some ⟨p,0,none⟩),ctxV] w (RD (CR p m og cf c) S w (.tuple #[.agg (Lib.byteCells (l.take 16)).toArray,.nilIface]) (st,l.drop 16)):=by
  have HLT:=Lib.hid h.lt
  obtain ⟨off,b,g,r,K,lf,nm,sc,rfl,hp,hm,hC,hk,hd,hr,hK⟩:=h
  have hR:=fun o=>readFull_whole m b g off p 10 16 64 (Lib.byteCells l) _ _ (w.alloc o) (hm.alloc o) (by omega) (by rw [Lib.byteCells_length];exact hn) (Lib.byteCells_one _) (hp.alloc o).1 hd.1 hd.2.1 hd.2.2 (by rw [hp.size];omega) (by unfold maxLen;omega) (by omega) (by unfold maxLen;omega)
  have HR:=Lib.hid hR
  clear hR
  have c0:∀ o,(w.alloc o).cell? ⟨p,0,none⟩=some (memV m):=fun o=>by rw [(hp.alloc o).cells];rfl
  have hpl:=hp.lt
  have hbl:=hm.2.2.2.lt.1
  go_enter Tryz.func150,Tryz.ntmps150
  have HL:=Lib.hid (show (l.take 16).length=16 by rw [List.length_take];omega)
  go_wp2_with (first
    | (go_at_call 178;go_in)
    | (go_at_call 91;refine (HR.out _).mono ?_;rintro e W1 ⟨rfl,hM,hpp,hs⟩;have hv:=(hs.block w.heap.size (by simp) (by simp;omega)).trans (heap_alloc_new w _);have hB:=hp.filled (bs:=Lib.byteCells l) (n:=16) (by omega) (by rw [Lib.byteCells_length];exact hn) (Lib.byteCells_one _) hpp;obtain ⟨W2,hcp,h2,hs2⟩:=copy16 (cscratch_IsB hB hn (by omega)) hn hv;have HM:=Lib.hid hM;have HB:=Lib.hid hB;have HS:=Lib.hid hs;have H2:=Lib.hid h2;have HS2:=Lib.hid hs2;clear hM hpp hs hv hB h2 hs2)
    | (refine wpList_load_mid rfl 143 _ rfl w.heap.size 0 rfl (Lib.byteCells (l.take 16)) _ (uuid_range H2.out) Tryz.underlying143 rfl (by rw [Lib.byteCells_length,HL.out];exact infoUuid) ?_)
    | (refine wpList_store_mid rfl 143 _ _ rfl w.heap.size 0 (Lib.byteCells (l.take 16)).toArray rfl rfl (by simpa [Lib.byteCells_length,HL.out] using uuid_there H2.out HL.out) (by simp only [List.size_toArray,Lib.byteCells_length,HL.out];exact infoUuid) (all_oneCell_toArray (Lib.byteCells_one _)) ?_))
  have hlen:(Lib.byteCells (l.take 16)).length=16:=by rw [Lib.byteCells_length,List.length_take];omega
  have hrg:=uuid_range H2.out
  have hth:=uuid_there H2.out HL.out
  have hun:=Tryz.underlying143
  have hin:(Tryz.prog.info? 143).map (·.size)=some (Lib.byteCells (l.take 16)).length:=by rw [hlen];exact infoUuid
  have hin2:(Tryz.prog.info? 143).map (·.size)=some (Lib.byteCells (l.take 16)).toArray.size:=by rw [List.size_toArray];exact hin
  have hone:=all_oneCell_toArray (Lib.byteCells_one (l.take 16))
  have hsz:(Lib.byteCells (l.take 16)).toArray.size=16:=by rw [List.size_toArray];exact hlen
  have hone1:∀ v,v∈Lib.byteCells (l.take 16)→v.oneCell'=true:=Lib.byteCells_one _
  have hth':W2.drew.there w.heap.size 0 (Lib.byteCells (l.take 16)).length:=by rw [hlen];simpa using hth
  have hrs:(W2.drew.setCells w.heap.size 0 (Lib.byteCells (l.take 16))).rangeAt w.heap.size 0 (Lib.byteCells (l.take 16)):=World.rangeAt_setCells_same _ _ _ _ hth'
  have hts:(W2.drew.setCells w.heap.size 0 (Lib.byteCells (l.take 16))).there w.heap.size 0 (Lib.byteCells (l.take 16)).toArray.size:=by
    have h2:W2.drew.there w.heap.size 0 (Lib.byteCells (l.take 16)).toArray.size:=by rw [hsz];simpa using hth
    first | exact World.there_setCells h2 _ _ _ | exact World.there_setCells _ _ _ h2 | (simp;exact h2)
  have HRS:=Lib.hid hrs
  go_region_held3 (fun W'=>W'.rangeAt w.heap.size 0 (Lib.byteCells (l.take 16))∧W'.there w.heap.size 0 (Lib.byteCells (l.take 16)).toArray.size) (first | exact ⟨hrg,by rw [hsz];exact hth⟩ | exact ⟨hrs,hts⟩ | exact ⟨by simpa using hrg,by rw [hsz];simpa using hth⟩)
    (first
      | (go_at_call 178;refine (newExc_nil _).mono ?_;rintro e w' ⟨rfl,rfl⟩)
      | (refine wp_store_mid 143 _ _ rfl w.heap.size 0 (Lib.byteCells (l.take 16)).toArray rfl rfl (by assumption) hin2 hone ?_))
  go_wp2_with (fail)
  have hT:=CR.took hC hk hd hr hK HB.out (show Mem m b g (off+16) (Lib.byteCells (l.drop 16)) W1 from by
    rw [← byteCells_drop];exact HM.out) (((Step.refl _ w).alloc _).trans HS.out)
  have HT:=Lib.hid hT
  have hrun:=run_loadVar_mid (P:=Tryz.prog) _ w.heap.size 0 143 (Lib.byteCells (l.take 16)) _ HRS.out Tryz.underlying143 rfl (by rw [hlen];exact infoUuid)
  have hs3:Step [w.heap.size] [w.heap.size] W1 (W2.drew.setCells w.heap.size 0 (Lib.byteCells (l.take 16))):=(HS2.out.drew).setCells (.inl (by simp)) 0 _
  refine bodyPost_ret (v:=.tuple #[.agg (Lib.byteCells (l.take 16)).toArray,.nilIface]) (results_cell_tmp Tryz.results150 _ _ _ (by rfl) hrun) rfl ?_
  exact ⟨_,rfl,HT.out.1.step hs3 (fun k hk hk2=>by
    simp only [List.mem_cons,List.not_mem_nil,or_false] at hk2
    subst hk2
    exact absurd (HLT.out _ hk) (Nat.lt_irrefl _)),HT.out.2.fresh hs3 (by simp)⟩

end Go.Proofs.YtmjcnomgpikncaaGreatDoor
