/- The compact protocol's numbers. No condition. -/
import Derived.WalkKit
import Derived.Lib.Varint
import Derived.Lib.Zigzag
import Derived.Lib.VarintBits
import Derived.Test.YtmjcnomgpikncaaGreatDoorMa3
set_option linter.unusedVariables false
set_option linter.unusedSimpArgs false
namespace Go.Proofs.YtmjcnomgpikncaaGreatDoor

open Go.RowKit



theorem and_high (W n:Nat) (hW:7≤W) (hn:n < 2 ^ W):n &&& (2 ^ W - 128)=n / 128 * 128:=by
  have e:2 ^ W - 128=(2 ^ (W - 7) - 1) * 2 ^ 7:=by
    obtain ⟨k,rfl⟩:∃ k,W=k+7:=⟨W - 7,by omega⟩
    rw [Nat.add_sub_cancel,Nat.pow_add,Nat.sub_mul]
  rw [e]
  apply Nat.eq_of_testBit_eq
  intro i
  rw [Nat.testBit_and,show n / 128 * 128=n / 2 ^ 7 * 2 ^ 7 from rfl,← Nat.shiftLeft_eq,← Nat.shiftLeft_eq,Nat.testBit_shiftLeft,Nat.testBit_shiftLeft,Nat.testBit_two_pow_sub_one,Nat.testBit_div_two_pow]
  by_cases h7:7≤i
  · have e2:i - 7+7=i:=by omega
    simp only [ge_iff_le,h7,decide_true,Bool.true_and,e2]
    by_cases hi:i < W
    · have:i - 7 < W - 7:=by omega
      simp [this]
    · have:n.testBit i=false:=Nat.testBit_lt_two_pow (Nat.lt_of_lt_of_le hn (Nat.pow_le_pow_right (by decide) (by omega)))
      simp [this]
  · simp [h7]

theorem bitsOf (k:IntKind) (x:Int):(BitVec.ofInt k.bits x).toNat=(x % (2:Int) ^ k.bits).toNat:=by
  rw [BitVec.toNat_ofInt]
  norm_cast

theorem i32_and_high {x:Int} {n:Nat} (h:x % 4294967296=n):(bits .and .i32 x (-128) == 0)=decide (n < 128):=by
  have hn:n < 4294967296:=by omega
  have e:bits .and .i32 x (-128)=IntKind.i32.wrap ((n &&& (2 ^ 32 - 128):Nat):Int):=by
    simp only [bits,BitVec.toNat_and,bitsOf]
    have e1:(x % (2:Int) ^ IntKind.i32.bits).toNat=n:=by show (x % 4294967296).toNat=n;omega
    have e2:((-128:Int) % (2:Int) ^ IntKind.i32.bits).toNat=2 ^ 32 - 128:=by decide
    rw [e1,e2]
  rw [e,and_high 32 n (by omega) hn,IntKind.wrap_i32]
  rw [Bool.eq_iff_iff]
  simp only [beq_iff_eq,decide_eq_true_eq]
  omega

theorem i64_and_high {x:Int} {n:Nat} (h:x % 18446744073709551616=n):(bits .and .i64 x (-128) == 0)=decide (n < 128):=by
  have hn:n < 18446744073709551616:=by omega
  have e:bits .and .i64 x (-128)=IntKind.i64.wrap ((n &&& (2 ^ 64 - 128):Nat):Int):=by
    simp only [bits,BitVec.toNat_and,bitsOf]
    have e1:(x % (2:Int) ^ IntKind.i64.bits).toNat=n:=by show (x % 18446744073709551616).toNat=n;omega
    have e2:((-128:Int) % (2:Int) ^ IntKind.i64.bits).toNat=2 ^ 64 - 128:=by decide
    rw [e1,e2]
  rw [e,and_high 64 n (by omega) hn,IntKind.wrap_i64]
  rw [Bool.eq_iff_iff]
  simp only [beq_iff_eq,decide_eq_true_eq]
  omega

theorem i32_and_low {x:Int} {n:Nat} (h:x % 4294967296=n):bits .and .i32 x 127=((n % 128:Nat):Int):=by
  have e:bits .and .i32 x 127=IntKind.i32.wrap ((n &&& 127:Nat):Int):=by
    simp only [bits,BitVec.toNat_and,bitsOf]
    have e1:(x % (2:Int) ^ IntKind.i32.bits).toNat=n:=by show (x % 4294967296).toNat=n;omega
    have e2:((127:Int) % (2:Int) ^ IntKind.i32.bits).toNat=127:=by decide
    rw [e1,e2]
  rw [e,show n &&& 127=n % 128 from Nat.and_two_pow_sub_one_eq_mod n 7,IntKind.wrap_i32]
  omega

theorem i64_and_low {x:Int} {n:Nat} (h:x % 18446744073709551616=n):bits .and .i64 x 127=((n % 128:Nat):Int):=by
  have e:bits .and .i64 x 127=IntKind.i64.wrap ((n &&& 127:Nat):Int):=by
    simp only [bits,BitVec.toNat_and,bitsOf]
    have e1:(x % (2:Int) ^ IntKind.i64.bits).toNat=n:=by show (x % 18446744073709551616).toNat=n;omega
    have e2:((127:Int) % (2:Int) ^ IntKind.i64.bits).toNat=127:=by decide
    rw [e1,e2]
  rw [e,show n &&& 127=n % 128 from Nat.and_two_pow_sub_one_eq_mod n 7,IntKind.wrap_i64]
  omega

set_option maxRecDepth 100000 in
theorem or128_low:∀ a:Fin 128,(a.val ||| 128)=a.val+128:=by decide

theorem i32_or128 (m:Nat) (h:m < 128):bits .or .i32 (m:Int) 128=(m:Int)+128:=by
  have e:=(bits_nat .i32 8 (by decide) (fun n h0 h1=>by rw [IntKind.wrap_i32];omega) m 128 (by omega) (by decide)).2
  have e2:m ||| 128=m+128:=or128_low ⟨m,h⟩
  have e3:((128:Nat):Int)=128:=rfl
  rw [e3] at e
  rw [e,e2]
  omega

theorem i64_or128 (m:Nat) (h:m < 128):bits .or .i64 (m:Int) 128=(m:Int)+128:=by
  have e:=(bits_nat .i64 8 (by decide) (fun n h0 h1=>by rw [IntKind.wrap_i64];omega) m 128 (by omega) (by decide)).2
  have e2:m ||| 128=m+128:=or128_low ⟨m,h⟩
  have e3:((128:Nat):Int)=128:=rfl
  rw [e3] at e
  rw [e,e2]
  omega

theorem i32_zigzag (x:Int) (h0:-2147483648≤x) (h1:x < 2147483648):bits .xor .i32 (IntKind.i32.wrap (x * 2)) (x / 2147483648)=IntKind.i32.wrap (Lib.zigzag x:Int)∧Lib.zigzag x < 4294967296:=by
  have hz:Lib.zigzag x < 4294967296:=by unfold Lib.zigzag;split <;> omega
  refine ⟨?_,hz⟩
  by_cases hx:0≤x
  · have e:x / 2147483648=0:=by omega
    have ez:(Lib.zigzag x:Int)=2 * x:=by unfold Lib.zigzag;rw [if_pos hx];omega
    rw [e,ez]
    simp only [bits]
    rw [show BitVec.ofInt IntKind.i32.bits 0=0#_ from by decide,BitVec.xor_zero,bitsOf]
    show IntKind.i32.wrap ((IntKind.i32.wrap (x * 2) % 4294967296).toNat:Int)=_
    simp only [IntKind.wrap_i32]
    omega
  · have e:x / 2147483648=-1:=by omega
    have ez:(Lib.zigzag x:Int)=-2 * x - 1:=by unfold Lib.zigzag;rw [if_neg hx];omega
    rw [e,ez]
    simp only [bits]
    rw [show BitVec.ofInt IntKind.i32.bits (-1)=BitVec.allOnes _ from by decide,BitVec.xor_allOnes,BitVec.toNat_not,bitsOf]
    show IntKind.i32.wrap ((4294967296 - 1 - (IntKind.i32.wrap (x * 2) % 4294967296).toNat:Nat):Int)=_
    simp only [IntKind.wrap_i32]
    omega

theorem i64_zigzag (x:Int) (h0:-9223372036854775808≤x) (h1:x < 9223372036854775808):bits .xor .i64 (IntKind.i64.wrap (x * 2)) (x / 9223372036854775808)=IntKind.i64.wrap (Lib.zigzag x:Int)∧Lib.zigzag x < 18446744073709551616:=by
  have hz:Lib.zigzag x < 18446744073709551616:=by unfold Lib.zigzag;split <;> omega
  refine ⟨?_,hz⟩
  by_cases hx:0≤x
  · have e:x / 9223372036854775808=0:=by omega
    have ez:(Lib.zigzag x:Int)=2 * x:=by unfold Lib.zigzag;rw [if_pos hx];omega
    rw [e,ez]
    simp only [bits]
    rw [show BitVec.ofInt IntKind.i64.bits 0=0#_ from by decide,BitVec.xor_zero,bitsOf]
    show IntKind.i64.wrap ((IntKind.i64.wrap (x * 2) % 18446744073709551616).toNat:Int)=_
    simp only [IntKind.wrap_i64]
    omega
  · have e:x / 9223372036854775808=-1:=by omega
    have ez:(Lib.zigzag x:Int)=-2 * x - 1:=by unfold Lib.zigzag;rw [if_neg hx];omega
    rw [e,ez]
    simp only [bits]
    rw [show BitVec.ofInt IntKind.i64.bits (-1)=BitVec.allOnes _ from by decide,BitVec.xor_allOnes,BitVec.toNat_not,bitsOf]
    show IntKind.i64.wrap ((18446744073709551616 - 1 - (IntKind.i64.wrap (x * 2) % 18446744073709551616).toNat:Nat):Int)=_
    simp only [IntKind.wrap_i64]
    omega

end Go.Proofs.YtmjcnomgpikncaaGreatDoor

namespace Go.Proofs.YtmjcnomgpikncaaGreatDoor

open Go.RowKit Go.Deep



structure CS where
  lf:Value
  last:Int
  nm:Value
  bid:Int
  bp:Bool
  bv:Bool
  bn:Bool

def CS.row (tr og cf:Value) (s:CS) (sc:List Value):List Value :=
  tr :: og :: cf :: s.lf :: .int .i64 s.last :: s.nm :: .int .i16 s.bid :: .bool s.bp :: .bool s.bv :: .bool s.bn :: sc

def Cmp (p:Nat) (tr og cf:Value) (s:CS) (sc:List Value) (w:World):Prop :=
  w.heap[p]?=some (.cells (CS.row tr og cf s sc).toArray 220 (0,0))∧sc.length=64∧∀ v∈sc,v.oneCell'=true

theorem Cmp.cells {p:Nat} {tr og cf:Value} {s:CS} {sc:List Value} {w:World} (h:Cmp p tr og cf s sc w) (i:Nat):w.cell? ⟨p,i,none⟩=(CS.row tr og cf s sc)[i]?:=by
  rw [cell_heap h.1];simp

theorem Cmp.cell {p:Nat} {tr og cf:Value} {s:CS} {sc:List Value} {w:World} (h:Cmp p tr og cf s sc w) (i:Nat) (hi:i < 64):∃ v,w.cell? ⟨p,10+i,none⟩=some v∧w.frozen? ⟨p,10+i,none⟩=false:=by
  refine ⟨sc[i]'(by rw [h.2.1];exact hi),?_,frozen_heap h.1 _⟩
  rw [h.cells,Nat.add_comm]
  simp only [CS.row,List.getElem?_cons_succ]
  rw [List.getElem?_eq_getElem]

theorem Cmp.lt {p:Nat} {tr og cf:Value} {s:CS} {sc:List Value} {w:World} (h:Cmp p tr og cf s sc w):p < w.heap.size:=lt_heap h.1

theorem Cmp.step {p:Nat} {tr og cf:Value} {s:CS} {sc:List Value} {S T:List Nat} {w w1:World} (h:Cmp p tr og cf s sc w) (hs:Step S T w w1) (hp:p∉S):Cmp p tr og cf s sc w1 :=
  ⟨(hs.block p h.lt hp).trans h.1,h.2⟩

theorem Cmp.alloc {p:Nat} {tr og cf:Value} {s:CS} {sc:List Value} {w:World} (h:Cmp p tr og cf s sc w) (o:Obj):Cmp p tr og cf s sc (w.alloc o):=⟨heap_alloc_old h.1 o,h.2⟩

theorem Cmp.drewN {p:Nat} {tr og cf:Value} {s:CS} {sc:List Value} {w:World} (h:Cmp p tr og cf s sc w) (n:Nat):Cmp p tr og cf s sc (w.drewN n):=h

theorem Cmp.poke {p:Nat} {tr og cf:Value} {s:CS} {sc:List Value} {w:World} (h:Cmp p tr og cf s sc w) (k:Nat) (v:Value) (h1:v.oneCell'=true):Cmp p tr og cf s (sc.set k v) (w.setCell ⟨p,10+k,none⟩ v):=by
  refine ⟨?_,by simp [h.2.1],fun x hx=>?_⟩
  · rw [heap_set_same h.1]
    congr 2
    apply Array.toList_inj.1
    simp only [Array.toList_setIfInBounds,List.toList_toArray,CS.row]
    rw [Nat.add_comm]
    rfl
  · rcases List.mem_or_eq_of_mem_set hx with hx | rfl
    · exact h.2.2 x hx
    · exact h1

def Bd32 (k M:Nat):Prop:=(k=0∧M < 4294967296)∨(k=1∧M < 33554432)∨(k=2∧M < 262144)∨(k=3∧M < 2048)∨(k=4∧M < 16)

theorem uvarint_next {M:Nat} (h:128≤M):Lib.uvarint M=(M % 128+128).toUInt8 :: Lib.uvarint (M / 128):=Lib.uvarint_big h

theorem take_set {α:Type} {l:List α} {k:Nat} {E:List α} (h:l.take k=E) (hk:k < l.length) (v:α):(l.set k v).take (k+1)=E++[v]:=by
  rw [List.take_succ_eq_append_getElem (by simpa using hk),List.take_set_of_le (Nat.le_refl _),h]
  simp

def Var32 (p N:Nat) (tr og cf:Value) (s:CS) (w:World) (n i:Value) (wr:World):Prop :=
  ∃ (k M:Nat) (z:Int) (E:List UInt8) (sc:List Value),n=.int .i32 z∧i=.int .i64 k∧z % 4294967296=M∧Lib.uvarint N=E++Lib.uvarint M∧E.length=k∧Bd32 k M∧Cmp p tr og cf s sc wr∧sc.take k=Lib.byteCells E∧Step [p] [p] w wr

set_option maxRecDepth 100000 in
set_option maxHeartbeats 2000000 in
theorem cmp_writeVarint32 (p m b g:Nat) (og cf:Value) (s:CS) (sc:List Value) (l:List UInt8) (n:Int) (N:Nat) (w:World) (hp:Cmp p (memV m) og cf s sc w) (h:Mem m b g 0 (Lib.byteCells l) w) (hpm:p≠m) (hpb:p≠b) (hpg:p≠g)
 (hn:n % 4294967296=N) (hlim:l.length+5≤140737488355328) :
 Calls Tryz.prog 190 #[.pointer (some ⟨p,0,none⟩),.int .i32 n] w fun e w'=>e=.returned (.tuple #[.int .i64 (Lib.uvarint N).length,.nilIface]) ∧
  ∃ g1 sc1,Cmp p (memV m) og cf s sc1 w'∧Mem m b g1 0 (Lib.byteCells (l++Lib.uvarint N)) w'∧Step [p,b,g] [p,b,g1] w w':=by
 have hmeth:=mem_Write
 have HN:=Lib.hid hn
 have hst:Var32 p N (memV m) og cf s w (.int .i32 n) (.int .i64 0) w:=⟨0,N,n,[],sc,rfl,rfl,hn,by simp,rfl,.inl ⟨rfl,by omega⟩,hp,by simp [Lib.byteCells],Step.refl _ _⟩
 have HST:=Lib.hid hst
 clear hst hn
 go_enter Tryz.func190,Tryz.ntmps190
 go_wp2
 go_loopw [1,7] (fun n i wr=>Var32 p N (memV m) og cf s w n i wr) (fun _ i _=>5 - (intOf i).toNat)
 case atStart=>exact HST.out
 case round =>
  obtain ⟨k,M,z,E,sc1,rfl,rfl,hz,hu,hE,hb,hc,ht,hs⟩:=hrel
  obtain ⟨v0,hv0,hf0⟩:=hc.cell k (by rcases hb with hb | hb | hb | hb | hb <;> omega)
  have hk4:k≤4:=by rcases hb with hb | hb | hb | hb | hb <;> omega
  have hA:=i32_and_high hz
  have hB:=i32_and_low hz
  have hC:=i32_or128 (M % 128) (by omega)
  by_cases hM:M < 128
  · have hA':(bits .and .i32 z (-128) == 0)=true:=by rw [hA];simpa using hM
    have H1:=Lib.hid hz
    have H2:=Lib.hid hu
    have H3:=Lib.hid hE
    have H4:=Lib.hid ht
    clear hA hB hC hz hu hE ht
    go_wp2
    have hzb:(z % 256)=((M.toUInt8.toNat:Nat):Int):=by
     have e:=H1.out
     rw [show M.toUInt8.toNat=M % 256 from rfl]
     omega
    rw [hzb]
    obtain ⟨W,hW⟩:∃ W,W=wr.setCell ⟨p,10+k,none⟩ (.int .u8 (M.toUInt8.toNat:Nat)):=⟨_,rfl⟩
    rw [← hW]
    have hc2:=hc.poke k (.int .u8 (M.toUInt8.toNat:Nat)) rfl
    have hs2:=hs.setCell (p:=⟨p,10+k,none⟩) (.inl (by simp)) (.int .u8 (M.toUInt8.toNat:Nat))
    rw [← hW] at hc2 hs2
    have hE2:Lib.uvarint N=E++[M.toUInt8]:=by rw [H2.out,Lib.uvarint_small hM]
    have hl2:(Lib.uvarint N).length=k+1:=by rw [hE2,List.length_append,H3.out];rfl
    have ht2:(sc1.set k (.int .u8 (M.toUInt8.toNat:Nat))).take (k+1)=Lib.byteCells (Lib.uvarint N):=by
     rw [take_set H4.out (by rw [hc.2.1];omega),hE2];simp [Lib.byteCells]
    have h2:Mem m b g 0 (Lib.byteCells l) W:=h.step hs2 (by simp [Ne.symm hpm]) (by simp [Ne.symm hpb]) (by simp [Ne.symm hpg])
    have c0:W.cell? ⟨p,0,none⟩=some (memV m):=by rw [hc2.cells];rfl
    have cm:=h2.cell
    have hsrc:∀ j v',(Lib.byteCells (Lib.uvarint N))[j]?=some v'→W.cell? ((⟨p,10,none⟩:Addr).add j)=some v':=fun j v' hj=>by
     rw [Lib.addr_add,hc2.cells,Nat.add_comm]
     simp only [CS.row,List.getElem?_cons_succ]
     rw [← ht2,List.getElem?_take] at hj
     split at hj
     · exact hj
     · cases hj
    have hbl:(Lib.byteCells (Lib.uvarint N)).length=k+1:=by rw [Lib.byteCells_length,hl2]
    have hi1:(0:Int)≤(k:Int)+1:=by omega
    have hi2:(k:Int)+1≤64:=by omega
    have HS:=Lib.hid hsrc
    have HL:=Lib.hid hbl
    have HL2:=Lib.hid hl2
    have HC:=Lib.hid ht2
    have hlb:(Lib.byteCells l).length+(k+1)≤140737488355328:=by rw [Lib.byteCells_length];omega
    clear hW hE2 hl2 ht2 hsrc hbl hzb hv0 hf0
    go_region_with ((go_at_call 72;refine (buf_write b g (k+1) 64 (Lib.byteCells l) _ ⟨p,10,none⟩ _ ?_ (Lib.byteCells_one _) HL.out hpb hpg ?_ ?_ (Lib.byteCells_one _) (by omega) hlb).mono ?_;exact h2.2.2.2;exact hc2.lt;exact HS.out;rintro e W2 ⟨rfl,g1,hB,hs3⟩))
    go_wp2
    go_ret2
    have hs4:Step [b,g] [b,g1] W W2:=((Step.refl _ _).drew).trans hs3
    refine ⟨by rw [HL2.out];rfl,g1,_,hc2.step hs4 (by simp [hpb,hpg]),?_,?_⟩
    · have hM2:=h2.turn hB hs4
      rw [← Lib.byteCells_append] at hM2
      exact hM2
    · exact (hs2.more (S1:=[p,b,g]) (T1:=[p,b,g]) (by simp) (fun k hk=>.inr (.inl hk))).trans (hs4.more (by simp) (fun k hk=>by
       simp only [List.mem_cons,List.not_mem_nil,or_false] at hk ⊢
       omega))
  · have hA':(bits .and .i32 z (-128) == 0)=false:=by rw [hA];simpa using hM
    have hb3:k≤3:=by rcases hb with hb | hb | hb | hb | hb <;> omega
    have H1:=Lib.hid hz
    have H2:=Lib.hid hu
    have H3:=Lib.hid hE
    have H4:=Lib.hid ht
    clear hA hz hu hE ht
    go_wp2
    go_roundw
    case rel =>
     have hv:bits .or .i32 ((M:Int) % 128) 128 % 256=(((M % 128+128).toUInt8.toNat:Nat):Int):=by
      have e0:((M % 128:Nat):Int)=(M:Int) % 128:=by omega
      rw [← e0,hC,show (M % 128+128).toUInt8.toNat=(M % 128+128) % 256 from rfl]
      omega
     rw [hv]
     refine ⟨k+1,M / 128,_,E++[(M % 128+128).toUInt8],_,rfl,by go_num,?_,?_,?_,?_,hc.poke k _ rfl,?_,hs.setCell (p:=⟨p,10+k,none⟩) (.inl (by simp)) _⟩
     · have:=H1.out;omega
     · rw [H2.out,uvarint_next (by omega)];simp
     · simp [H3.out]
     · unfold Bd32 at hb ⊢;omega
     · rw [take_set H4.out (by rw [hc.2.1];omega)];simp [Lib.byteCells]
    case measure=>simp [intOf];omega

end Go.Proofs.YtmjcnomgpikncaaGreatDoor

namespace Go.Proofs.YtmjcnomgpikncaaGreatDoor

open Go.RowKit Go.Deep



set_option maxRecDepth 100000 in
set_option maxHeartbeats 2000000 in
theorem cmp_writeI32 (p m b g:Nat) (og cf:Value) (s:CS) (sc:List Value) (l:List UInt8) (cx:Value) (x:Int) (w:World) (hp:Cmp p (memV m) og cf s sc w) (h:Mem m b g 0 (Lib.byteCells l) w) (hpm:p≠m) (hpb:p≠b) (hpg:p≠g)
    (h0:-2147483648≤x) (h1:x < 2147483648) (hlim:l.length+5≤140737488355328) :
    Calls Tryz.prog 162 #[.pointer (some ⟨p,0,none⟩),cx,.int .i32 x] w fun e w'=>e=.returned .nilIface ∧
      ∃ g1 sc1,Cmp p (memV m) og cf s sc1 w'∧Mem m b g1 0 (Lib.byteCells (l++Lib.uvarint (Lib.zigzag x))) w'∧Step [p,b,g] [p,b,g1] w w':=by
  obtain ⟨hz,hz2⟩:=i32_zigzag x h0 h1
  have hn:(bits .xor .i32 (wrap32 (x * 2)) (x / 2147483648)) % 4294967296=(Lib.zigzag x:Nat):=by
    have e:wrap32 (x * 2)=IntKind.i32.wrap (x * 2):=by rw [IntKind.wrap_i32];unfold wrap32;omega
    rw [e,hz,IntKind.wrap_i32]
    omega
  have hW:=cmp_writeVarint32 p m b g og cf s sc l _ _ w hp h hpm hpb hpg hn hlim
  have HW:=Lib.hid hW
  clear hW hn hz
  go_enter Tryz.func162,Tryz.ntmps162
  go_wp2_with (first | (go_at_call 176;go_in))
  refine HW.out.mono ?_
  rintro e W1 ⟨rfl,g1,sc1,hc,hm,hs⟩
  go_wp2_with (first | (go_at_call 178;go_in))
  go_ret
  exact ⟨rfl,g1,sc1,hc,hm,hs⟩

end Go.Proofs.YtmjcnomgpikncaaGreatDoor

namespace Go.Proofs.YtmjcnomgpikncaaGreatDoor

open Go.RowKit



theorem i32_one (x:Int):bits .and .i32 x 1=x % 2:=by
  obtain ⟨n,hn⟩:∃ n:Nat,x % 4294967296=n:=⟨(x % 4294967296).toNat,by omega⟩
  have e:bits .and .i32 x 1=IntKind.i32.wrap ((n &&& 1:Nat):Int):=by
    simp only [bits,BitVec.toNat_and,bitsOf]
    have e1:(x % (2:Int) ^ IntKind.i32.bits).toNat=n:=by show (x % 4294967296).toNat=n;omega
    have e2:((1:Int) % (2:Int) ^ IntKind.i32.bits).toNat=1:=by decide
    rw [e1,e2]
  rw [e,show n &&& 1=n % 2 from Nat.and_two_pow_sub_one_eq_mod n 1,IntKind.wrap_i32]
  omega

def unz32 (n:Int):Int:=if n % 2=0 then n % 4294967296 / 2 else -(n % 4294967296 / 2) - 1

theorem i32_unzigzag (x:Int):bits .xor .i32 (IntKind.i32.wrap (IntKind.u32.wrap x / 2)) (IntKind.i32.wrap (-(x % 2)))=unz32 x:=by
  unfold unz32
  by_cases hx:x % 2=0
  · rw [if_pos hx,hx]
    simp only [bits]
    rw [show BitVec.ofInt IntKind.i32.bits (IntKind.i32.wrap (-0))=0#_ from by decide,BitVec.xor_zero,bitsOf]
    show IntKind.i32.wrap ((IntKind.i32.wrap (IntKind.u32.wrap x / 2) % 4294967296).toNat:Int)=_
    simp only [IntKind.wrap_i32,IntKind.wrap_u32]
    omega
  · rw [if_neg hx,show x % 2=1 by omega]
    simp only [bits]
    rw [show BitVec.ofInt IntKind.i32.bits (IntKind.i32.wrap (-1))=BitVec.allOnes _ from by decide,BitVec.xor_allOnes,BitVec.toNat_not,bitsOf]
    show IntKind.i32.wrap ((4294967296 - 1 - (IntKind.i32.wrap (IntKind.u32.wrap x / 2) % 4294967296).toNat:Nat):Int)=_
    simp only [IntKind.wrap_i32,IntKind.wrap_u32]
    omega

theorem unz32_wrap (x:Int):unz32 (IntKind.i32.wrap x)=unz32 x:=by
  unfold unz32
  simp only [IntKind.wrap_i32]
  split <;> split <;> omega

theorem unz32_zigzag (x:Int) (h0:-2147483648≤x) (h1:x < 2147483648):unz32 (IntKind.i32.wrap (Lib.zigzag x:Int))=x:=by
  rw [unz32_wrap]
  unfold unz32 Lib.zigzag
  split <;> split <;> omega

theorem unz32_range (x:Int):-2147483648≤unz32 x∧unz32 x < 2147483648:=by
  unfold unz32
  split <;> omega

theorem i64_one (x:Int):bits .and .i64 x 1=x % 2:=by
  obtain ⟨n,hn⟩:∃ n:Nat,x % 18446744073709551616=n:=⟨(x % 18446744073709551616).toNat,by omega⟩
  have e:bits .and .i64 x 1=IntKind.i64.wrap ((n &&& 1:Nat):Int):=by
    simp only [bits,BitVec.toNat_and,bitsOf]
    have e1:(x % (2:Int) ^ IntKind.i64.bits).toNat=n:=by show (x % 18446744073709551616).toNat=n;omega
    have e2:((1:Int) % (2:Int) ^ IntKind.i64.bits).toNat=1:=by decide
    rw [e1,e2]
  rw [e,show n &&& 1=n % 2 from Nat.and_two_pow_sub_one_eq_mod n 1,IntKind.wrap_i64]
  omega

def unz64 (n:Int):Int:=if n % 2=0 then n % 18446744073709551616 / 2 else -(n % 18446744073709551616 / 2) - 1

theorem i64_unzigzag (x:Int):bits .xor .i64 (IntKind.i64.wrap (IntKind.u64.wrap x / 2)) (IntKind.i64.wrap (-(x % 2)))=unz64 x:=by
  unfold unz64
  by_cases hx:x % 2=0
  · rw [if_pos hx,hx]
    simp only [bits]
    rw [show BitVec.ofInt IntKind.i64.bits (IntKind.i64.wrap (-0))=0#_ from by decide,BitVec.xor_zero,bitsOf]
    show IntKind.i64.wrap ((IntKind.i64.wrap (IntKind.u64.wrap x / 2) % 18446744073709551616).toNat:Int)=_
    simp only [IntKind.wrap_i64,IntKind.wrap_u64]
    omega
  · rw [if_neg hx,show x % 2=1 by omega]
    simp only [bits]
    rw [show BitVec.ofInt IntKind.i64.bits (IntKind.i64.wrap (-1))=BitVec.allOnes _ from by decide,BitVec.xor_allOnes,BitVec.toNat_not,bitsOf]
    show IntKind.i64.wrap ((18446744073709551616 - 1 - (IntKind.i64.wrap (IntKind.u64.wrap x / 2) % 18446744073709551616).toNat:Nat):Int)=_
    simp only [IntKind.wrap_i64,IntKind.wrap_u64]
    omega

theorem unz64_wrap (x:Int):unz64 (IntKind.i64.wrap x)=unz64 x:=by
  unfold unz64
  simp only [IntKind.wrap_i64]
  split <;> split <;> omega

theorem unz64_zigzag (x:Int) (h0:-9223372036854775808≤x) (h1:x < 9223372036854775808):unz64 (IntKind.i64.wrap (Lib.zigzag x:Int))=x:=by
  rw [unz64_wrap]
  unfold unz64 Lib.zigzag
  split <;> split <;> omega

theorem unz64_range (x:Int):-9223372036854775808≤unz64 x∧unz64 x < 9223372036854775808:=by
  unfold unz64
  split <;> omega

end Go.Proofs.YtmjcnomgpikncaaGreatDoor

namespace Go.Proofs.YtmjcnomgpikncaaGreatDoor

open Go.RowKit Go.Deep



def Bd64 (k M:Nat):Prop:=(k=0∧M < 18446744073709551616)∨(k=1∧M < 144115188075855872)∨(k=2∧M < 1125899906842624)∨(k=3∧M < 8796093022208)∨(k=4∧M < 68719476736)∨(k=5∧M < 536870912)∨(k=6∧M < 4194304)∨(k=7∧M < 32768)∨(k=8∧M < 256)∨(k=9∧M < 2)

theorem bd64_le {k M:Nat} (h:Bd64 k M):k≤9:=by unfold Bd64 at h;omega

theorem bd64_hi {k M:Nat} (h:Bd64 k M) (hM:128≤M):k≤8:=by unfold Bd64 at h;omega

theorem bd64_next {k M:Nat} (h:Bd64 k M) (hM:128≤M):Bd64 (k+1) (M / 128):=by
  unfold Bd64 at h ⊢
  rcases h with ⟨rfl,h⟩ | ⟨rfl,h⟩ | ⟨rfl,h⟩ | ⟨rfl,h⟩ | ⟨rfl,h⟩ | ⟨rfl,h⟩ | ⟨rfl,h⟩ | ⟨rfl,h⟩ | ⟨rfl,h⟩ | ⟨rfl,h⟩ <;> simp <;> omega

theorem bd64_start {n:Int} {N:Nat} (h:n % 18446744073709551616=N):Bd64 0 N:=by unfold Bd64;omega

def Var64 (p N:Nat) (tr og cf:Value) (s:CS) (w:World) (n i:Value) (wr:World):Prop :=
  ∃ (k M:Nat) (z:Int) (E:List UInt8) (sc:List Value),n=.int .i64 z∧i=.int .i64 k∧z % 18446744073709551616=M∧Lib.uvarint N=E++Lib.uvarint M∧E.length=k∧Bd64 k M∧Cmp p tr og cf s sc wr∧sc.take k=Lib.byteCells E∧Step [p] [p] w wr

set_option maxRecDepth 100000 in
set_option maxHeartbeats 2000000 in
theorem cmp_writeVarint64 (p m b g:Nat) (og cf:Value) (s:CS) (sc:List Value) (l:List UInt8) (n:Int) (N:Nat) (w:World) (hp:Cmp p (memV m) og cf s sc w) (h:Mem m b g 0 (Lib.byteCells l) w) (hpm:p≠m) (hpb:p≠b) (hpg:p≠g)
 (hn:n % 18446744073709551616=N) (hlim:l.length+10≤140737488355328) :
 Calls Tryz.prog 194 #[.pointer (some ⟨p,0,none⟩),.int .i64 n] w fun e w'=>e=.returned (.tuple #[.int .i64 (Lib.uvarint N).length,.nilIface]) ∧
  ∃ g1 sc1,Cmp p (memV m) og cf s sc1 w'∧Mem m b g1 0 (Lib.byteCells (l++Lib.uvarint N)) w'∧Step [p,b,g] [p,b,g1] w w':=by
 have hmeth:=mem_Write
 have HN:=Lib.hid hn
 have hst:Var64 p N (memV m) og cf s w (.int .i64 n) (.int .i64 0) w:=⟨0,N,n,[],sc,rfl,rfl,hn,by simp,rfl,bd64_start hn,hp,by simp [Lib.byteCells],Step.refl _ _⟩
 have HST:=Lib.hid hst
 clear hst hn
 go_enter Tryz.func194,Tryz.ntmps194
 go_wp2
 go_loopw [1,7] (fun n i wr=>Var64 p N (memV m) og cf s w n i wr) (fun _ i _=>10 - (intOf i).toNat)
 case atStart=>exact HST.out
 case round =>
  obtain ⟨k,M,z,E,sc1,rfl,rfl,hz,hu,hE,hb,hc,ht,hs⟩:=hrel
  obtain ⟨v0,hv0,hf0⟩:=hc.cell k (by have:=bd64_le hb;omega)
  have hk4:k≤9:=bd64_le hb
  have hA:=i64_and_high hz
  have hB:=i64_and_low hz
  have hC:=i64_or128 (M % 128) (by omega)
  by_cases hM:M < 128
  · have hA':(bits .and .i64 z (-128) == 0)=true:=by rw [hA];simpa using hM
    have H1:=Lib.hid hz
    have H2:=Lib.hid hu
    have H3:=Lib.hid hE
    have H4:=Lib.hid ht
    clear hA hB hC hz hu hE ht
    go_wp2
    have hzb:(z % 256)=((M.toUInt8.toNat:Nat):Int):=by
     have e:=H1.out
     rw [show M.toUInt8.toNat=M % 256 from rfl]
     omega
    rw [hzb]
    obtain ⟨W,hW⟩:∃ W,W=wr.setCell ⟨p,10+k,none⟩ (.int .u8 (M.toUInt8.toNat:Nat)):=⟨_,rfl⟩
    rw [← hW]
    have hc2:=hc.poke k (.int .u8 (M.toUInt8.toNat:Nat)) rfl
    have hs2:=hs.setCell (p:=⟨p,10+k,none⟩) (.inl (by simp)) (.int .u8 (M.toUInt8.toNat:Nat))
    rw [← hW] at hc2 hs2
    have hE2:Lib.uvarint N=E++[M.toUInt8]:=by rw [H2.out,Lib.uvarint_small hM]
    have hl2:(Lib.uvarint N).length=k+1:=by rw [hE2,List.length_append,H3.out];rfl
    have ht2:(sc1.set k (.int .u8 (M.toUInt8.toNat:Nat))).take (k+1)=Lib.byteCells (Lib.uvarint N):=by
     rw [take_set H4.out (by rw [hc.2.1];omega),hE2];simp [Lib.byteCells]
    have h2:Mem m b g 0 (Lib.byteCells l) W:=h.step hs2 (by simp [Ne.symm hpm]) (by simp [Ne.symm hpb]) (by simp [Ne.symm hpg])
    have c0:W.cell? ⟨p,0,none⟩=some (memV m):=by rw [hc2.cells];rfl
    have cm:=h2.cell
    have hsrc:∀ j v',(Lib.byteCells (Lib.uvarint N))[j]?=some v'→W.cell? ((⟨p,10,none⟩:Addr).add j)=some v':=fun j v' hj=>by
     rw [Lib.addr_add,hc2.cells,Nat.add_comm]
     simp only [CS.row,List.getElem?_cons_succ]
     rw [← ht2,List.getElem?_take] at hj
     split at hj
     · exact hj
     · cases hj
    have hbl:(Lib.byteCells (Lib.uvarint N)).length=k+1:=by rw [Lib.byteCells_length,hl2]
    have hi1:(0:Int)≤(k:Int)+1:=by omega
    have hi2:(k:Int)+1≤64:=by omega
    have HS:=Lib.hid hsrc
    have HL:=Lib.hid hbl
    have HL2:=Lib.hid hl2
    have HC:=Lib.hid ht2
    have hlb:(Lib.byteCells l).length+(k+1)≤140737488355328:=by rw [Lib.byteCells_length];omega
    clear hW hE2 hl2 ht2 hsrc hbl hzb hv0 hf0
    go_region_with ((go_at_call 72;refine (buf_write b g (k+1) 64 (Lib.byteCells l) _ ⟨p,10,none⟩ _ ?_ (Lib.byteCells_one _) HL.out hpb hpg ?_ ?_ (Lib.byteCells_one _) (by omega) hlb).mono ?_;exact h2.2.2.2;exact hc2.lt;exact HS.out;rintro e W2 ⟨rfl,g1,hB,hs3⟩))
    go_wp2
    go_ret2
    have hs4:Step [b,g] [b,g1] W W2:=((Step.refl _ _).drew).trans hs3
    refine ⟨by rw [HL2.out];rfl,g1,_,hc2.step hs4 (by simp [hpb,hpg]),?_,?_⟩
    · have hM2:=h2.turn hB hs4
      rw [← Lib.byteCells_append] at hM2
      exact hM2
    · exact (hs2.more (S1:=[p,b,g]) (T1:=[p,b,g]) (by simp) (fun k hk=>.inr (.inl hk))).trans (hs4.more (by simp) (fun k hk=>by
       simp only [List.mem_cons,List.not_mem_nil,or_false] at hk ⊢
       omega))
  · have hA':(bits .and .i64 z (-128) == 0)=false:=by rw [hA];simpa using hM
    have hb3:k≤8:=bd64_hi hb (by omega)
    have H1:=Lib.hid hz
    have H2:=Lib.hid hu
    have H3:=Lib.hid hE
    have H4:=Lib.hid ht
    clear hA hz hu hE ht
    go_wp2
    go_roundw
    case rel =>
     have hv:bits .or .i64 ((M:Int) % 128) 128 % 256=(((M % 128+128).toUInt8.toNat:Nat):Int):=by
      have e0:((M % 128:Nat):Int)=(M:Int) % 128:=by omega
      rw [← e0,hC,show (M % 128+128).toUInt8.toNat=(M % 128+128) % 256 from rfl]
      omega
     rw [hv]
     refine ⟨k+1,M / 128,_,E++[(M % 128+128).toUInt8],_,rfl,by go_num,?_,?_,?_,?_,hc.poke k _ rfl,?_,hs.setCell (p:=⟨p,10+k,none⟩) (.inl (by simp)) _⟩
     · have:=H1.out
       rw [IntKind.wrap_u64]
       unfold wrap64
       omega
     · rw [H2.out,uvarint_next (by omega)];simp
     · simp [H3.out]
     · exact bd64_next hb (by omega)
     · rw [take_set H4.out (by rw [hc.2.1];omega)];simp [Lib.byteCells]
    case measure=>simp [intOf];omega

end Go.Proofs.YtmjcnomgpikncaaGreatDoor
