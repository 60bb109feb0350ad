/- One step alone, written and read back. No condition. -/
import Derived.Test.YtmjcnomgpikncaaGreatDoorMb1
import Derived.Test.YtmjcnomgpikncaaGreatDoorMv4
import Derived.Test.YtmjcnomgpikncaaGreatDoorMg1
import Derived.Test.YtmjcnomgpikncaaGreatDoorMd1
import Derived.Test.YtmjcnomgpikncaaGreatDoorMr2
set_option linter.unusedVariables false
set_option linter.unusedSimpArgs false
namespace Go.Proofs.YtmjcnomgpikncaaGreatDoor

open Go.RowKit Go.Deep



theorem unz32_w64 (n:Int):unz32 (wrap64 n)=unz32 n:=by
  unfold unz32 wrap64
  split <;> split <;> omega

theorem unz32_zz (x:Int) (h0:-2147483648≤x) (h1:x < 2147483648):unz32 (wrap64 (Lib.zigzag x:Int))=x:=by
  rw [unz32_w64,← unz32_wrap,unz32_zigzag x h0 h1]

theorem unz64_w64 (n:Int):unz64 (wrap64 n)=unz64 n:=by
  unfold unz64 wrap64
  split <;> split <;> omega

theorem unz64_zz (x:Int) (h0:-9223372036854775808≤x) (h1:x < 9223372036854775808):unz64 (wrap64 (Lib.zigzag x:Int))=x:=by
  rw [unz64_w64,← unz64_wrap,unz64_zigzag x h0 h1]

theorem rd_byte (c:Cfg) (n:Int) (h0:-128≤n) (h1:n < 128) (R:List UInt8):rdC 1 c (CR0,[u8 n]++R) .byte=some ({ n:=n },0,(CR0,R)):=by
  have e:i8w (u8 n)=n:=by
    have e1:((n % 256).toNat.toUInt8).toNat=(n % 256).toNat:=by
      simp only [Nat.toUInt8,UInt8.toNat_ofNat']
      omega
    unfold i8w u8
    rw [e1]
    rw [wrap_i8]
    omega
  show some (({ n:=i8w (u8 n) }:RGot),0,(CR0,R))=_
  rw [e]

theorem rd_i16 (c:Cfg) (n:Int) (h0:-32768≤n) (h1:n < 32768) (R:List UInt8):rdC 1 c (CR0,Lib.uvarint (Lib.zigzag n)++R) .i16=some ({ n:=n },0,(CR0,R)):=by
  show (v64 (Lib.uvarint (Lib.zigzag n)++R)).map (fun a=>(({ n:=IntKind.i16.wrap (unz32 a.1) }:RGot),0,(CR0,a.2)))=_
  rw [v64_uvarint _ _ (zz_lt64 n (by omega) (by omega))]
  simp only [Option.map_some]
  rw [unz32_zz n (by omega) (by omega),wrap_i16,show (n+32768) % 65536 - 32768=n by omega]

theorem rd_i32 (c:Cfg) (n:Int) (h0:-2147483648≤n) (h1:n < 2147483648) (R:List UInt8):rdC 1 c (CR0,Lib.uvarint (Lib.zigzag n)++R) .i32=some ({ n:=n },0,(CR0,R)):=by
  show (v64 (Lib.uvarint (Lib.zigzag n)++R)).map (fun a=>(({ n:=unz32 a.1 }:RGot),0,(CR0,a.2)))=_
  rw [v64_uvarint _ _ (zz_lt64 n (by omega) (by omega))]
  simp only [Option.map_some]
  rw [unz32_zz n h0 h1]

theorem rd_i64 (c:Cfg) (n:Int) (h0:-9223372036854775808≤n) (h1:n < 9223372036854775808) (R:List UInt8):rdC 1 c (CR0,Lib.uvarint (Lib.zigzag n)++R) .i64=some ({ n:=n },0,(CR0,R)):=by
  show (v64 (Lib.uvarint (Lib.zigzag n)++R)).map (fun a=>(({ n:=unz64 a.1 }:RGot),0,(CR0,a.2)))=_
  rw [v64_uvarint _ _ (zz_lt64 n (by omega) (by omega))]
  simp only [Option.map_some]
  rw [unz64_zz n h0 h1]

theorem rd_dbl (c:Cfg) (n:Int) (h0:-9223372036854775808≤n) (h1:n < 9223372036854775808) (R:List UInt8):rdC 1 c (CR0,le8 (IntKind.u64.wrap n).toNat++R) .dbl=some ({ n:=n },0,(CR0,R)):=by
  have es:IntKind.u64.signed=false:=rfl
  have hN:IntKind.u64.wrap n=n % 18446744073709551616:=by simp [IntKind.wrap,go_sem,es]
  have hl:(le8 (IntKind.u64.wrap n).toNat).length=8:=Lib.leBytes_length 8 _
  have hv:Lib.leNat (le8 (IntKind.u64.wrap n).toNat)=(IntKind.u64.wrap n).toNat:=Lib.leNat_leBytes 8 _ (by rw [hN];omega)
  show (takeN 8 (le8 (IntKind.u64.wrap n).toNat++R)).map (fun a=>(({ n:=wrap64 (Lib.leNat a.1) }:RGot),0,(CR0,a.2)))=_
  unfold takeN
  rw [if_pos (by rw [List.length_append,hl];omega),Option.map_some,List.take_left' hl,List.drop_left' hl,hv,hN]
  unfold wrap64
  have:((((n % 18446744073709551616).toNat:Nat):Int)+9223372036854775808) % 18446744073709551616 - 9223372036854775808=n:=by omega
  simp only [this]

end Go.Proofs.YtmjcnomgpikncaaGreatDoor

namespace Go.Proofs.YtmjcnomgpikncaaGreatDoor

open Go.RowKit Go.Deep



open Go.Proofs.YtmjcnomgpikncaaGreatDoorW.PrintWords

end Go.Proofs.YtmjcnomgpikncaaGreatDoor

namespace Go.Proofs.YtmjcnomgpikncaaGreatDoor

open Go.RowKit Go.Deep



theorem v64_nat (n:Nat) (h:n≤2147483647) (R:List UInt8):v64 (Lib.uvarint n++R)=some ((n:Int),R):=by
  have hv:=v64_uvarint n R (by omega)
  rw [show wrap64 ((n:Nat):Int)=n from by unfold wrap64;omega] at hv
  exact hv

theorem sizeK_text (c:Cfg) (n:Nat) (hm:1048576≤c.message) (hl:n≤1048576):sizeK c (n:Int)=0:=by
  unfold sizeK
  rw [if_neg (by omega),if_neg (by omega)]

theorem rdStr_any (c:Cfg) (hm:1048576≤c.message) (s:List UInt8) (hl:s.length≤1048576) (R:List UInt8):cRdStr c (cText s++R)=some (s,0,R):=by
  have hw:wrap32 (s.length:Int)=s.length:=by unfold wrap32;omega
  unfold cRdStr cText
  rw [List.append_assoc,v64_nat _ (by omega),Option.bind_some]
  dsimp only
  rw [hw,if_pos (sizeK_text c _ hm hl),Int.toNat_natCast]
  unfold takeN
  rw [if_pos (by simp),Option.map_some,List.take_left' rfl,List.drop_left' rfl]

end Go.Proofs.YtmjcnomgpikncaaGreatDoor
