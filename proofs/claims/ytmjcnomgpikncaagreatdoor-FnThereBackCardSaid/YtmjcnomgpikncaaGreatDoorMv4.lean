/- The numbers of errors. No condition. -/
import Derived.Test.YtmjcnomgpikncaaGreatDoorMv1
import Derived.Test.YtmjcnomgpikncaaGreatDoorMg1
import Derived.Test.YtmjcnomgpikncaaGreatDoorMv3
import Derived.Test.YtmjcnomgpikncaaGreatDoorMb2
import Derived.Test.YtmjcnomgpikncaaGreatDoorMr
import Derived.Test.YtmjcnomgpikncaaGreatDoorMc
import Derived.Test.YtmjcnomgpikncaaGreatDoorMe
import Derived.Test.YtmjcnomgpikncaaGreatDoorRows
import Derived.Test.YtmjcnomgpikncaaGreatDoorMv2
import Derived.Stop.LaidErr
import Derived.MakeChecks
import Derived.ProofKit
set_option linter.unusedVariables false
set_option linter.unusedSimpArgs false
namespace Go.Proofs.YtmjcnomgpikncaaGreatDoor

open Go.RowKit Go.Deep



def CR0:CSt:=⟨[],0,false,0,false,false⟩

def rdC (proto:Int) (c:Cfg) (s:CSt × List UInt8) (o:ROp):Option (RGot × Nat × (CSt × List UInt8)) :=
  if proto=1 then cmpRd c s o else (binRd c s.2 o).map fun r=>(r.1,r.2.1,(s.1,r.2.2))

structure RP (proto:Int) (c:Cfg) (m:Nat) where
  P:PR
  st:CSt × List UInt8→P.σ
  run_eq:∀ s o,P.run (st s) o=(rdC proto c s o).map fun r=>(r.1,r.2.1,st r.2.2)
  mem:∀ {S s w},P.Is S (st s) w→∃ b g off,Mem m b g off (Lib.byteCells s.2) w
  sk:SkP P

def RBin (proto:Int) (hp:¬ proto=1) (p m:Nat) (og cf:Value) (c:Cfg) (hf:c.fit):RP proto c m where
  P:=PBR p m og cf c hf
  st:=fun s=>s.2
  run_eq:=fun s o=>by
    show binRd c s.2 o=_
    unfold rdC
    rw [if_neg hp,Option.map_map]
    cases binRd c s.2 o <;> rfl
  mem:=fun h=>by
    obtain ⟨b,g,off,sc,K,rfl,hp,hm,hC,hd,hK⟩:=h
    exact ⟨b,g,off,hm⟩
  sk:=skB p m og cf c hf

def RCmp (p m:Nat) (og cf:Value) (c:Cfg) (hf:c.fit):RP 1 c m where
  P:=PCR p m og cf c hf
  st:=fun s=>s
  run_eq:=fun s o=>by
    show cmpRd c s o=_
    unfold rdC
    rw [if_pos rfl]
    cases cmpRd c s o <;> rfl
  mem:=fun h=>by
    obtain ⟨off,b,g,r,K,lf,nm,sc,rfl,hp,hm,hC,hk,hd,hr,hK⟩:=h
    exact ⟨b,g,off,hm⟩
  sk:=skC p m og cf c hf

theorem rprotocol_C (proto:Int) (plain rb sb:Bool) (ms ct fr:Int) (hf:(cfgOf plain rb sb ms ct fr).fit) (m b g:Nat) (l:List UInt8) (w:World) (hM:Mem m b g 0 (Lib.byteCells l) w) :
    Calls Tryz.prog 45 #[confV proto plain rb sb ms ct fr,memV m] w fun e w'=>∃ (R:RP proto (cfgOf plain rb sb ms ct fr) m) (S:List Nat),e=.returned (.iface R.P.ty R.P.ptr)∧R.P.Is S (R.st (CR0,l)) w' ∧
      (∀ k,k∈S→k=m∨k=b∨k=g∨w.heap.size≤k)∧Below w.heap.size w w':=by
  have hml:=hM.lt
  have hbl:=hM.2.2.2.lt
  by_cases hpr:proto=1
  · subst hpr
    refine (protocol_cmpC plain rb sb ms ct fr m w).mono ?_
    rintro e w' ⟨p,cf,K,sc,rfl,hp,hP,hC,hK,hB⟩
    have hM':=Mem.step hM (Step.ofBelow (S:=[]) hB) (by simp) (by simp) (by simp)
    refine ⟨RCmp p m (memV m) cf (cfgOf plain rb sb ms ct fr) hf,p :: m :: b :: g :: p :: K,rfl,⟨0,b,g,p,K,.slice none 0 0,.string ByteArray.empty,sc,rfl,hP,hM',hC,.inl ⟨rfl,rfl,rfl⟩,by omega,by omega,fun k hk=>?_⟩,fun k hk=>?_,hB⟩
    · have:=hK k hk
      omega
    · simp only [List.mem_cons] at hk
      rcases hk with rfl | rfl | rfl | rfl | rfl | hk
      · exact .inr (.inr (.inr hp))
      · exact .inl rfl
      · exact .inr (.inl rfl)
      · exact .inr (.inr (.inl rfl))
      · exact .inr (.inr (.inr hp))
      · exact .inr (.inr (.inr (hK k hk).1))
  · refine (protocol_binC proto hpr plain rb sb ms ct fr m w).mono ?_
    rintro e w' ⟨p,cf,K,sc,rfl,hp,hP,hC,hK,hB⟩
    have hM':=Mem.step hM (Step.ofBelow (S:=[]) hB) (by simp) (by simp) (by simp)
    refine ⟨RBin proto hpr p m (memV m) cf (cfgOf plain rb sb ms ct fr) hf,p :: m :: b :: g :: K,rfl,⟨b,g,0,sc,K,rfl,hP,hM',hC,by omega,fun k hk=>?_⟩,fun k hk=>?_,hB⟩
    · have:=hK k hk
      omega
    · simp only [List.mem_cons] at hk
      rcases hk with rfl | rfl | rfl | rfl | hk
      · exact .inr (.inr (.inr hp))
      · exact .inl rfl
      · exact .inr (.inl rfl)
      · exact .inr (.inr (.inl rfl))
      · exact .inr (.inr (.inr (hK k hk).1))

end Go.Proofs.YtmjcnomgpikncaaGreatDoor

namespace Go.Proofs.YtmjcnomgpikncaaGreatDoor

open Go.RowKit Go.Deep



open Go.Proofs.YtmjcnomgpikncaaGreatDoorW.PrintWords

theorem C_cells {A:Option Addr} {xs:List Int} {W:World} (h:(Kd.int .u8).C W A xs.length xs) (h8:∀ x∈xs,0≤x∧x < 256) (hn:1≤xs.length):∃ ad,A=some ad∧ad.block < W.heap.size∧∀ j v,(Lib.byteCells (toB xs))[j]?=some v→W.cell? (ad.add j)=some v:=by
  obtain ⟨ad,rfl,hc⟩:=h.2.2 (by omega)
  have hcell:∀ j v,(Lib.byteCells (toB xs))[j]?=some v→W.cell? (ad.add j)=some v:=fun j v hj=>by
    have hj':∃ x,xs[j]?=some x∧v=.int .u8 x:=by
      simp only [Lib.byteCells,toB,List.map_map,List.getElem?_map,Option.map_eq_some_iff] at hj
      obtain ⟨x,hx,rfl⟩:=hj
      refine ⟨x,hx,?_⟩
      have:=h8 x (List.mem_of_getElem? hx)
      simp only [Function.comp]
      congr 1
      show ((x.toNat % 256:Nat):Int)=x
      omega
    obtain ⟨x,hx,rfl⟩:=hj'
    obtain ⟨cs,hl,he,hcs⟩:=hc j x hx
    obtain rfl:cs=[.int .u8 x]:=he
    have:=hcs 0 _ rfl
    simpa [Kd.int,Kd.scalar] using this
  refine ⟨ad,rfl,?_,hcell⟩
  obtain ⟨x,hx⟩:∃ x,(Lib.byteCells (toB xs))[0]?=some x:=by
    cases xs with
    | nil=>simp at hn
    | cons x l=>exact ⟨_,rfl⟩
  have:=block_lt_of_cell (hcell 0 x hx)
  rwa [Lib.block_add] at this

end Go.Proofs.YtmjcnomgpikncaaGreatDoor

namespace Go.Proofs.YtmjcnomgpikncaaGreatDoor

open Go.RowKit Go.ChangeShapes



theorem star_es : "*" ++ "errors.errorString" = "*errors.errorString" := by decide

theorem row_es (u:TypeId) (h:Tryz.prog.typeName? 3 u=some "*errors.errorString"):u=238 :=
  typeName_ptr_named (nm := "errors.errorString") (by rw [star_es];kernel_rfl) (by kernel_rfl) (by decide) u (by rw [star_es];exact h)

theorem eof_of_laid {W:World} (h:laidMetH Tryz.prog [("io.EOF",Rows.laid_io_EOF),("io.ErrUnexpectedEOF",Rows.laid_io_ErrUnexpectedEOF),("bytes.ErrTooLarge",Rows.laid_bytes_ErrTooLarge)] W):EofAt W:=by
  rw [MakeChecks.laidMetH_plain _ _ _ (by kernel_rfl)] at h
  obtain ⟨a0,sa,hva,_,_,_⟩:=laid_sentinel h (show Tryz.prog.globalNamed "io.EOF" = some 0 by kernel_rfl) (show (Tryz.prog.globals[0]?).map (·.type)=some 83 by kernel_rfl) Tryz.underlying83 row_es Tryz.underlying238 Tryz.underlying240 rfl rfl Tryz.underlying9 (by kernel_rfl) (by kernel_rfl)
  obtain ⟨b0,sb,hvb,_,_,_⟩:=laid_sentinel h.tail (show Tryz.prog.globalNamed "io.ErrUnexpectedEOF" = some 1 by kernel_rfl) (show (Tryz.prog.globals[1]?).map (·.type)=some 83 by kernel_rfl) Tryz.underlying83 row_es Tryz.underlying238 Tryz.underlying240 rfl rfl Tryz.underlying9 (by kernel_rfl) (by kernel_rfl)
  have e0:=World.var?_cell (show Tryz.prog.globalNamed "io.EOF" = some 0 by kernel_rfl) hva 0
  have e1:=World.var?_cell (show Tryz.prog.globalNamed "io.ErrUnexpectedEOF" = some 1 by kernel_rfl) hvb 0
  exact ⟨a0,b0,e0.trans rfl,e1.trans rfl⟩

end Go.Proofs.YtmjcnomgpikncaaGreatDoor
