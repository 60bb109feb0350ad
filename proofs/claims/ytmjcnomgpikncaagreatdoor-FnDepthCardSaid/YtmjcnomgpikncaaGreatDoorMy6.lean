/- Values that are too deep are refused. No condition. -/
import Derived.Test.YtmjcnomgpikncaaGreatDoorMy5
import Derived.Test.YtmjcnomgpikncaaGreatDoorMs2
import Derived.Test.YtmjcnomgpikncaaGreatDoorMz1
import Derived.Test.YtmjcnomgpikncaaGreatDoorMz5
import Derived.Test.YtmjcnomgpikncaaGreatDoorMy2
set_option linter.unusedVariables false
set_option linter.unusedSimpArgs false
namespace Go.Proofs.YtmjcnomgpikncaaGreatDoor

open Go.RowKit Go.Deep



open Go.Proofs.YtmjcnomgpikncaaGreatDoorW.PrintWords

section

variable (proto:Int) (hp:proto=0∨proto=1) (plain rb sb:Bool) (ms ct fr:Int) (hf:(cfgOf plain rb sb ms ct fr).fit) (hc:65536≤(cfgOf plain rb sb ms ct fr).container) (hm:1048576≤(cfgOf plain rb sb ms ct fr).message)

  (V:Val) (hV:rightV V=true) (hw:wfV V) (ht:tot V≤65536) (B:Option Addr) (cB:Nat) (xs:List Int) (r:List UInt8) (w:World) (hE:EofAt w) (hB:(Kd.int .u8).C w B xs.length xs) (h8:∀ x∈xs,0≤x∧x < 256) (hlim:xs.length≤140737488355328) (hx:toB xs=gen (codec proto) V++r)

include hp hf hc hm hV hw ht hE hB h8 hlim hx in
theorem Get_deep (D:Int) (hD:D < (deepV V:Int)) (hD2:-9223372036854775808≤D) :
    Calls Tryz.prog 18 #[confV proto plain rb sb ms ct fr,.int .i64 V.f0,.slice B xs.length cB,.int .i64 D] w fun e w'=>∃ cs X n,e=.returned (.tuple #[.agg cs.toArray,.int .i64 50,.int .i64 n])∧kVal.K w' X cs∧Below w.heap.size w w':=by
  obtain ⟨v,⟨st',rest⟩,hst⟩:=deep_rd proto hp (cfgOf plain rb sb ms ct fr) hc hm V hV hw ht (tot V+1) D (by omega) hD r
  rw [← hx] at hst
  have hT:=isT_lt (right_type hV)
  have hdt:=deep_tot V
  refine (Get_G proto plain rb sb ms ct fr hf V.f0 D B cB xs w hE hB h8 (xs_pos hV hx) hlim (V:=v) (k:=50) (st':=st') (rest:=rest) ?_).mono ?_
  · intro m R S W hI
    have h1:=getV_sim R.st R.run_eq (tot V+1) D V.f0 (CR0,toB xs)
    rw [hst] at h1
    rw [show V.f0 % 256=V.f0 by omega]
    by_cases hD0:D≤0
    · rw [getV,if_pos hD0] at h1
      have h2:=get_deep R.P D V.f0 ⟨hD2,hD0⟩ hT hI
      injection h1 with h1
      rw [h1] at h2
      exact h2
    · exact get_any R.P (tot V+1) D (by omega) (by omega) (by omega) S _ W V.f0 hI hT.1 hT.2 _ h1
  · rintro e w' ⟨cs,h1,h2,h3⟩
    exact ⟨cs,v,_,h1,h2.now,h3⟩

end

end Go.Proofs.YtmjcnomgpikncaaGreatDoor
