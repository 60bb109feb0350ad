/- Is a value right? No condition. -/
import Derived.Test.YtmjcnomgpikncaaGreatDoorMs1
import Derived.Test.YtmjcnomgpikncaaGreatDoorMc
import Derived.Test.YtmjcnomgpikncaaGreatDoorMa1
import Derived.Lib.BufferSrc
import Derived.Test.YtmjcnomgpikncaaGreatDoorMr2
import Derived.Test.YtmjcnomgpikncaaGreatDoorMs2
import Derived.Test.YtmjcnomgpikncaaGreatDoorMr
import Derived.Test.YtmjcnomgpikncaaGreatDoorMg1
set_option linter.unusedVariables false
set_option linter.unusedSimpArgs false
namespace Go.Proofs.YtmjcnomgpikncaaGreatDoor

open Go.RowKit Go.Deep



theorem rightL_get {t k e:Int}:∀ {l:List Val} {i:Nat},rightL t k e i l=true→∀ {j:Nat} {p:Val},l[j]?=some p→rightV p=true
  | [],i,h,j,p,hp=>by simp at hp
  | v :: l,i,h,0,p,hp=>by
    simp only [rightL,Bool.and_eq_true] at h
    simp only [List.getElem?_cons_zero,Option.some.injEq] at hp
    subst hp
    exact h.1.2
  | v :: l,i,h,j+1,p,hp=>by
    simp only [rightL,Bool.and_eq_true] at h
    exact rightL_get h.2 (by simpa using hp)

theorem okL_get:∀ {l:List Val},okL l→∀ {j:Nat} {p:Val},l[j]?=some p→okV p
  | [],h,j,p,hp=>by simp at hp
  | v :: l,h,0,p,hp=>by
    simp only [okL] at h
    simp only [List.getElem?_cons_zero,Option.some.injEq] at hp
    subst hp
    exact h.1
  | v :: l,h,j+1,p,hp=>by
    simp only [okL] at h
    exact okL_get h.2 (by simpa using hp)

theorem wfL_get:∀ {l:List Val},wfL l→∀ {j:Nat} {p:Val},l[j]?=some p→wfV p
  | [],h,j,p,hp=>by simp at hp
  | v :: l,h,0,p,hp=>by
    simp only [wfL] at h
    simp only [List.getElem?_cons_zero,Option.some.injEq] at hp
    subst hp
    exact h.1
  | v :: l,h,j+1,p,hp=>by
    simp only [wfL] at h
    exact wfL_get h.2 (by simpa using hp)

theorem totL_get:∀ {l:List Val} {j:Nat} {p:Val},l[j]?=some p→tot p≤totL l
  | [],j,p,hp=>by simp at hp
  | v :: l,0,p,hp=>by
    simp only [List.getElem?_cons_zero,Option.some.injEq] at hp
    subst hp
    simp only [totL]
    omega
  | v :: l,j+1,p,hp=>by
    have:=totL_get (l:=l) (j:=j) (p:=p) (by simpa using hp)
    simp only [totL]
    omega

end Go.Proofs.YtmjcnomgpikncaaGreatDoor

namespace Go.Proofs.YtmjcnomgpikncaaGreatDoor

open Go.RowKit Go.Deep



open Go.Proofs.YtmjcnomgpikncaaGreatDoorW.PrintWords

theorem cells7r {W:World} {b:Nat} {a0 a1 a2 a3 a4 a5 a6:Value} {t:TypeId} {f:Nat × Nat} (h:W.heap[b]?=some (.cells #[a0,a1,a2,a3,a4,a5,a6] t f)) :
    W.cell? ⟨b,0,none⟩=some a0∧W.cell? ⟨b,1,none⟩=some a1∧W.cell? ⟨b,2,none⟩=some a2∧W.cell? ⟨b,3,none⟩=some a3∧W.cell? ⟨b,4,none⟩=some a4∧W.cell? ⟨b,5,none⟩=some a5∧W.cell? ⟨b,6,none⟩=some a6 :=
  ⟨(cell_heap h _).trans rfl,(cell_heap h _).trans rfl,(cell_heap h _).trans rfl,(cell_heap h _).trans rfl,(cell_heap h _).trans rfl,(cell_heap h _).trans rfl,(cell_heap h _).trans rfl⟩

theorem at_V {w:World} {A:Option Addr} {n:Nat} {xs:List Val} (h:Kd.C kVal w A n xs) (i:Nat) (x:Val) (hx:xs[i]?=some x) :
    ∃ ad y0 y1 y2 y3 y4 y5 y6,A=some ad∧(w.cell? (ad.add (i * 7))=some y0∧w.cell? ⟨(ad.add (i * 7)).block,(ad.add (i * 7)).off+1,none⟩=some y1∧w.cell? ⟨(ad.add (i * 7)).block,(ad.add (i * 7)).off+2,none⟩=some y2∧w.cell? ⟨(ad.add (i * 7)).block,(ad.add (i * 7)).off+3,none⟩=some y3∧w.cell? ⟨(ad.add (i * 7)).block,(ad.add (i * 7)).off+4,none⟩=some y4∧w.cell? ⟨(ad.add (i * 7)).block,(ad.add (i * 7)).off+5,none⟩=some y5∧w.cell? ⟨(ad.add (i * 7)).block,(ad.add (i * 7)).off+6,none⟩=some y6)∧kVal.K w x [y0,y1,y2,y3,y4,y5,y6]∧ad.block < w.heap.size:=by
  have hn:i < xs.length:=(List.getElem?_eq_some_iff.1 hx).1
  obtain ⟨ad,rfl,hc⟩:=h.2.2 (by have:=h.1;omega)
  obtain ⟨cs,hl,hK,hcs⟩:=hc i x hx
  have hK0:=hK
  obtain ⟨A2,c2,A5,c5,A6,c6,rfl,-⟩:=kVal_open hK0
  have e:∀ j v,[Value.int .i64 x.f0,.int .i64 x.f1,.slice A2 x.f2.length c2,.int .i64 x.f3,.int .i64 x.f4,.slice A5 x.f5.length c5,.slice A6 x.f6.length c6][j]?=some v→w.cell? (ad.add (i * 7+j))=some v:=fun j v hv=>hcs j v hv
  refine ⟨ad,_,_,_,_,_,_,_,rfl,⟨e 0 _ rfl,by rw [← add_field _ _ 1 (by omega)];exact e 1 _ rfl,by rw [← add_field _ _ 2 (by omega)];exact e 2 _ rfl,by rw [← add_field _ _ 3 (by omega)];exact e 3 _ rfl,by rw [← add_field _ _ 4 (by omega)];exact e 4 _ rfl,by rw [← add_field _ _ 5 (by omega)];exact e 5 _ rfl,by rw [← add_field _ _ 6 (by omega)];exact e 6 _ rfl⟩,hK,?_⟩
  have:=block_lt_of_cell (e 0 _ rfl)
  rwa [Lib.block_add] at this

theorem at_I {w:World} {A:Option Addr} {n:Nat} {xs:List Int} (h:(Kd.int .i64).C w A n xs) (i:Nat) (x:Int) (hx:xs[i]?=some x):∃ ad,A=some ad∧w.cell? (ad.add i)=some (.int .i64 x)∧ad.block < w.heap.size:=by
  have hn:i < xs.length:=(List.getElem?_eq_some_iff.1 hx).1
  obtain ⟨ad,rfl,hc⟩:=h.2.2 (by have:=h.1;omega)
  obtain ⟨cs,hl,he,hcs⟩:=hc i x hx
  obtain rfl:cs=[.int .i64 x]:=he
  have h1:=hcs 0 _ rfl
  have h2:w.cell? (ad.add i)=some (.int .i64 x):=by simpa [Kd.int,Kd.scalar] using h1
  refine ⟨ad,rfl,h2,?_⟩
  have:=block_lt_of_cell h2
  rwa [Lib.block_add] at this

end Go.Proofs.YtmjcnomgpikncaaGreatDoor

namespace Go.Proofs.YtmjcnomgpikncaaGreatDoor

open Go.RowKit Go.Deep



open Go.Proofs.YtmjcnomgpikncaaGreatDoorW.PrintWords

set_option maxHeartbeats 1000000 in
theorem isType_w (t:Int) (w:World):Calls Tryz.prog 32 #[.int .i64 t] w fun e w'=>e=.returned (.bool (isT t))∧w=w':=by
  have key:t=2∨t=3∨t=4∨t=6∨t=8∨t=10∨((¬ t=2∧¬ t=3∧¬ t=4∧¬ t=6∧¬ t=8∧¬ t=10)∧(11≤t∧t≤16))∨((¬ t=2∧¬ t=3∧¬ t=4∧¬ t=6∧¬ t=8∧¬ t=10)∧(11≤t∧¬ t≤16))∨((¬ t=2∧¬ t=3∧¬ t=4∧¬ t=6∧¬ t=8∧¬ t=10)∧¬ 11≤t):=by omega
  rcases key with rfl | rfl | rfl | rfl | rfl | rfl | ⟨⟨n2,n3,n4,n6,n8,n10⟩,h1,h2⟩ | ⟨⟨n2,n3,n4,n6,n8,n10⟩,h1,h2⟩ | ⟨⟨n2,n3,n4,n6,n8,n10⟩,h1⟩
  all_goals (
    go_enter Tryz.func32,Tryz.ntmps32
    go_wp2
    go_ret
    first
      | exact ⟨rfl,rfl⟩
      | exact ⟨by rw [show isT t=true from decide_eq_true (by omega)];first | rfl | simp [*],rfl⟩
      | exact ⟨by rw [show isT t=false from decide_eq_false (by omega)];first | rfl | simp [*],rfl⟩)

theorem rem2 (j:Nat):Int.tmod (j:Int) 2=((j % 2:Nat):Int):=rfl

set_option maxRecDepth 100000 in
set_option maxHeartbeats 40000000 in
theorem right_12 (n k e:Int) (s ids:List Int) (xs:List Val) (A2 A5 A6:Option Addr) (c2 c5 c6:Nat) (w:World) (hTT0:isT 12=true) (l5:ids.length≤c5) (l6:xs.length≤c6) (hil:ids.length≤9223372036854775807) (hxl:xs.length≤9223372036854775807) (g6:kVal.C w A6 xs.length xs) (hIH0:∀ (j:Nat) (p:Val),xs[j]?=some p→∀ (W:World) (cs:List Value),kVal.K W p cs→Calls Tryz.prog 14 #[.agg cs.toArray] W fun e1 w'=>e1=.returned (.bool (rightV p))∧Below W.heap.size W w') :
    Calls Tryz.prog 14 #[.agg #[.int .i64 12,.int .i64 n,.slice A2 s.length c2,.int .i64 k,.int .i64 e,.slice A5 ids.length c5,.slice A6 xs.length c6]] w fun e1 w'=>e1=.returned (.bool (rightV ⟨12,n,s,k,e,ids,xs⟩))∧Below w.heap.size w w':=by
  have hIH:=Lib.hid hIH0
  have HC:=Lib.hid g6
  have hTT:=Lib.hid hTT0
  clear hIH0 g6 hTT0
  by_cases hids:ids.length=xs.length
  case neg =>
    have hids':¬ ((ids.length:Int)=(xs.length:Int)):=by omega
    go_enter Tryz.func14,Tryz.ntmps14
    go_wp2_with (go_at_call 32;refine (isType_w _ _).mono ?_;rintro e1 w1 ⟨rfl,rfl⟩;rw [hTT.out])
    go_ret
    refine ⟨?_,(Below.refl _ w).alloc (Nat.le_refl _) _⟩
    show Ending.returned (Value.bool false)=_
    simp [rightV,hids]
  have HRV:=Lib.hid (show rightV ⟨12,n,s,k,e,ids,xs⟩=rightL 12 k e 0 xs by simp [rightV,hids,hTT.out])
  rw [hids]
  clear hids hil l5
  go_enter Tryz.func14,Tryz.ntmps14
  go_wp2_with (go_at_call 32;refine (isType_w _ _).mono ?_;rintro e1 w1 ⟨rfl,rfl⟩;rw [hTT.out])
  obtain ⟨W0,hW0⟩:∃ W0,W0=w.alloc (.cells #[.int .i64 12,.int .i64 n,.slice A2 s.length c2,.int .i64 k,.int .i64 e,.slice A5 xs.length c5,.slice A6 xs.length c6] 28):=⟨_,rfl⟩
  have HB0:=Lib.hid (show Below w.heap.size w W0 by rw [hW0];exact (Below.refl _ w).alloc (Nat.le_refl _) _)
  have HV0:=Lib.hid (show W0.heap[w.heap.size]?=some (.cells #[.int .i64 12,.int .i64 n,.slice A2 s.length c2,.int .i64 k,.int .i64 e,.slice A5 xs.length c5,.slice A6 xs.length c6] 28 (0,0)) by rw [hW0];exact heap_alloc_new w _)
  rw [← hW0]
  clear hW0
  go_loopw [3] (fun i wr=>∃ j:Nat,i=.int .i64 (j:Nat)∧j≤xs.length∧Hid (rightL 12 k e j (xs.drop j)=rightL 12 k e 0 xs)∧Hid (Below w.heap.size w wr)∧Hid (wr.heap[w.heap.size]?=some (.cells #[.int .i64 12,.int .i64 n,.slice A2 s.length c2,.int .i64 k,.int .i64 e,.slice A5 xs.length c5,.slice A6 xs.length c6] 28 (0,0)))) (fun i _=>xs.length - (intOf i).toNat)
  case atStart=>exact ⟨0,rfl,by omega,Lib.hid (by rw [List.drop_zero]),HB0,HV0⟩
  case round =>
    obtain ⟨j,rfl,hj,HR,HB,HV⟩:=hrel
    clear HB0 HV0
    obtain ⟨b0,b1,b2,b3,b4,b5,b6⟩:=cells7r HV.out
    by_cases hlt:j < xs.length
    case neg =>
      have hlt':¬ ((j:Int) < (xs.length:Int)):=by omega
      have hr:=HR.out
      rw [List.drop_eq_nil_of_le (by omega)] at hr
      have HFIN:=Lib.hid hr.symm
      clear hr
      go_wp2_with (fail)
      go_ret
      refine ⟨?_,HB.out⟩
      show Ending.returned (Value.bool true)=_
      rw [HRV.out,HFIN.out]
      simp [rightL]
    case pos =>
      have hlt':(j:Int) < (xs.length:Int):=by omega
      obtain ⟨p,hp⟩:∃ p,xs[j]?=some p:=⟨_,List.getElem?_eq_getElem hlt⟩
      have hd:xs.drop j=p :: xs.drop (j+1):=by rw [List.drop_eq_getElem_cons hlt];congr 1;exact Option.some.inj ((List.getElem?_eq_getElem hlt).symm.trans hp)
      obtain ⟨ad,y0,y1,y2,y3,y4,y5,y6,rfl,hcs,hKp,hal⟩:=at_V HC.out j p hp
      have hKp0:=hKp
      obtain ⟨B2,d2,B5,d5,B6,d6,he,-⟩:=kVal_open hKp0
      simp only [List.cons.injEq,and_true] at he
      obtain ⟨rfl,rfl,rfl,rfl,rfl,rfl,rfl⟩:=he
      clear hKp0
      obtain ⟨h0,h1,h2,h3,h4,h5,h6⟩:=hcs
      have hdd:∀ o,(⟨(ad.add (j * 7)).block,o,none⟩:Addr).block < w.heap.size:=fun o=>by show (ad.add (j * 7)).block < _;rw [Lib.block_add];exact hal
      replace h0:=(HB.out.cell (by rw [Lib.block_add];exact hal)).trans h0
      replace h1:=(HB.out.cell (hdd _)).trans h1
      replace h2:=(HB.out.cell (hdd _)).trans h2
      replace h3:=(HB.out.cell (hdd _)).trans h3
      replace h4:=(HB.out.cell (hdd _)).trans h4
      replace h5:=(HB.out.cell (hdd _)).trans h5
      replace h6:=(HB.out.cell (hdd _)).trans h6
      have HIH:=Lib.hid (hIH.out j p hp wr _ (kVal.K_below HB.out hKp))
      have hr:=HR.out
      rw [hd,rightL] at hr
      have HR1:=Lib.hid hr
      have hwl:=HB.out.size
      have hlw:=lt_heap HV.out
      clear hr hd hKp hdd
      cases hrp:rightV p
      · go_wp2_with (go_at_call 14;refine HIH.out.mono ?_;rintro e1 W1 ⟨rfl,hB1⟩;rw [hrp])
        go_ret
        refine ⟨?_,HB.out.trans (hB1.mono hwl)⟩
        show Ending.returned (Value.bool false)=_
        rw [HRV.out,← HR1.out,hrp]
        simp
      · go_wp2_with (go_at_call 14;refine HIH.out.mono ?_;rintro e1 W1 ⟨rfl,hB1⟩;rw [hrp])
        have hr:=HR1.out
        rw [hrp] at hr
        exact ⟨⟨j+1,by go_num,by omega,Lib.hid (by rw [← hr];simp),Lib.hid (HB.out.trans (hB1.mono hwl)),Lib.hid ((hB1.block _ hlw).trans HV.out)⟩,by simp [intOf];omega⟩

set_option maxRecDepth 100000 in
set_option maxHeartbeats 40000000 in
theorem right_13 (n k e:Int) (s ids:List Int) (xs:List Val) (A2 A5 A6:Option Addr) (c2 c5 c6:Nat) (w:World) (hTT0:isT 13=true) (l5:ids.length≤c5) (l6:xs.length≤c6) (hil:ids.length≤9223372036854775807) (hxl:xs.length≤9223372036854775807) (g6:kVal.C w A6 xs.length xs) (hIH0:∀ (j:Nat) (p:Val),xs[j]?=some p→∀ (W:World) (cs:List Value),kVal.K W p cs→Calls Tryz.prog 14 #[.agg cs.toArray] W fun e1 w'=>e1=.returned (.bool (rightV p))∧Below W.heap.size W w') :
 Calls Tryz.prog 14 #[.agg #[.int .i64 13,.int .i64 n,.slice A2 s.length c2,.int .i64 k,.int .i64 e,.slice A5 ids.length c5,.slice A6 xs.length c6]] w fun e1 w'=>e1=.returned (.bool (rightV ⟨13,n,s,k,e,ids,xs⟩))∧Below w.heap.size w w':=by
 have hIH:=Lib.hid hIH0
 have HC:=Lib.hid g6
 have hTT:=Lib.hid hTT0
 clear hIH0 g6 hTT0
 by_cases hev:xs.length % 2=0
 case neg =>
  have hev':Int.tmod (xs.length:Int) 2=1:=by rw [rem2];omega
  go_enter Tryz.func14,Tryz.ntmps14
  go_wp2_with (go_at_call 32;refine (isType_w _ _).mono ?_;rintro e1 w1 ⟨rfl,rfl⟩;rw [hTT.out])
  go_ret
  refine ⟨?_,(Below.refl _ w).alloc (Nat.le_refl _) _⟩
  show Ending.returned (Value.bool false)=_
  simp [rightV,hev]
 have hev':Int.tmod (xs.length:Int) 2=0:=by rw [rem2];omega
 by_cases hz:xs.length=0∧k=0∧e=0
 case pos =>
  obtain ⟨hz1,rfl,rfl⟩:=hz
  obtain rfl:xs=[]:=List.eq_nil_of_length_eq_zero hz1
  clear hev hev'
  go_enter Tryz.func14,Tryz.ntmps14
  go_wp2_with (go_at_call 32;refine (isType_w _ _).mono ?_;rintro e1 w1 ⟨rfl,rfl⟩;rw [hTT.out])
  go_ret
  refine ⟨?_,(Below.refl _ w).alloc (Nat.le_refl _) _⟩
  show Ending.returned (Value.bool true)=_
  simp [rightV,hTT.out]
 have hz':(decide ((13:Int)=13) && decide (xs.length=0) && decide (k=0) && decide (e=0))=false:=by
  rw [decide_eq_true rfl,Bool.true_and]
  simp only [Bool.and_eq_false_iff,decide_eq_false_iff_not]
  by_cases h1:xs.length=0
  · by_cases h2:k=0
    · exact .inr (fun h3=>hz ⟨h1,h2,h3⟩)
    · exact .inl (.inr h2)
  · exact .inl (.inl h1)
 have HRV0:=Lib.hid (show rightV ⟨13,n,s,k,e,ids,xs⟩=(isT e && isT k && rightL 13 k e 0 xs) by
  rw [rightV,hz',hTT.out]
  simp [hev])
 clear hz'
 by_cases hl0:xs.length=0
 case pos =>
  obtain rfl:xs=[]:=List.eq_nil_of_length_eq_zero hl0
  have hcase:¬ k=0∨(k=0∧¬ e=0):=by
   by_cases h2:k=0
   · exact .inr ⟨h2,fun h3=>hz ⟨rfl,h2,h3⟩⟩
   · exact .inl h2
  clear hz hev hev' hl0
  cases hE:isT e <;> cases hKk:isT k <;> rcases hcase with h | ⟨rfl,h⟩
  all_goals (
   have HE:=Lib.hid hE
   have HKk:=Lib.hid hKk
   clear hE hKk
   go_enter Tryz.func14,Tryz.ntmps14
   go_wp2_with (go_at_call 32;refine (isType_w _ _).mono ?_;rintro e1 w1 ⟨rfl,rfl⟩;first | rw [hTT.out] | rw [HE.out] | rw [HKk.out])
   (try (refine wp_loop_rounds 1 ?_;rw [rounds_succ];go_wp2_with (fail)))
   first
    | done
    | (go_ret;refine ⟨?_,(Below.refl _ w).alloc (Nat.le_refl _) _⟩;show Ending.returned (Value.bool false)=_;rw [HRV0.out,HE.out,HKk.out];rfl)
    | (go_ret;refine ⟨?_,(Below.refl _ w).alloc (Nat.le_refl _) _⟩;show Ending.returned (Value.bool true)=_;rw [HRV0.out,HE.out,HKk.out];rfl))
 case neg =>
  have hl0':¬ ((xs.length:Int)=0):=by omega
  clear hz
  cases hE:isT e <;> cases hKk:isT k
  case true.true =>
   have HRV:=Lib.hid (show rightV ⟨13,n,s,k,e,ids,xs⟩=rightL 13 k e 0 xs by rw [HRV0.out,hE,hKk];simp)
   have HE:=Lib.hid hE
   have HKk:=Lib.hid hKk
   clear hE hKk HRV0
   go_enter Tryz.func14,Tryz.ntmps14
   go_wp2_with (go_at_call 32;refine (isType_w _ _).mono ?_;rintro e1 w1 ⟨rfl,rfl⟩;first | rw [hTT.out] | rw [HE.out] | rw [HKk.out])
   obtain ⟨W0,hW0⟩:∃ W0,W0=w.alloc (.cells #[.int .i64 13,.int .i64 n,.slice A2 s.length c2,.int .i64 k,.int .i64 e,.slice A5 ids.length c5,.slice A6 xs.length c6] 28):=⟨_,rfl⟩
   have HB0:=Lib.hid (show Below w.heap.size w W0 by rw [hW0];exact (Below.refl _ w).alloc (Nat.le_refl _) _)
   have HV0:=Lib.hid (show W0.heap[w.heap.size]?=some (.cells #[.int .i64 13,.int .i64 n,.slice A2 s.length c2,.int .i64 k,.int .i64 e,.slice A5 ids.length c5,.slice A6 xs.length c6] 28 (0,0)) by rw [hW0];exact heap_alloc_new w _)
   rw [← hW0]
   clear hW0
   go_loopw [3] (fun i wr=>∃ j:Nat,i=.int .i64 (j:Nat)∧j≤xs.length∧Hid (rightL 13 k e j (xs.drop j)=rightL 13 k e 0 xs)∧Hid (Below w.heap.size w wr)∧Hid (wr.heap[w.heap.size]?=some (.cells #[.int .i64 13,.int .i64 n,.slice A2 s.length c2,.int .i64 k,.int .i64 e,.slice A5 ids.length c5,.slice A6 xs.length c6] 28 (0,0)))) (fun i _=>xs.length - (intOf i).toNat)
   case atStart=>exact ⟨0,rfl,by omega,Lib.hid (by rw [List.drop_zero]),HB0,HV0⟩
   case round =>
    obtain ⟨j,rfl,hj,HR,HB,HV⟩:=hrel
    clear HB0 HV0
    obtain ⟨b0,b1,b2,b3,b4,b5,b6⟩:=cells7r HV.out
    by_cases hlt:j < xs.length
    case neg =>
     have hlt':¬ ((j:Int) < (xs.length:Int)):=by omega
     have hr:=HR.out
     rw [List.drop_eq_nil_of_le (by omega)] at hr
     have HFIN:=Lib.hid hr.symm
     clear hr
     go_wp2_with (fail)
     go_ret
     refine ⟨?_,HB.out⟩
     show Ending.returned (Value.bool true)=_
     rw [HRV.out,HFIN.out]
     simp [rightL]
    case pos =>
     have hlt':(j:Int) < (xs.length:Int):=by omega
     obtain ⟨p,hp⟩:∃ p,xs[j]?=some p:=⟨_,List.getElem?_eq_getElem hlt⟩
     have hd:xs.drop j=p :: xs.drop (j+1):=by rw [List.drop_eq_getElem_cons hlt];congr 1;exact Option.some.inj ((List.getElem?_eq_getElem hlt).symm.trans hp)
     obtain ⟨ad,y0,y1,y2,y3,y4,y5,y6,rfl,hcs,hKp,hal⟩:=at_V HC.out j p hp
     have hKp0:=hKp
     obtain ⟨B2,d2,B5,d5,B6,d6,he,-⟩:=kVal_open hKp0
     simp only [List.cons.injEq,and_true] at he
     obtain ⟨rfl,rfl,rfl,rfl,rfl,rfl,rfl⟩:=he
     clear hKp0
     obtain ⟨h0,h1,h2,h3,h4,h5,h6⟩:=hcs
     have hdd:∀ o,(⟨(ad.add (j * 7)).block,o,none⟩:Addr).block < w.heap.size:=fun o=>by show (ad.add (j * 7)).block < _;rw [Lib.block_add];exact hal
     replace h0:=(HB.out.cell (by rw [Lib.block_add];exact hal)).trans h0
     replace h1:=(HB.out.cell (hdd _)).trans h1
     replace h2:=(HB.out.cell (hdd _)).trans h2
     replace h3:=(HB.out.cell (hdd _)).trans h3
     replace h4:=(HB.out.cell (hdd _)).trans h4
     replace h5:=(HB.out.cell (hdd _)).trans h5
     replace h6:=(HB.out.cell (hdd _)).trans h6
     have HIH:=Lib.hid (hIH.out j p hp wr _ (kVal.K_below HB.out hKp))
     have hr:=HR.out
     rw [hd,rightL] at hr
     have HR1:=Lib.hid hr
     have hwl:=HB.out.size
     have hlw:=lt_heap HV.out
     clear hr hd hKp hdd
     by_cases hpar:j % 2=0
     case pos =>
      have hpar2:Int.tmod (j:Int) 2=0:=by rw [rem2];omega
      by_cases hw:p.f0=k
      case pos =>
       subst hw
       cases hrp:rightV p
       · go_wp2_with (go_at_call 14;refine HIH.out.mono ?_;rintro e1 W1 ⟨rfl,hB1⟩;rw [hrp])
         go_ret
         refine ⟨?_,HB.out.trans (hB1.mono hwl)⟩
         show Ending.returned (Value.bool false)=_
         rw [HRV.out,← HR1.out,hrp]
         simp
       · go_wp2_with (go_at_call 14;refine HIH.out.mono ?_;rintro e1 W1 ⟨rfl,hB1⟩;rw [hrp])
         have hr:=HR1.out
         rw [hrp] at hr
         exact ⟨⟨j+1,by go_num,by omega,Lib.hid (by rw [← hr];simp [hpar]),Lib.hid (HB.out.trans (hB1.mono hwl)),Lib.hid ((hB1.block _ hlw).trans HV.out)⟩,by simp [intOf];omega⟩
      case neg =>
       go_wp2_with (fail)
       go_ret
       refine ⟨?_,HB.out⟩
       show Ending.returned (Value.bool false)=_
       rw [HRV.out,← HR1.out]
       simp [hpar,hw]
     case neg =>
      have hpar2:Int.tmod (j:Int) 2=1:=by rw [rem2];omega
      by_cases hw:p.f0=e
      case pos =>
       subst hw
       cases hrp:rightV p
       · go_wp2_with (go_at_call 14;refine HIH.out.mono ?_;rintro e1 W1 ⟨rfl,hB1⟩;rw [hrp])
         go_ret
         refine ⟨?_,HB.out.trans (hB1.mono hwl)⟩
         show Ending.returned (Value.bool false)=_
         rw [HRV.out,← HR1.out,hrp]
         simp
       · go_wp2_with (go_at_call 14;refine HIH.out.mono ?_;rintro e1 W1 ⟨rfl,hB1⟩;rw [hrp])
         have hr:=HR1.out
         rw [hrp] at hr
         exact ⟨⟨j+1,by go_num,by omega,Lib.hid (by rw [← hr];simp [hpar]),Lib.hid (HB.out.trans (hB1.mono hwl)),Lib.hid ((hB1.block _ hlw).trans HV.out)⟩,by simp [intOf];omega⟩
      case neg =>
       go_wp2_with (fail)
       go_ret
       refine ⟨?_,HB.out⟩
       show Ending.returned (Value.bool false)=_
       rw [HRV.out,← HR1.out]
       simp [hpar,hw]

  all_goals (
   have HE:=Lib.hid hE
   have HKk:=Lib.hid hKk
   clear hE hKk
   go_enter Tryz.func14,Tryz.ntmps14
   go_wp2_with (go_at_call 32;refine (isType_w _ _).mono ?_;rintro e1 w1 ⟨rfl,rfl⟩;first | rw [hTT.out] | rw [HE.out] | rw [HKk.out])
   go_ret
   refine ⟨?_,(Below.refl _ w).alloc (Nat.le_refl _) _⟩
   show Ending.returned (Value.bool false)=_
   rw [HRV0.out,HE.out,HKk.out]
   try rfl)

set_option maxRecDepth 100000 in
set_option maxHeartbeats 40000000 in
theorem right_14 (t n k e:Int) (s ids:List Int) (xs:List Val) (A2 A5 A6:Option Addr) (c2 c5 c6:Nat) (w:World) (hTT0:isT t=true) (l5:ids.length≤c5) (l6:xs.length≤c6) (hil:ids.length≤9223372036854775807) (hxl:xs.length≤9223372036854775807) (g6:kVal.C w A6 xs.length xs) (hIH0:∀ (j:Nat) (p:Val),xs[j]?=some p→∀ (W:World) (cs:List Value),kVal.K W p cs→Calls Tryz.prog 14 #[.agg cs.toArray] W fun e1 w'=>e1=.returned (.bool (rightV p))∧Below W.heap.size W w') (c12:¬ t=12) (c13:¬ t=13) (h4:t=14∨t=15) :
 Calls Tryz.prog 14 #[.agg #[.int .i64 t,.int .i64 n,.slice A2 s.length c2,.int .i64 k,.int .i64 e,.slice A5 ids.length c5,.slice A6 xs.length c6]] w fun e1 w'=>e1=.returned (.bool (rightV ⟨t,n,s,k,e,ids,xs⟩))∧Below w.heap.size w w':=by
 have hIH:=Lib.hid hIH0
 have HC:=Lib.hid g6
 have hTT:=Lib.hid hTT0
 clear hIH0 g6 hTT0
 have c1:¬ t < 12:=by omega
 have c16:¬ t=16:=by omega
 have hcond:(decide (t < 12) || t == 16)=false:=by simp;omega
 have hb1:decide (t < 12)=false:=by simp;omega
 have hb12:(t == 12)=false:=by simp [c12]
 have hb13:(t == 13)=false:=by simp [c13]
 have hb16:(t == 16)=false:=by simp [c16]
 skip
 have HRV0:=Lib.hid (show rightV ⟨t,n,s,k,e,ids,xs⟩=(isT e && rightL t k e 0 xs) by
  rw [rightV,hTT.out]
  simp [c12,c13,c16]
  intro h
  omega)
 cases hE:isT e
 case false =>
  have HE:=Lib.hid hE
  have HKk:=HE
  clear hE
  go_enter Tryz.func14,Tryz.ntmps14
  go_wp2_with (go_at_call 32;refine (isType_w _ _).mono ?_;rintro e1 w1 ⟨rfl,rfl⟩;first | rw [hTT.out] | rw [HE.out] | rw [HKk.out])
  go_ret
  refine ⟨?_,(Below.refl _ w).alloc (Nat.le_refl _) _⟩
  show Ending.returned (Value.bool false)=_
  rw [HRV0.out,HE.out]
  try rfl
 case true =>
  have HRV:=Lib.hid (show rightV ⟨t,n,s,k,e,ids,xs⟩=rightL t k e 0 xs by rw [HRV0.out,hE];simp)
  have HE:=Lib.hid hE
  have HKk:=HE
  clear hE HRV0
  go_enter Tryz.func14,Tryz.ntmps14
  go_wp2_with (go_at_call 32;refine (isType_w _ _).mono ?_;rintro e1 w1 ⟨rfl,rfl⟩;first | rw [hTT.out] | rw [HE.out] | rw [HKk.out])
  obtain ⟨W0,hW0⟩:∃ W0,W0=w.alloc (.cells #[.int .i64 t,.int .i64 n,.slice A2 s.length c2,.int .i64 k,.int .i64 e,.slice A5 ids.length c5,.slice A6 xs.length c6] 28):=⟨_,rfl⟩
  have HB0:=Lib.hid (show Below w.heap.size w W0 by rw [hW0];exact (Below.refl _ w).alloc (Nat.le_refl _) _)
  have HV0:=Lib.hid (show W0.heap[w.heap.size]?=some (.cells #[.int .i64 t,.int .i64 n,.slice A2 s.length c2,.int .i64 k,.int .i64 e,.slice A5 ids.length c5,.slice A6 xs.length c6] 28 (0,0)) by rw [hW0];exact heap_alloc_new w _)
  rw [← hW0]
  clear hW0
  go_loopw [3] (fun i wr=>∃ j:Nat,i=.int .i64 (j:Nat)∧j≤xs.length∧Hid (rightL t k e j (xs.drop j)=rightL t k e 0 xs)∧Hid (Below w.heap.size w wr)∧Hid (wr.heap[w.heap.size]?=some (.cells #[.int .i64 t,.int .i64 n,.slice A2 s.length c2,.int .i64 k,.int .i64 e,.slice A5 ids.length c5,.slice A6 xs.length c6] 28 (0,0)))) (fun i _=>xs.length - (intOf i).toNat)
  case atStart=>exact ⟨0,rfl,by omega,Lib.hid (by rw [List.drop_zero]),HB0,HV0⟩
  case round =>
   obtain ⟨j,rfl,hj,HR,HB,HV⟩:=hrel
   clear HB0 HV0
   obtain ⟨b0,b1,b2,b3,b4,b5,b6⟩:=cells7r HV.out
   by_cases hlt:j < xs.length
   case neg =>
    have hlt':¬ ((j:Int) < (xs.length:Int)):=by omega
    have hr:=HR.out
    rw [List.drop_eq_nil_of_le (by omega)] at hr
    have HFIN:=Lib.hid hr.symm
    clear hr
    go_wp2_with (fail)
    go_ret
    refine ⟨?_,HB.out⟩
    show Ending.returned (Value.bool true)=_
    rw [HRV.out,HFIN.out]
    simp [rightL]
   case pos =>
    have hlt':(j:Int) < (xs.length:Int):=by omega
    obtain ⟨p,hp⟩:∃ p,xs[j]?=some p:=⟨_,List.getElem?_eq_getElem hlt⟩
    have hd:xs.drop j=p :: xs.drop (j+1):=by rw [List.drop_eq_getElem_cons hlt];congr 1;exact Option.some.inj ((List.getElem?_eq_getElem hlt).symm.trans hp)
    obtain ⟨ad,y0,y1,y2,y3,y4,y5,y6,rfl,hcs,hKp,hal⟩:=at_V HC.out j p hp
    have hKp0:=hKp
    obtain ⟨B2,d2,B5,d5,B6,d6,he,-⟩:=kVal_open hKp0
    simp only [List.cons.injEq,and_true] at he
    obtain ⟨rfl,rfl,rfl,rfl,rfl,rfl,rfl⟩:=he
    clear hKp0
    obtain ⟨h0,h1,h2,h3,h4,h5,h6⟩:=hcs
    have hdd:∀ o,(⟨(ad.add (j * 7)).block,o,none⟩:Addr).block < w.heap.size:=fun o=>by show (ad.add (j * 7)).block < _;rw [Lib.block_add];exact hal
    replace h0:=(HB.out.cell (by rw [Lib.block_add];exact hal)).trans h0
    replace h1:=(HB.out.cell (hdd _)).trans h1
    replace h2:=(HB.out.cell (hdd _)).trans h2
    replace h3:=(HB.out.cell (hdd _)).trans h3
    replace h4:=(HB.out.cell (hdd _)).trans h4
    replace h5:=(HB.out.cell (hdd _)).trans h5
    replace h6:=(HB.out.cell (hdd _)).trans h6
    have HIH:=Lib.hid (hIH.out j p hp wr _ (kVal.K_below HB.out hKp))
    have hr:=HR.out
    rw [hd,rightL] at hr
    have HR1:=Lib.hid hr
    have hwl:=HB.out.size
    have hlw:=lt_heap HV.out
    clear hr hd hKp hdd
    by_cases hw:p.f0=e
    case pos =>
     subst hw
     cases hrp:rightV p
     · go_wp2_with (go_at_call 14;refine HIH.out.mono ?_;rintro e1 W1 ⟨rfl,hB1⟩;rw [hrp])
       go_ret
       refine ⟨?_,HB.out.trans (hB1.mono hwl)⟩
       show Ending.returned (Value.bool false)=_
       rw [HRV.out,← HR1.out,hrp]
       simp
     · go_wp2_with (go_at_call 14;refine HIH.out.mono ?_;rintro e1 W1 ⟨rfl,hB1⟩;rw [hrp])
       have hr:=HR1.out
       rw [hrp] at hr
       exact ⟨⟨j+1,by go_num,by omega,Lib.hid (by rw [← hr];simp [c12,c13]),Lib.hid (HB.out.trans (hB1.mono hwl)),Lib.hid ((hB1.block _ hlw).trans HV.out)⟩,by simp [intOf];omega⟩
    case neg =>
     go_wp2_with (fail)
     go_ret
     refine ⟨?_,HB.out⟩
     show Ending.returned (Value.bool false)=_
     rw [HRV.out,← HR1.out]
     simp [c12,c13,hw]

set_option maxRecDepth 100000 in
set_option maxHeartbeats 40000000 in
theorem right_w:∀ (N:Nat) (V:Val),tot V < N→okV V→∀ (w:World) (cs:List Value),kVal.K w V cs→Calls Tryz.prog 14 #[.agg cs.toArray] w fun e1 w'=>e1=.returned (.bool (rightV V))∧Below w.heap.size w w'
  | 0,V,hN,hok,w,cs,hK=>by omega
  | N+1,⟨t,n,s,k,e,ids,xs⟩,hN,hok,w,cs,hK=>by
    obtain ⟨A2,c2,A5,c5,A6,c6,rfl,l2,g2,l5,g5,l6,g6⟩:=kVal_open hK
    dsimp only [Val.f0,Val.f1,Val.f2,Val.f3,Val.f4,Val.f5,Val.f6] at l2 g2 l5 g5 l6 g6 ⊢
    simp only [okV] at hok
    simp only [tot] at hN
    obtain ⟨-,-,-,-,-,-,-,hil,hxl,hokL⟩:=hok
    have hIH:=Lib.hid (fun (j:Nat) (p:Val) (hp:xs[j]?=some p) (W:World) (cs:List Value) (hKp:kVal.K W p cs)=>right_w N p (by have:=totL_get hp;omega) (okL_get hokL hp) W cs hKp)
    have HC:=Lib.hid g6
    clear g2 g5 g6 hK
    cases hT:isT t
    case false =>
      go_enter Tryz.func14,Tryz.ntmps14
      go_wp2_with (go_at_call 32;refine (isType_w _ _).mono ?_;rintro e1 w1 ⟨rfl,rfl⟩;rw [hT])
      go_ret
      refine ⟨?_,(Below.refl _ w).alloc (Nat.le_refl _) _⟩
      show Ending.returned (Value.bool false)=_
      simp [rightV,hT]
    have hTT:=Lib.hid hT
    by_cases hleaf:t=2∨t=3∨t=4∨t=6∨t=8∨t=10∨t=11∨t=16
    case pos =>
      have c12:¬ t=12:=by omega
      have c13:¬ t=13:=by omega
      have HRV:=Lib.hid (show rightV ⟨t,n,s,k,e,ids,xs⟩=true by
        simp only [rightV,hT,decide_eq_false c12,decide_eq_false c13]
        have:decide (t < 12)=true∨decide (t=16)=true:=by simp only [decide_eq_true_eq];omega
        rcases this with h | h <;> simp [h])
      by_cases c16:t=16
      · clear c12 c13 hleaf
        subst c16
        go_enter Tryz.func14,Tryz.ntmps14
        go_wp2_with (go_at_call 32;refine (isType_w _ _).mono ?_;rintro e1 w1 ⟨rfl,rfl⟩;rw [hTT.out])
        go_ret
        refine ⟨?_,(Below.refl _ w).alloc (Nat.le_refl _) _⟩
        show Ending.returned (Value.bool true)=_
        rw [HRV.out]
      · have c1:t < 12:=by omega
        clear hleaf
        go_enter Tryz.func14,Tryz.ntmps14
        go_wp2_with (go_at_call 32;refine (isType_w _ _).mono ?_;rintro e1 w1 ⟨rfl,rfl⟩;rw [hTT.out])
        go_ret
        refine ⟨?_,(Below.refl _ w).alloc (Nat.le_refl _) _⟩
        show Ending.returned (Value.bool true)=_
        rw [HRV.out]
    have h4:t=12∨t=13∨t=14∨t=15:=by
      have:=isT_is hT
      omega
    clear hleaf
    by_cases h12:t=12
    · subst h12
      exact right_12 n k e s ids xs A2 A5 A6 c2 c5 c6 w hT l5 l6 hil hxl HC.out hIH.out
    by_cases h13:t=13
    · subst h13
      exact right_13 n k e s ids xs A2 A5 A6 c2 c5 c6 w hT l5 l6 hil hxl HC.out hIH.out
    · exact right_14 t n k e s ids xs A2 A5 A6 c2 c5 c6 w hT l5 l6 hil hxl HC.out hIH.out h12 h13 (by omega)

theorem right_any2 {V:Val} (hV:okV V) {w:World} {x0 x1 x2 x3 x4 x5 x6:Value} (hK:kVal.K w V [x0,x1,x2,x3,x4,x5,x6]) (W:World) (hB:Below w.heap.size w W) :
    Calls Tryz.prog 14 #[.agg #[x0,x1,x2,x3,x4,x5,x6]] W fun e w'=>e=.returned (.bool (rightV V))∧Below W.heap.size W w' :=
  right_w (tot V+1) V (by omega) hV W [x0,x1,x2,x3,x4,x5,x6] (kVal.K_below hB hK)

end Go.Proofs.YtmjcnomgpikncaaGreatDoor

namespace Go.Proofs.YtmjcnomgpikncaaGreatDoor

open Go.RowKit Go.Deep



open Go.Proofs.YtmjcnomgpikncaaGreatDoorW.PrintWords

set_option maxRecDepth 100000 in
set_option maxHeartbeats 4000000 in
theorem eqInts_w (xs:List Int) (A B:Option Addr) (c d:Nat) (w:World) (hA:(Kd.int .i64).C w A xs.length xs) (hB:(Kd.int .i64).C w B xs.length xs) (hl:xs.length≤9223372036854775807) :
    Calls Tryz.prog 55 #[.slice A xs.length c,.slice B xs.length d] w fun e w'=>e=.returned (.bool true)∧Below w.heap.size w w':=by
  have HA:=Lib.hid hA
  have HC:=Lib.hid hB
  clear hA hB
  go_enter Tryz.func55,Tryz.ntmps55
  go_wp2_with (fail)
  go_loopw [5] (fun i wr=>∃ j:Nat,i=.int .i64 (j:Nat)∧j≤xs.length∧Hid (Below w.heap.size w wr)) (fun i _=>xs.length - (intOf i).toNat)
  case atStart=>exact ⟨0,rfl,by omega,Lib.hid (Below.refl _ _)⟩
  case round =>
    obtain ⟨j,rfl,hj,HB⟩:=hrel
    by_cases hlt:j < xs.length
    case neg =>
      have hlt':¬ ((j:Int) < (xs.length:Int)):=by omega
      go_wp2_with (fail)
      go_ret
      exact ⟨rfl,HB.out⟩
    case pos =>
      have hlt':(j:Int) < (xs.length:Int):=by omega
      obtain ⟨y,hy⟩:∃ y,xs[j]?=some y:=⟨_,List.getElem?_eq_getElem hlt⟩
      obtain ⟨a1,rfl,h1,l1⟩:=at_I HA.out j y hy
      obtain ⟨a2,rfl,h2,l2⟩:=at_I HC.out j y hy
      replace h1:=(HB.out.cell (by rw [Lib.block_add];exact l1)).trans h1
      replace h2:=(HB.out.cell (by rw [Lib.block_add];exact l2)).trans h2
      go_wp2_with (fail)
      go_region_held3 (fun W=>W.cell? (a1.add j)=some (.int .i64 y)∧W.cell? (a2.add j)=some (.int .i64 y)) (first | exact ⟨h1,h2⟩) (fail)
      go_wp2_with (fail)
      exact ⟨⟨j+1,by go_num,by omega,Lib.hid (by first | exact HB.out.drew | exact below_drewN HB.out _)⟩,by simp [intOf];omega⟩

set_option maxRecDepth 100000 in
set_option maxHeartbeats 10000000 in
theorem same_w:∀ (N:Nat) (X:Val),tot X < N→okV X→∀ (w:World) (cs ds:List Value),kVal.K w X cs→kVal.K w X ds→Calls Tryz.prog 23 #[.agg cs.toArray,.agg ds.toArray] w fun e1 w'=>e1=.returned (.bool true)∧Below w.heap.size w w'
  | 0,X,hN,hok,w,cs,ds,h1,h2=>by omega
  | N+1,⟨t,n,s,k,e,ids,xs⟩,hN,hok,w,cs,ds,hK1,hK2=>by
    obtain ⟨A2,c2,A5,c5,A6,c6,rfl,l2,g2,l5,g5,l6,g6⟩:=kVal_open hK1
    obtain ⟨B2,d2,B5,d5,B6,d6,rfl,m2,q2,m5,q5,m6,q6⟩:=kVal_open hK2
    dsimp only [Val.f0,Val.f1,Val.f2,Val.f3,Val.f4,Val.f5,Val.f6] at l2 g2 l5 g5 l6 g6 m2 q2 m5 q5 m6 q6 ⊢
    simp only [okV] at hok
    simp only [tot] at hN
    obtain ⟨-,-,-,-,-,-,hsl,hil,hxl,hokL⟩:=hok
    have hIH:=Lib.hid (fun (j:Nat) (p:Val) (hp:xs[j]?=some p) (W:World) (cs ds:List Value) (h1:kVal.K W p cs) (h2:kVal.K W p ds)=>same_w N p (by have:=totL_get hp;omega) (okL_get hokL hp) W cs ds h1 h2)
    obtain ⟨k0,hk0⟩:=equal_f s s hsl
    rw [decide_eq_true rfl] at hk0
    have HEQ:=Lib.hid (fun W (hB:Below w.heap.size w W)=>laws_equal.calls k0 A2 c2 s B2 d2 s _ W (Kd.C_below g2 hB) l2 (Kd.C_below q2 hB) m2 hk0)
    have HEI:=Lib.hid (fun W (hB:Below w.heap.size w W)=>eqInts_w ids A5 B5 c5 d5 W (Kd.C_below g5 hB) (Kd.C_below q5 hB) hil)
    have HCA:=Lib.hid g6
    have HCB:=Lib.hid q6
    clear g2 q2 g5 q5 g6 q6 hK1 hK2 hk0
    obtain ⟨W0,hW0⟩:∃ W0,W0=(w.alloc (.cells #[.int .i64 t,.int .i64 n,.slice A2 s.length c2,.int .i64 k,.int .i64 e,.slice A5 ids.length c5,.slice A6 xs.length c6] 28)).alloc (.cells #[.int .i64 t,.int .i64 n,.slice B2 s.length d2,.int .i64 k,.int .i64 e,.slice B5 ids.length d5,.slice B6 xs.length d6] 28):=⟨_,rfl⟩
    have hs0:W0.heap.size=w.heap.size+1+1:=by rw [hW0];simp
    have HW0:=Lib.hid (show Below w.heap.size w W0 by rw [hW0];exact ((Below.refl _ w).alloc (Nat.le_refl _) _).alloc (by simp) _)
    have HA0:=Lib.hid (show W0.heap[w.heap.size]?=some (.cells #[.int .i64 t,.int .i64 n,.slice A2 s.length c2,.int .i64 k,.int .i64 e,.slice A5 ids.length c5,.slice A6 xs.length c6] 28 (0,0)) by rw [hW0];exact heap_alloc_old (heap_alloc_new w _) _)
    have HBB0:=Lib.hid (show W0.heap[w.heap.size+1]?=some (.cells #[.int .i64 t,.int .i64 n,.slice B2 s.length d2,.int .i64 k,.int .i64 e,.slice B5 ids.length d5,.slice B6 xs.length d6] 28 (0,0)) by rw [hW0];exact heap_alloc_at (by simp) _)
    go_enter Tryz.func23,Tryz.ntmps23
    go_wp2_with (fail)
    rw [← hW0]
    clear hW0
    refine (HEQ.out W0 HW0.out).mono ?_
    rintro e1 W1 ⟨rfl,hB1⟩
    have HB1:=Lib.hid (show Below W0.heap.size W0 W1 from by first | exact hB1 | exact hB1.below)
    clear hB1
    have ha1:=(HB1.out.block w.heap.size (by omega)).trans HA0.out
    have hb1:=(HB1.out.block (w.heap.size+1) (by omega)).trans HBB0.out
    obtain ⟨a0,a1,a2,a3,a4,a5,a6⟩:=cells7r ha1
    obtain ⟨b0,b1,b2,b3,b4,b5,b6⟩:=cells7r hb1
    go_wp2_with (fail)
    refine (HEI.out W1 (HW0.out.trans (HB1.out.mono HW0.out.size))).mono ?_
    rintro e1 W2 ⟨rfl,hB2⟩
    have HB2:=Lib.hid (HB1.out.trans (hB2.mono HB1.out.size))
    clear hB2 ha1 hb1 a0 a1 a2 a3 a4 a5 a6 b0 b1 b2 b3 b4 b5 b6
    have ha2:=(HB2.out.block w.heap.size (by omega)).trans HA0.out
    have hb2:=(HB2.out.block (w.heap.size+1) (by omega)).trans HBB0.out
    obtain ⟨a0,a1,a2,a3,a4,a5,a6⟩:=cells7r ha2
    obtain ⟨b0,b1,b2,b3,b4,b5,b6⟩:=cells7r hb2
    go_wp2_with (fail)
    clear ha2 hb2 a0 a1 a2 a3 a4 a5 a6 b0 b1 b2 b3 b4 b5 b6
    go_loopw [5] (fun i wr=>∃ j:Nat,i=.int .i64 (j:Nat)∧j≤xs.length∧Hid (Below W0.heap.size W0 wr)) (fun i _=>xs.length - (intOf i).toNat)
    case atStart=>exact ⟨0,rfl,by omega,HB2⟩
    case round =>
    obtain ⟨j,rfl,hj,HB3⟩:=hrel
    have ha3:=(HB3.out.block w.heap.size (by omega)).trans HA0.out
    have hb3:=(HB3.out.block (w.heap.size+1) (by omega)).trans HBB0.out
    obtain ⟨a0,a1,a2,a3,a4,a5,a6⟩:=cells7r ha3
    obtain ⟨b0,b1,b2,b3,b4,b5,b6⟩:=cells7r hb3
    clear ha3 hb3
    by_cases hlt:j < xs.length
    case neg =>
      have hlt':¬ ((j:Int) < (xs.length:Int)):=by omega
      go_wp2_with (fail)
      go_ret
      exact ⟨rfl,HW0.out.trans (HB3.out.mono HW0.out.size)⟩
    case pos =>
      have hlt':(j:Int) < (xs.length:Int):=by omega
      obtain ⟨p,hp⟩:∃ p,xs[j]?=some p:=⟨_,List.getElem?_eq_getElem hlt⟩
      obtain ⟨ad,y0,y1,y2,y3,y4,y5,y6,rfl,hcs,hKp,hal⟩:=at_V HCA.out j p hp
      obtain ⟨bd,z0,z1,z2,z3,z4,z5,z6,rfl,hds,hKq,hbl⟩:=at_V HCB.out j p hp
      have HSX:=Lib.hid (fun W (hB:Below W0.heap.size W0 W)=>show W.cell? ⟨w.heap.size,6,none⟩=some (.slice (some ad) xs.length c6)∧W.cell? ⟨w.heap.size+1,6,none⟩=some (.slice (some bd) xs.length d6)∧W.cell? (ad.add (j * 7))=some y0∧W.cell? ⟨(ad.add (j * 7)).block,(ad.add (j * 7)).off+1,none⟩=some y1∧W.cell? ⟨(ad.add (j * 7)).block,(ad.add (j * 7)).off+2,none⟩=some y2∧W.cell? ⟨(ad.add (j * 7)).block,(ad.add (j * 7)).off+3,none⟩=some y3∧W.cell? ⟨(ad.add (j * 7)).block,(ad.add (j * 7)).off+4,none⟩=some y4∧W.cell? ⟨(ad.add (j * 7)).block,(ad.add (j * 7)).off+5,none⟩=some y5∧W.cell? ⟨(ad.add (j * 7)).block,(ad.add (j * 7)).off+6,none⟩=some y6∧W.cell? (bd.add (j * 7))=some z0∧W.cell? ⟨(bd.add (j * 7)).block,(bd.add (j * 7)).off+1,none⟩=some z1∧W.cell? ⟨(bd.add (j * 7)).block,(bd.add (j * 7)).off+2,none⟩=some z2∧W.cell? ⟨(bd.add (j * 7)).block,(bd.add (j * 7)).off+3,none⟩=some z3∧W.cell? ⟨(bd.add (j * 7)).block,(bd.add (j * 7)).off+4,none⟩=some z4∧W.cell? ⟨(bd.add (j * 7)).block,(bd.add (j * 7)).off+5,none⟩=some z5∧W.cell? ⟨(bd.add (j * 7)).block,(bd.add (j * 7)).off+6,none⟩=some z6 from by
        obtain ⟨h0,h1,h2,h3,h4,h5,h6⟩:=hcs
        obtain ⟨g0,g1,g2,g3,g4,g5,g6⟩:=hds
        have hBw:Below w.heap.size w W:=HW0.out.trans (hB.mono HW0.out.size)
        have hd:∀ o,(⟨(ad.add (j * 7)).block,o,none⟩:Addr).block < w.heap.size:=fun o=>by show (ad.add (j * 7)).block < _;rw [Lib.block_add];exact hal
        have he:∀ o,(⟨(bd.add (j * 7)).block,o,none⟩:Addr).block < w.heap.size:=fun o=>by show (bd.add (j * 7)).block < _;rw [Lib.block_add];exact hbl
        exact ⟨(cells7r ((hB.block w.heap.size (by omega)).trans HA0.out)).2.2.2.2.2.2,(cells7r ((hB.block (w.heap.size+1) (by omega)).trans HBB0.out)).2.2.2.2.2.2,(hBw.cell (by rw [Lib.block_add];exact hal)).trans h0,(hBw.cell (hd _)).trans h1,(hBw.cell (hd _)).trans h2,(hBw.cell (hd _)).trans h3,(hBw.cell (hd _)).trans h4,(hBw.cell (hd _)).trans h5,(hBw.cell (hd _)).trans h6,(hBw.cell (by rw [Lib.block_add];exact hbl)).trans g0,(hBw.cell (he _)).trans g1,(hBw.cell (he _)).trans g2,(hBw.cell (he _)).trans g3,(hBw.cell (he _)).trans g4,(hBw.cell (he _)).trans g5,(hBw.cell (he _)).trans g6⟩)
      have HIH:=Lib.hid (fun W (hB:Below wr.heap.size wr W)=>hIH.out j p hp W [y0,y1,y2,y3,y4,y5,y6] [z0,z1,z2,z3,z4,z5,z6] (kVal.K_below (HW0.out.trans ((HB3.out.trans (hB.mono HB3.out.size)).mono HW0.out.size)) hKp) (kVal.K_below (HW0.out.trans ((HB3.out.trans (hB.mono HB3.out.size)).mono HW0.out.size)) hKq))
      clear hcs hds hKp hKq
      go_wp2_with (fail)
      clear a0 a1 a2 a3 a4 a5 a6 b0 b1 b2 b3 b4 b5 b6
      go_region_held3 (fun W=>W.cell? ⟨w.heap.size,6,none⟩=some (.slice (some ad) xs.length c6)∧W.cell? ⟨w.heap.size+1,6,none⟩=some (.slice (some bd) xs.length d6)∧W.cell? (ad.add (j * 7))=some y0∧W.cell? ⟨(ad.add (j * 7)).block,(ad.add (j * 7)).off+1,none⟩=some y1∧W.cell? ⟨(ad.add (j * 7)).block,(ad.add (j * 7)).off+2,none⟩=some y2∧W.cell? ⟨(ad.add (j * 7)).block,(ad.add (j * 7)).off+3,none⟩=some y3∧W.cell? ⟨(ad.add (j * 7)).block,(ad.add (j * 7)).off+4,none⟩=some y4∧W.cell? ⟨(ad.add (j * 7)).block,(ad.add (j * 7)).off+5,none⟩=some y5∧W.cell? ⟨(ad.add (j * 7)).block,(ad.add (j * 7)).off+6,none⟩=some y6∧W.cell? (bd.add (j * 7))=some z0∧W.cell? ⟨(bd.add (j * 7)).block,(bd.add (j * 7)).off+1,none⟩=some z1∧W.cell? ⟨(bd.add (j * 7)).block,(bd.add (j * 7)).off+2,none⟩=some z2∧W.cell? ⟨(bd.add (j * 7)).block,(bd.add (j * 7)).off+3,none⟩=some z3∧W.cell? ⟨(bd.add (j * 7)).block,(bd.add (j * 7)).off+4,none⟩=some z4∧W.cell? ⟨(bd.add (j * 7)).block,(bd.add (j * 7)).off+5,none⟩=some z5∧W.cell? ⟨(bd.add (j * 7)).block,(bd.add (j * 7)).off+6,none⟩=some z6) (first | exact HSX.out _ HB4.out | exact HSX.out _ HB3.out.drew | exact HSX.out _ HB3.out)
        (first | (go_at_call 23;refine (HIH.out _ (Below.drew (Below.refl _ _))).mono ?_;rintro e1 W4 ⟨rfl,hB4⟩;have HB4:=Lib.hid (show Below W0.heap.size W0 W4 from HB3.out.drew.trans (hB4.mono HB3.out.size));clear hB4))
      go_wp2_with (fail)
      exact ⟨⟨j+1,by go_num,by omega,HB4⟩,by simp [intOf];omega⟩

theorem same_any2 {X:Val} (hX:okV X) {W:World} {cs ds:List Value} (h1:kVal.K W X cs) (h2:kVal.K W X ds) :
    Calls Tryz.prog 23 #[.agg cs.toArray,.agg ds.toArray] W fun e w'=>e=.returned (.bool true)∧Below W.heap.size W w' :=
  same_w (tot X+1) X (by omega) hX W cs ds h1 h2

end Go.Proofs.YtmjcnomgpikncaaGreatDoor

namespace Go.Proofs.YtmjcnomgpikncaaGreatDoor

open Go.RowKit Go.Deep



open Go.Proofs.YtmjcnomgpikncaaGreatDoorW.PrintWords

def wideB (plain:Bool) (ms ct fr:Int):Bool:=plain || ((decide (ms≤0) || decide (1048576 < ms)) && (decide (ct≤0) || decide (65536 < ct)) && (decide (fr≤0) || decide (1048576 < fr)))

theorem wideB_of {plain rb sb:Bool} {ms ct fr:Int} (h:wideB plain ms ct fr=true):1048576≤(cfgOf plain rb sb ms ct fr).message∧65536≤(cfgOf plain rb sb ms ct fr).container:=by
  unfold Cfg.message Cfg.container orElse cfgOf
  cases plain
  · simp [wideB] at h ⊢
    omega
  · simp

set_option maxRecDepth 100000 in
set_option maxHeartbeats 4000000 in
theorem isWide_w (proto:Int) (plain rb sb:Bool) (ms ct fr:Int) (w:World):Calls Tryz.prog 15 #[.agg #[.int .i64 proto,.bool plain,.bool rb,.bool sb,.int .i32 ms,.int .i32 ct,.int .i32 fr]] w fun e w'=>e=.returned (.bool (wideB plain ms ct fr))∧Below w.heap.size w w':=by
  cases plain
  case true =>
    go_enter Tryz.func15,Tryz.ntmps15
    go_wp2_with (fail)
    go_ret
    exact ⟨rfl,(Below.refl _ w).alloc (Nat.le_refl _) _⟩
  case false =>
    have key:∀ (x M:Int),x≤0∨((¬ x≤0)∧M < x)∨((¬ x≤0)∧¬ M < x):=fun x M=>by omega
    rcases key ms 1048576 with h1 | ⟨h1,h2⟩ | ⟨h1,h2⟩
    rotate_left 2
    · go_enter Tryz.func15,Tryz.ntmps15
      go_wp2_with (fail)
      go_ret
      exact ⟨by simp [wideB] <;> omega,(Below.refl _ w).alloc (Nat.le_refl _) _⟩
    all_goals (
      rcases key ct 65536 with h3 | ⟨h3,h4⟩ | ⟨h3,h4⟩
      rotate_left 2
      · go_enter Tryz.func15,Tryz.ntmps15
        go_wp2_with (fail)
        go_ret
        exact ⟨by simp [wideB] <;> omega,(Below.refl _ w).alloc (Nat.le_refl _) _⟩
      all_goals (
        rcases key fr 1048576 with h5 | ⟨h5,h6⟩ | ⟨h5,h6⟩
        all_goals (
          go_enter Tryz.func15,Tryz.ntmps15
          go_wp2_with (fail)
          go_ret
          exact ⟨by simp [wideB] <;> omega,(Below.refl _ w).alloc (Nat.le_refl _) _⟩)))

end Go.Proofs.YtmjcnomgpikncaaGreatDoor
