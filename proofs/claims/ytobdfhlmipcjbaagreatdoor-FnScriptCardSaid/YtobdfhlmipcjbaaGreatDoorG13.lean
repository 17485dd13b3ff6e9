/- spec.Do: a set copied, written and read. Conditions: places of four, numbers of at most 2,000. spec.Do: a set copied into another. Conditions: places of four, numbers of at most 2,000. -/
import Derived.Test.YtobdfhlmipcjbaaGreatDoorG05
set_option linter.unusedVariables false
set_option linter.unusedSimpArgs false
set_option maxHeartbeats 2000000
set_option maxRecDepth 100000
namespace Go.Proofs.YtobdfhlmipcjbaaGreatDoor
open Go.RowKit
theorem do_29(a b c fr to n B:Nat)(wd:BitVec 64)(many:Value)(vs:Nat->Value)(ls:Nat->List Bool)(w:World)(ha:a<4)(hb:b<4)(hc:c<4)(hn:n<=2000)(hs:Sets w B vs ls):
  Calls Tryz.prog 6 #[stepV 29 a b c fr to n wd many,.pointer (some ⟨B,0,none⟩)] w (AnsP true 0 w B vs ls c (ls a)):=by
 obtain ⟨la,lb,lc,oa,ca,ob,cb,oc,cc,hlab,hlbb,hlcb,hca,hcb,hcc,hcapa,hB,nB,nB1,nB2,hB1,hB2,HS,HLA,HLB,HLC,EA,EB,EC⟩:=doIn hs ha hb hc
 unfold stepV
 clear hs
 go_enter Tryz.func6,Tryz.ntmps6
 go_wp2
 go_quiet (fail)
 go_wp2_with (at_builtin;refine Hid.out ?_)
 refine Lib.hid ?_
 obtain ⟨w1,hw1,HDW,HBA,HBB,HBC⟩:=doMid 29 fr to n nq wd many true 0 ha hb hc HS EA EB EC
 rw [hw1];clear hw1
 obtain ⟨i0,hi0,hz0,hz1,hz2⟩:=info_parts info4
 have hsrc:Src (w1.alloc (.cells #[] 4)) 1 (.slice oa la ca) la ((ls a).map Value.bool):=by
  have h:=((HBA.out _ HDW.out.fr_).alloc (.cells #[] 4)).src
  rw [<- HLA.out]at h
  exact h
 have hsw1:=HDW.out.size
 have hem:=Lst.empty w1 4
 rw [HDW.out.size]at hem
 refine wpList_app 25 4 i0 _ 1 1 Tryz.underlying25 hi0 hz0 hz1 hz2 rfl (by omega) (by omega) (.tmp 585) (.tmp 586) rfl rfl _ _ _ _ hem (.slice oa la ca) (la) ((ls a).map Value.bool) (hsrc) (oneBool _) (by omega) rfl rfl ?_
 intro v2 w2 hv2 hf2' hat2
 have hf2:Fr (fun _=>False) w1 w2:=((Fr.refl _ w1).alloc _).trans' hf2' (fun r hr=> .inr (by simp [Value.ownBlock]at hr;omega))
 have ho2:∀r,v2.ownBlock=some r->w1.heap.size<=r:=own_new hat2 (by simp) (by simp [Value.ownBlock];try omega)
 clear hf2' hat2
 rw [Nat.zero_add,List.nil_append]at hv2
 rw [HLA.out]at hv2
 have hll:(ls a).length<=6000:=by have:=HLA.out;omega
 have HC:=doOutC hc HS HDW hv2 hf2 ho2 hll
 clear hv2 hf2 ho2 hll hca hcb hcc
 go_wp2_with (go_at_call 16;refine HC.out.mono ?_;rintro e w3 ⟨dd,rfl,HE,e0,f0,e1,f1,e2,f2,e3,f3,e4,f4,e5,f5⟩;refine Hid.out ?_)
 refine Lib.hid ?_
 go_wp2
 clear e0 e1 e2 e3 e4 e5 f0 f1 f2 f3 f4 f5
 obtain ⟨w4,hw4,e0,e1,e2,e3,e4,e5,HF⟩:=doSix true 0 HE
 rw [hw4];clear hw4
 simp [bodyPost,results,Tryz.f6,Tryz.results6,go_sem,e0,e1,e2,e3,e4,e5]
 exact HF.out
theorem range_set{α:Type}(n k:Nat)(f:Nat->α)(y:α):((List.range n).map f).set k y=(List.range n).map (fun i=>if i=k then y else f i):=by
 apply List.ext_getElem?
 intro i
 rw [List.getElem?_set]
 by_cases h:k=i
 ·subst h
  by_cases hn:k<n
  ·simp [hn]
  ·simp [hn]
 ·rw [if_neg h]
  by_cases hn:i<n
  ·simp [hn];intro e;exact absurd e.symm h
  ·simp [hn]
theorem mOf_range(n:Nat)(f:Nat->Bool)(i:Nat)(h:i<n):mOf ((List.range n).map f) i=f i:=by simp [mOf,List.getD,h]
theorem list_range(l:List Bool):(List.range l.length).map (mOf l)=l:=by
 apply List.ext_getElem?
 intro i
 by_cases h:i<l.length
 ·simp [h,mOf,List.getD]
 ·simp [h]
def copL(a c:List Bool)(k:Nat):List Bool:=(List.range c.length).map (fun i=>if i<k then mOf a i else mOf c i)
theorem copL_length(a c:List Bool)(k:Nat):(copL a c k).length=c.length:=by simp [copL]
theorem copL_zero(a c:List Bool):copL a c 0=c:=by unfold copL;simpa using list_range c
theorem copL_set(a c:List Bool)(k:Nat):((copL a c k).map Value.bool).set k (.bool (mOf a k))=(copL a c (k+1)).map Value.bool:=by
 unfold copL
 rw [<- List.map_set,range_set]
 congr 1
 apply List.map_congr_left
 intro i _
 by_cases e:i=k
 ·subst e;rw [if_pos rfl,if_pos (by omega)]
 ·rw [if_neg e]
  by_cases e2:i<k
  ·rw [if_pos e2,if_pos (by omega)]
  ·rw [if_neg e2,if_neg (by omega)]
theorem BL.set{w:World}{s c:Nat}{l:List Bool}(h:BL w (.slice (some ⟨s,0,none⟩) l.length c) l)(i:Nat)(hi:i<l.length)(y:Bool){l':List Bool}(hl:(l.map Value.bool).set i (.bool y)=l'.map Value.bool)(hn:l'.length=l.length):
  BL (w.setCell ⟨s,i,none⟩ (.bool y)) (.slice (some ⟨s,0,none⟩) l.length c) l':=by
 have:=Lst.set h i hi (.bool y)
 unfold BL
 rw [hn,<- hl]
 exact this
theorem do_22(a b c fr to n B:Nat)(wd:BitVec 64)(many:Value)(vs:Nat->Value)(ls:Nat->List Bool)(w:World)(ha:a<4)(hb:b<4)(hc:c<4)(hn:n<=2000)(hs:Sets w B vs ls):
  Calls Tryz.prog 6 #[stepV 22 a b c fr to n wd many,.pointer (some ⟨B,0,none⟩)] w (AnsP false ((min (ls a).length (ls c).length:Nat):Int) w B vs ls c (copL (ls a) (ls c) (min (((ls a).length+63)/64*64) (ls c).length))):=by
 obtain ⟨la,lb,lc,oa,ca,ob,cb,oc,cc,hlab,hlbb,hlcb,hca,hcb,hcc,hcapa,hB,nB,nB1,nB2,hB1,hB2,HS,HLA,HLB,HLC,EA,EB,EC⟩:=doIn hs ha hb hc
 unfold stepV
 clear hs
 go_enter Tryz.func6,Tryz.ntmps6
 go_wp2
 go_quiet (fail)
 go_wp2_with (at_builtin;refine Hid.out ?_)
 refine Lib.hid ?_
 obtain ⟨w1,hw1,HDW,HBA,HBB,HBC⟩:=doMid 22 fr to n nq wd many false (min (la:Int) (lc:Int)) ha hb hc HS EA EB EC
 rw [hw1];clear hw1
 have hsrc:Src (w1.alloc (.cells #[] 4)) 1 (.slice oc lc cc) lc ((ls c).map Value.bool):=by
  have h:=((HBC.out _ HDW.out.fr_).alloc (.cells #[] 4)).src
  rw [<- HLC.out]at h
  exact h
 have hsw1:=HDW.out.size
 have hem:=Lst.empty w1 4
 rw [HDW.out.size]at hem
 obtain ⟨i0,hi0,hz0,hz1,hz2⟩:=info_parts info4
 refine wpList_app 25 4 i0 _ 1 1 Tryz.underlying25 hi0 hz0 hz1 hz2 rfl (by omega) (by omega) (.tmp 395) (.tmp 396) rfl rfl _ _ _ _ hem (.slice oc lc cc) lc ((ls c).map Value.bool) hsrc (oneBool _) (by omega) rfl rfl ?_
 intro v2 w0 hv0 hf0' hat0
 have hf0:Fr (fun _=>False) w1 w0:=((Fr.refl _ w1).alloc _).trans' hf0' (fun r hr=> .inr (by simp [Value.ownBlock]at hr;omega))
 have ho2:∀r,v2.ownBlock=some r->w1.heap.size<=r:=own_new hat0 (by simp) (by simp [Value.ownBlock];try omega)
 clear hf0' hat0 hsrc hem hi0 hz0 hz1 hz2
 rw [Nat.zero_add,List.nil_append]at hv0
 obtain ⟨q,hq⟩:∃q,q=min ((la+63)/64*64) lc:=⟨_,rfl⟩
 have i1:((la:Int)+63).tdiv 64=((la+63)/64:Nat):=by rw [Int.tdiv_eq_ediv_of_nonneg (by omega)];omega
 have i2:min ((((la+63)/64:Nat):Int)*64) (lc:Int)=(q:Int):=by omega
 have i3:min (((la:Int)+63)/64*64) (lc:Int)=(q:Int):=by omega
 have hql:q<=lc:=by omega
 obtain ⟨ov,cv,ev⟩:=hv0.sl
 subst ev
 have HV0:=Lib.hid hv0;have HF0:=Lib.hid hf0;have HO2:=Lib.hid ho2;have HQ:=Lib.hid hq;have I1:=Lib.hid i1;have I2:=Lib.hid i2;have SW1:=Lib.hid hsw1;clear hv0 hf0 ho2 hq i1 i2 hca hcb hcc hsw1
 go_wp2
 go_loopw [406] (fun i wr=>∃k:Nat,k<=q/\i= .int .i64 (k:Int)/\BL wr (.slice ov lc cv) (copL (ls a) (ls c) k)/\Fr (fun r=>ov.map (·.block)=some r) w0 wr) (fun i _=>q-(intOf i).toNat)
 case atStart=>exact ⟨0,by omega,rfl,by rw [copL_zero];unfold BL;rw [<- HLC.out];exact HV0.out,Fr.refl _ _⟩
 case round=>
  obtain ⟨k,hk,rfl,hrow,hfr⟩:=hrel
  have hfw:Fr (fun _=>False) w wr:=(HDW.out.fr_.trans HF0.out).trans' hfr (fun r hr=> .inr (by
   have:=HO2.out r (by cases ov with
    |none=>cases hr
    |some z=>exact hr)
   have:=HDW.out.fr_.size;omega))
  have HR:=Lib.hid hrow;have HF:=Lib.hid hfr;have HFW:=Lib.hid hfw
  by_cases hlt:k<q
  ·have hlen:=copL_length (ls a) (ls c) k
   obtain ⟨s,c',e1,hc⟩:=hrow.at (i:=k) (by rw [hlen,<- HLC.out];omega)
   rw [hlen,<- HLC.out]at e1
   cases e1
   have hrow':Lst wr 4 1 (.slice (some ⟨s,0,none⟩) lc cv) lc ((copL (ls a) (ls c) k).map Value.bool):=by
    have h:=hrow
    unfold BL at h
    rw [hlen,<- HLC.out]at h
    exact h
   have hfz:=hrow'.free k
   have HR2:=Lib.hid hrow'
   have HLN:=Lib.hid hlen
   clear hrow hfr hfw hlen hrow'
   have HA:=Lib.hid (has_m _ (ls a) k _ rfl wr (HBA.out wr HFW.out))
   go_wp2_with (go_at_call 18;refine (HA.out).mono ?_;rintro e w3 ⟨rfl,rfl⟩)
   go_roundw
   case rel=>
    refine ⟨k+1,by omega,by go_num,?_,HF.out.setCell (a:=⟨s,k,none⟩) (.inl rfl) _⟩
    have h:=HR2.out.set k (by omega) (.bool (mOf (ls a) k))
    rw [copL_set]at h
    unfold BL
    rw [copL_length,<- HLC.out]
    exact h
   case measure=>simp [intOf];omega
  ·have hkk:k=q:=by omega
   subst hkk
   clear hrow hfr hfw
   go_wp2_with (go_at_call 16;refine Hid.out ?_)
   refine Lib.hid ?_
   have hLC:=HLC.out
   have hLA:=HLA.out
   have hfx:Fr (fun _=>False) w1 wr:=HF0.out.trans' HF.out (fun r hr=> .inr (by
    have h1:=HO2.out r (by cases ov with
     |none=>cases hr
     |some z=>exact hr)
    have h2:=SW1.out;omega))
   have hqq:k=min (((ls a).length+63)/64*64) (ls c).length:=by rw [<- hLC,<- hLA];exact HQ.out
   obtain ⟨v2,hv2e⟩:∃v2,v2=Value.slice ov lc cv:=⟨_,rfl⟩
   have hv2:BL wr v2 (copL (ls a) (ls c) (min (((ls a).length+63)/64*64) (ls c).length)):=by rw [hv2e,<- hqq];exact HR.out
   have ho2:∀r,v2.ownBlock=some r->w1.heap.size<=r:=by rw [hv2e];intro r hr;have:=HO2.out r hr;exact this
   have hf2:=hfx
   have hisn:((min (ls a).length (ls c).length:Nat):Int)=min (la:Int) (lc:Int):=by omega
   have hsw1:=SW1.out
   have HIS:=Lib.hid hisn
   rw [<- hv2e]
   obtain ⟨w2,hw2⟩:∃w2,w2=wr:=⟨_,rfl⟩
   rw [<- hw2]at hf2 hv2 ⊢
   have hqk:=Lib.hid hqq
   clear hLC hLA hfx hqq hv2e hw2 hisn hsw1
   have hll:(copL (ls a) (ls c) (min (((ls a).length+63)/64*64) (ls c).length)).length<=6000:=by rw [copL_length];have:=HLC.out;omega
   have HC:=doOutC hc HS HDW hv2 hf2 ho2 hll
   clear hv2 hf2 ho2 hll
   refine HC.out.mono ?_
   rintro e w3 ⟨dd,rfl,HE,e0,f0,e1,f1,e2,f2,e3,f3,e4,f4,e5,f5⟩
   go_wp2
   clear e0 e1 e2 e3 e4 e5 f0 f1 f2 f3 f4 f5
   obtain ⟨w4,hw4,e0,e1,e2,e3,e4,e5,HF⟩:=doSix false (min (la:Int) (lc:Int)) HE
   rw [hw4];clear hw4
   simp [bodyPost,results,Tryz.f6,Tryz.results6,go_sem,e0,e1,e2,e3,e4,e5]
   have hF:=HF.out
   rw [<- HIS.out]at hF ⊢
   exact hF
end Go.Proofs.YtobdfhlmipcjbaaGreatDoor
