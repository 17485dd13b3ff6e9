/- spec.Do: ranges. Conditions: places of four, numbers of at most 2,000. -/
import Derived.Test.YtobdfhlmipcjbaaGreatDoorG05
import Derived.Test.YtobdfhlmipcjbaaGreatDoorG21
set_option linter.unusedVariables false
set_option linter.unusedSimpArgs false
set_option maxHeartbeats 2000000
set_option maxRecDepth 100000
namespace Go.Proofs.YtobdfhlmipcjbaaGreatDoor
open Go.RowKit
theorem mixL_start(N:Nat)(f g:Nat->Bool)(k:Nat)(h:∀i,i<k->f i=g i):mixL N f g k=(List.range N).map g:=by
 unfold mixL
 apply List.map_congr_left
 intro i _
 by_cases e:i<k
 ·rw [if_pos e,h i e]
 ·rw [if_neg e]
def rngF(l:List Bool)(fr to:Nat)(all:Bool)(i:Nat):Bool:=if fr<=i/\i<to then (all|| !mOf l i) else mOf l i
def rngL(l:List Bool)(fr to:Nat)(all:Bool):List Bool:=(List.range (max l.length to)).map (rngF l fr to all)
theorem mOf_long(l:List Bool)(n i:Nat):mOf (longL l n) i=mOf l i:=by
 unfold mOf longL
 simp only [List.getD,List.getElem?_append]
 split
 ·rfl
 ·rename_i h
  rw [show l[i]? =none from List.getElem?_eq_none (by omega),List.getElem?_replicate]
  split <;> rfl
theorem do_4(a b c fr to n B:Nat)(wd:BitVec 64)(many:Value)(vs:Nat->Value)(ls:Nat->List Bool)(w:World)(ha:a<4)(hb:b<4)(hc:c<4)(hn:n<=2000)(hfr:fr<=2000)(hto:to<=2000)(hlt0:fr<to)(hs:Sets w B vs ls):
  Calls Tryz.prog 6 #[stepV 4 a b c fr to n wd many,.pointer (some ⟨B,0,none⟩)] w (AnsP false 0 w B vs ls a (rngL (ls a) fr to false)):=by
 obtain ⟨la,lb,lc,oa,ca,ob,cb,oc,cc,hlab,hlbb,hlcb,hca,hcb,hcc,hcapa,hB,nB,nB1,nB2,hB1,hB2,HS,HLA,HLB,HLC,EA,EB,EC⟩:=doIn hs ha hb hc
 unfold stepV
 clear hs
 have hge:decide ((to:Int)<=(fr:Int))=false:=by simp;omega
 go_enter Tryz.func6,Tryz.ntmps6
 go_wp2
 go_quiet (fail)
 go_wp2_with (go_at_call 19;refine Hid.out ?_)
 refine Lib.hid ?_
 obtain ⟨w1,hw1,HDW,HBA,HBB,HBC⟩:=doMid 4 fr to n nq wd many false 0 ha hb hc HS EA EB EC
 rw [hw1];clear hw1
 refine (long_c _ (ls a) (to:Int) w1 (HBA.out _ HDW.out.fr_) (by have:=HLA.out;omega) (by omega) (by omega)).mono ?_
 rintro e w0 ⟨v2,rfl,hv0,hf0,ho0⟩
 rw [show ((to:Int)).toNat=to by simp]at hv0
 obtain ⟨N,hN⟩:∃N,N=max la to:=⟨_,rfl⟩
 have hNb:N<=8000:=by omega
 have hv0':BL w0 v2 (mixL N (rngF (ls a) fr to false) (mOf (ls a)) fr):=by
  have e:longL (ls a) to=mixL N (rngF (ls a) fr to false) (mOf (ls a)) fr:=by
   rw [mixL_start _ _ _ _ (fun i hi=>by unfold rngF;rw [if_neg (by omega)])]
   rw [<- list_range (longL (ls a) to),longL_length,<- HLA.out,<- hN]
   apply List.map_congr_left
   intro i _
   exact mOf_long _ _ _
  rw [<- e];exact hv0
 obtain ⟨o2,c2,ev⟩:=hv0'.sl
 rw [mixL_length]at ev
 have ho2:∀r,v2.ownBlock=some r->w1.heap.size<=r:=ho0
 have HV0:=Lib.hid hv0';have HF0:=Lib.hid hf0;have HO2:=Lib.hid ho2;have HN:=Lib.hid hN
 clear hv0 hv0' hf0 ho0 ho2 hca hcb hcc hN
 subst ev
 have q4:=hp_cell ((HF0.out.keep _ (hp_lt HDW.out.p0) (fun h=>h)).trans HDW.out.p0) 4 (v:= .int .i64 (fr:Int)) rfl
 have q5:=hp_cell ((HF0.out.keep _ (hp_lt HDW.out.p0) (fun h=>h)).trans HDW.out.p0) 5 (v:= .int .i64 (to:Int)) rfl
 go_wp2
 clear q4 q5
 go_loopw [18] (fun i wr=>∃k:Nat,fr<=k/\k<=to/\i= .int .i64 (k:Int)/\BL wr (.slice o2 N c2) (mixL N (rngF (ls a) fr to false) (mOf (ls a)) k)/\Fr (fun r=>o2.map (·.block)=some r) w0 wr) (fun i _=>to-(intOf i).toNat)
 case atStart=>exact ⟨fr,by omega,by omega,rfl,HV0.out,Fr.refl _ _⟩
 case round=>
  obtain ⟨k,hk0,hk,rfl,hrow,hfr⟩:=hrel
  have hfx:Fr (fun _=>False) w1 wr:=HF0.out.trans' hfr (fun r hr=> .inr (HO2.out r (by cases o2 with
   |none=>cases hr
   |some z=>exact hr)))
  have hfw:Fr (fun _=>False) w wr:=HDW.out.fr_.trans hfx
  have HR:=Lib.hid hrow;have HF:=Lib.hid hfr;have HFW:=Lib.hid hfw;have HFX:=Lib.hid hfx
  have q0:=hp_cell ((hfx.keep _ (hp_lt HDW.out.p0) (fun h=>h)).trans HDW.out.p0) 0 (v:= .int .i64 4) rfl
  have q5:=hp_cell ((hfx.keep _ (hp_lt HDW.out.p0) (fun h=>h)).trans HDW.out.p0) 5 (v:= .int .i64 (to:Int)) rfl
  have hrow':Lst wr 4 1 (.slice o2 N c2) N ((mixL N (rngF (ls a) fr to false) (mOf (ls a)) k).map Value.bool):=by
   have h:=hrow
   unfold BL at h
   rw [mixL_length]at h
   exact h
  have HR2:=Lib.hid hrow'
  by_cases hlt:k<to
  ·obtain ⟨p,c',e1,hc⟩:=hrow.am (i:=k) (by rw [mixL_length];have:=HN.out;omega)
   rw [mixL_length]at e1
   cases e1
   have hmk:mOf (mixL N (rngF (ls a) fr to false) (mOf (ls a)) k) k=mOf (ls a) k:=by
    unfold mixL
    rw [mOf_range _ _ _ (by have:=HN.out;omega),if_neg (by omega)]
   rw [hmk]at hc
   have hkN:k<N:=by have:=HN.out;omega
   have hfz:=hrow'.free k
   clear hrow hfr hfw hfx hrow' hmk
   go_wp2
   go_roundw
   case rel=>
    refine ⟨k+1,by omega,by omega,by go_num,?_,HF.out.setCell (a:=⟨p,k,none⟩) (.inl rfl) _⟩
    have hv:rngF (ls a) fr to false k= !mOf (ls a) k:=by unfold rngF;rw [if_pos ⟨by omega,by omega⟩];simp
    have h:=HR2.out.set k (by omega) (.bool (rngF (ls a) fr to false k))
    rw [mixL_set,hv]at h
    unfold BL
    rw [mixL_length]
    exact h
   case measure=>simp [intOf];omega
  ·have hkk:k=to:=by omega
   subst hkk
   clear hrow hfr hfw hfx hrow'
   go_wp2_with (go_at_call 15;refine Hid.out ?_)
   refine Lib.hid ?_
   have hLe:mixL N (rngF (ls a) fr k false) (mOf (ls a)) k=rngL (ls a) fr k false:=by
    unfold rngL mixL
    rw [<- HLA.out,<- HN.out]
    apply List.map_congr_left
    intro i _
    by_cases e:i<k
    ·rw [if_pos e]
    ·rw [if_neg e];unfold rngF;rw [if_neg (by omega)]
   obtain ⟨v2,hv2e⟩:∃v,v=Value.slice o2 N c2:=⟨_,rfl⟩
   have hv2:BL wr v2 (rngL (ls a) fr k false):=by rw [hv2e,<- hLe];exact HR.out
   have ho2:∀r,v2.ownBlock=some r->w1.heap.size<=r:=by rw [hv2e];exact HO2.out
   have hf2:=HFX.out
   rw [<- hv2e]
   have hca:=trivial;have hcb:=trivial;have hcc:=trivial
   obtain ⟨w2,hw2⟩:∃w2,w2=wr:=⟨_,rfl⟩
   rw [<- hw2]at hf2 hv2 ⊢
   clear hw2 q0 q5
   have hll:(rngL (ls a) fr k false).length<=6000:=by unfold rngL;simp;have:=HLA.out;omega
   have HC:=doOutA ha HS HDW hv2 hf2 ho2 hll
   clear hv2 hf2 ho2 hll hca hcb hcc
   refine HC.out.mono ?_
   rintro e w3 ⟨dd,rfl,HE,e0,f0,e1,f1,e2,f2,e3,f3,e4,f4,e5,f5⟩
   go_wp2
   clear e0 e1 e2 e3 e4 e5 f0 f1 f2 f3 f4 f5
   obtain ⟨w4,hw4,e0,e1,e2,e3,e4,e5,HF⟩:=doSix false 0 HE
   rw [hw4];clear hw4
   simp [bodyPost,results,Tryz.f6,Tryz.results6,go_sem,e0,e1,e2,e3,e4,e5]
   exact HF.out
theorem do_5(a b c fr to n B:Nat)(wd:BitVec 64)(many:Value)(vs:Nat->Value)(ls:Nat->List Bool)(w:World)(ha:a<4)(hb:b<4)(hc:c<4)(hn:n<=2000)(hfr:fr<=2000)(hto:to<=2000)(hlt0:fr<to)(hs:Sets w B vs ls):
  Calls Tryz.prog 6 #[stepV 5 a b c fr to n wd many,.pointer (some ⟨B,0,none⟩)] w (AnsP false 0 w B vs ls a (rngL (ls a) fr to true)):=by
 obtain ⟨la,lb,lc,oa,ca,ob,cb,oc,cc,hlab,hlbb,hlcb,hca,hcb,hcc,hcapa,hB,nB,nB1,nB2,hB1,hB2,HS,HLA,HLB,HLC,EA,EB,EC⟩:=doIn hs ha hb hc
 unfold stepV
 clear hs
 have hge:decide ((to:Int)<=(fr:Int))=false:=by simp;omega
 go_enter Tryz.func6,Tryz.ntmps6
 go_wp2
 go_quiet (fail)
 go_wp2_with (go_at_call 19;refine Hid.out ?_)
 refine Lib.hid ?_
 obtain ⟨w1,hw1,HDW,HBA,HBB,HBC⟩:=doMid 5 fr to n nq wd many false 0 ha hb hc HS EA EB EC
 rw [hw1];clear hw1
 refine (long_c _ (ls a) (to:Int) w1 (HBA.out _ HDW.out.fr_) (by have:=HLA.out;omega) (by omega) (by omega)).mono ?_
 rintro e w0 ⟨v2,rfl,hv0,hf0,ho0⟩
 rw [show ((to:Int)).toNat=to by simp]at hv0
 obtain ⟨N,hN⟩:∃N,N=max la to:=⟨_,rfl⟩
 have hNb:N<=8000:=by omega
 have hv0':BL w0 v2 (mixL N (rngF (ls a) fr to true) (mOf (ls a)) fr):=by
  have e:longL (ls a) to=mixL N (rngF (ls a) fr to true) (mOf (ls a)) fr:=by
   rw [mixL_start _ _ _ _ (fun i hi=>by unfold rngF;rw [if_neg (by omega)])]
   rw [<- list_range (longL (ls a) to),longL_length,<- HLA.out,<- hN]
   apply List.map_congr_left
   intro i _
   exact mOf_long _ _ _
  rw [<- e];exact hv0
 obtain ⟨o2,c2,ev⟩:=hv0'.sl
 rw [mixL_length]at ev
 have ho2:∀r,v2.ownBlock=some r->w1.heap.size<=r:=ho0
 have HV0:=Lib.hid hv0';have HF0:=Lib.hid hf0;have HO2:=Lib.hid ho2;have HN:=Lib.hid hN
 clear hv0 hv0' hf0 ho0 ho2 hca hcb hcc hN
 subst ev
 have q4:=hp_cell ((HF0.out.keep _ (hp_lt HDW.out.p0) (fun h=>h)).trans HDW.out.p0) 4 (v:= .int .i64 (fr:Int)) rfl
 have q5:=hp_cell ((HF0.out.keep _ (hp_lt HDW.out.p0) (fun h=>h)).trans HDW.out.p0) 5 (v:= .int .i64 (to:Int)) rfl
 go_wp2
 clear q4 q5
 go_loopw [18] (fun i wr=>∃k:Nat,fr<=k/\k<=to/\i= .int .i64 (k:Int)/\BL wr (.slice o2 N c2) (mixL N (rngF (ls a) fr to true) (mOf (ls a)) k)/\Fr (fun r=>o2.map (·.block)=some r) w0 wr) (fun i _=>to-(intOf i).toNat)
 case atStart=>exact ⟨fr,by omega,by omega,rfl,HV0.out,Fr.refl _ _⟩
 case round=>
  obtain ⟨k,hk0,hk,rfl,hrow,hfr⟩:=hrel
  have hfx:Fr (fun _=>False) w1 wr:=HF0.out.trans' hfr (fun r hr=> .inr (HO2.out r (by cases o2 with
   |none=>cases hr
   |some z=>exact hr)))
  have hfw:Fr (fun _=>False) w wr:=HDW.out.fr_.trans hfx
  have HR:=Lib.hid hrow;have HF:=Lib.hid hfr;have HFW:=Lib.hid hfw;have HFX:=Lib.hid hfx
  have q0:=hp_cell ((hfx.keep _ (hp_lt HDW.out.p0) (fun h=>h)).trans HDW.out.p0) 0 (v:= .int .i64 5) rfl
  have q5:=hp_cell ((hfx.keep _ (hp_lt HDW.out.p0) (fun h=>h)).trans HDW.out.p0) 5 (v:= .int .i64 (to:Int)) rfl
  have hrow':Lst wr 4 1 (.slice o2 N c2) N ((mixL N (rngF (ls a) fr to true) (mOf (ls a)) k).map Value.bool):=by
   have h:=hrow
   unfold BL at h
   rw [mixL_length]at h
   exact h
  have HR2:=Lib.hid hrow'
  by_cases hlt:k<to
  ·obtain ⟨p,c',e1,hc⟩:=hrow.am (i:=k) (by rw [mixL_length];have:=HN.out;omega)
   rw [mixL_length]at e1
   cases e1
   have hmk:mOf (mixL N (rngF (ls a) fr to true) (mOf (ls a)) k) k=mOf (ls a) k:=by
    unfold mixL
    rw [mOf_range _ _ _ (by have:=HN.out;omega),if_neg (by omega)]
   rw [hmk]at hc
   have hkN:k<N:=by have:=HN.out;omega
   have hfz:=hrow'.free k
   clear hrow hfr hfw hfx hrow' hmk
   go_wp2
   go_roundw
   case rel=>
    refine ⟨k+1,by omega,by omega,by go_num,?_,HF.out.setCell (a:=⟨p,k,none⟩) (.inl rfl) _⟩
    have hv:rngF (ls a) fr to true k=true:=by unfold rngF;rw [if_pos ⟨by omega,by omega⟩];rfl
    have h:=HR2.out.set k (by omega) (.bool (rngF (ls a) fr to true k))
    rw [mixL_set,hv]at h
    unfold BL
    rw [mixL_length]
    exact h
   case measure=>simp [intOf];omega
  ·have hkk:k=to:=by omega
   subst hkk
   clear hrow hfr hfw hfx hrow'
   go_wp2_with (go_at_call 15;refine Hid.out ?_)
   refine Lib.hid ?_
   have hLe:mixL N (rngF (ls a) fr k true) (mOf (ls a)) k=rngL (ls a) fr k true:=by
    unfold rngL mixL
    rw [<- HLA.out,<- HN.out]
    apply List.map_congr_left
    intro i _
    by_cases e:i<k
    ·rw [if_pos e]
    ·rw [if_neg e];unfold rngF;rw [if_neg (by omega)]
   obtain ⟨v2,hv2e⟩:∃v,v=Value.slice o2 N c2:=⟨_,rfl⟩
   have hv2:BL wr v2 (rngL (ls a) fr k true):=by rw [hv2e,<- hLe];exact HR.out
   have ho2:∀r,v2.ownBlock=some r->w1.heap.size<=r:=by rw [hv2e];exact HO2.out
   have hf2:=HFX.out
   rw [<- hv2e]
   have hca:=trivial;have hcb:=trivial;have hcc:=trivial
   obtain ⟨w2,hw2⟩:∃w2,w2=wr:=⟨_,rfl⟩
   rw [<- hw2]at hf2 hv2 ⊢
   clear hw2 q0 q5
   have hll:(rngL (ls a) fr k true).length<=6000:=by unfold rngL;simp;have:=HLA.out;omega
   have HC:=doOutA ha HS HDW hv2 hf2 ho2 hll
   clear hv2 hf2 ho2 hll hca hcb hcc
   refine HC.out.mono ?_
   rintro e w3 ⟨dd,rfl,HE,e0,f0,e1,f1,e2,f2,e3,f3,e4,f4,e5,f5⟩
   go_wp2
   clear e0 e1 e2 e3 e4 e5 f0 f1 f2 f3 f4 f5
   obtain ⟨w4,hw4,e0,e1,e2,e3,e4,e5,HF⟩:=doSix false 0 HE
   rw [hw4];clear hw4
   simp [bodyPost,results,Tryz.f6,Tryz.results6,go_sem,e0,e1,e2,e3,e4,e5]
   exact HF.out
end Go.Proofs.YtobdfhlmipcjbaaGreatDoor
