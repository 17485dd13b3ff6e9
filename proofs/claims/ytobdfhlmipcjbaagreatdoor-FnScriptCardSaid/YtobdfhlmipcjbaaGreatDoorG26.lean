/- The next numbers, twenty at most: NextSetMany. Conditions: a buffer of twenty; the table of the first bit lies as laid. spec.Do: numbers spread. Conditions: places of four, numbers of at most 2,000. -/
import Derived.Test.YtobdfhlmipcjbaaGreatDoorG05
import Derived.Test.YtobdfhlmipcjbaaGreatDoorG21
set_option linter.unusedVariables false
set_option linter.unusedSimpArgs false
set_option maxHeartbeats 8000000
set_option maxRecDepth 100000
namespace Go.Proofs.YtobdfhlmipcjbaaGreatDoor
open Go.RowKit Pop
theorem frm_firstS{m:Nat->Bool}{i p k t:Nat}{x:BitVec 64}(hi:i=64*p+k)(ht:i<=t)(hx:x=pk (frm m t) p>>>k)(h:x≠0):
  ctz x<64/\i+ctz x<64*(p+1)/\t<=i+ctz x/\m (i+ctz x)=true/\(∀j,t<=j->j<i+ctz x->m j=false)/\x&&&(x-1)=pk (frm m (i+ctz x+1)) p>>>k:=by
 have hb:∀j,x.getLsbD j=(decide (k+j<64)&&frm m t (i+j)):=fun j=>by
  rw [hx,BitVec.getLsbD_ushiftRight,getLsbD_pk,hi,Nat.add_assoc]
 obtain ⟨a,b,c⟩:=(nxt_first (m:=frm m t) hi hx).1 h
 have hs:=(ctz_spec h).2.1
 rw [hb]at hs
 simp only [Bool.and_eq_true,decide_eq_true_eq]at hs
 have hb2:m (i+ctz x)=true/\t<=i+ctz x:=by simpa [frm] using b
 refine ⟨a,by omega,hb2.2,hb2.1,fun j h1 h2=>?_,?_⟩
 ·have:=c j (by omega) h2
  have d:decide (t<=j)=true:=by simpa using h1
  simpa [frm,d] using this
 ·apply BitVec.eq_of_getLsbD_eq
  intro j hj
  rw [pop_first _ h,hb,BitVec.getLsbD_ushiftRight,getLsbD_pk,<- Nat.add_assoc,<- hi]
  generalize hz:ctz x=z at*
  unfold frm
  rcases Nat.lt_trichotomy j z with h1|h1|h1
  ·have h2:=c (i+j) (by omega) (by omega)
   unfold frm at h2
   have d2:decide (i+z+1<=i+j)=false:=by simp;omega
   rw [h2,d2];simp
  ·have d2:decide (i+z+1<=i+j)=false:=by simp;omega
   have d3:decide (j=z)=true:=by simpa using h1
   rw [d2,d3];simp
  ·have d2:decide (i+z+1<=i+j)=true:=by simp;omega
   have d3:decide (j=z)=false:=by simp;omega
   have d4:decide (t<=i+j)=true:=by simp;omega
   rw [d2,d3,d4];simp
theorem frm_noneS{m:Nat->Bool}{i p k t:Nat}(hi:i=64*p+k)(hx:pk (frm m t) p>>>k=0):∀j,i<=j->t<=j->j<64*(p+1)->m j=false:=fun j h1 h2 h3=>by
 have:=(nxt_first (m:=frm m t) hi hx.symm).2 rfl j h1 h3
 have d:decide (t<=j)=true:=by simpa using h2
 simpa [frm,d] using this
def NR(w:World)(g:Nat)(m:Nat->Bool)(i t:Nat):Prop:=
 (numsN (frm m i) t).length<=20/\∃f:Nat->Value,w.rowIs g 28 20 f/\∀j,j<(numsN (frm m i) t).length->f j=numV ((numsN (frm m i) t).getD j 0)
theorem NR.keep{w w':World}{g i t:Nat}{m:Nat->Bool}{T:Nat->Prop}(h:NR w g m i t)(k:Fr T w w')(hT:¬T g):NR w' g m i t:=by
 obtain ⟨a,f,b,c⟩:=h
 exact ⟨a,f,rowIs_keep b k hT,c⟩
theorem NR.same{w:World}{g i t t':Nat}{m:Nat->Bool}(h:NR w g m i t)(htt:t<=t')(hz:∀j,t<=j->j<t'->m j=false):numsN (frm m i) t'=numsN (frm m i) t/\NR w g m i t':=by
 have e:numsN (frm m i) t'=numsN (frm m i) t:=by
  obtain ⟨d,rfl⟩:=Nat.exists_eq_add_of_le htt
  exact numsN_gap _ t d (fun j h1 h2=>by simp [frm,hz j h1 h2])
 exact ⟨e,by unfold NR;rw [e];exact h⟩
theorem NR.step{w:World}{g i t r:Nat}{m:Nat->Bool}(h:NR w g m i t)(htr:t<=r)(hir:i<=r)(hz:∀j,t<=j->j<r->m j=false)(hr:m r=true)(hs:(numsN (frm m i) t).length<20):
  numsN (frm m i) (r+1)=numsN (frm m i) t++ [r]/\NR (w.setCell ⟨g,(numsN (frm m i) t).length,none⟩ (numV r)) g m i (r+1):=by
 have e:numsN (frm m i) (r+1)=numsN (frm m i) t++ [r]:=numsN_step htr (fun j h1 h2=>by simp [frm,hz j h1 h2]) (by simp [frm,hr,hir])
 obtain ⟨a,f,b,c⟩:=h
 refine ⟨e,?_,_,b.set _ _,fun j hj=>?_⟩
 ·rw [e];simp;omega
 ·rw [e]at hj ⊢
  simp at hj
  by_cases hj2:j=(numsN (frm m i) t).length
  ·subst hj2;simp [List.getD]
  ·rw [if_neg hj2,c j (by omega)]
   simp only [List.getD]
   rw [List.getElem?_append_left (by omega)]
def lastN(xs:List Nat):Nat:=xs.getD (xs.length-1) 0
def NsmP(w:World)(g:Nat)(m:Nat->Bool)(i:Nat)(e:Ending)(w':World):Prop:=
 ∃t,i<=t/\e= .returned (.tuple #[numV (lastN (numsN (frm m i) t)),.slice (some ⟨g,0,none⟩) (numsN (frm m i) t).length 20])/\NR w' g m i t/\Fr (· =g) w w'/\
  (((numsN (frm m i) t).length=20/\∃r,t=r+1/\i<=r/\m r=true)\/∀j,t<=j->m j=false)
theorem NR.last{w:World}{g i t:Nat}{m:Nat->Bool}(h:NR w g m i t)(h0:0<(numsN (frm m i) t).length):w.cell? ⟨g,(numsN (frm m i) t).length-1,none⟩=some (numV (lastN (numsN (frm m i) t))):=by
 obtain ⟨a,f,b,c⟩:=h
 rw [b.cell (by omega),c _ (by omega)];rfl
theorem NR.there{w:World}{g i t:Nat}{m:Nat->Bool}(h:NR w g m i t)(j:Nat)(hj:j<20):∃x,w.cell? ⟨g,j,none⟩=some x/\w.frozen? ⟨g,j,none⟩=false:=by
 obtain ⟨a,f,b,c⟩:=h
 exact ⟨_,b.cell hj,b.frozen j⟩
theorem nextSetMany_c(b i g L:Nat)(v:Value)(m:Nat->Bool)(w:World)(hT:Tab64 w)(hg:g≠0)(hi:i<=50000)(h:BA w b v L m)(hgo:¬Own b v g)(hr:∃f,w.rowIs g 28 20 f):
  Calls Tryz.prog 92 #[.pointer (some ⟨b,0,none⟩),.int .u64 (i:Int),.slice (some ⟨g,0,none⟩) 20 20] w (NsmP w g m i):=by
 obtain ⟨h0,hl,hm,A,s,c,h1,hc,hA,hw⟩:=h.view2
 have hn:=nw_bound hl
 have hsg:0<nw L->s≠g:=fun hpos e=>hgo (by
  rcases h.cases with ⟨rfl,_⟩|⟨s2,c2,g2,rfl,r,_,_⟩
  ·simp [nw]at hpos
  ·have:=r.h1
   rw [h1,hA hpos]at this
   cases this
   exact .inr (by rw [<- e];rfl))
 have hbg:b≠g:=fun e=>hgo (.inl e.symm)
 have hout:∀j,64*nw L<=j->m j=false:=fun j hj=>hm j (by unfold nw at hj;omega)
 generalize nw L=n at*
 obtain ⟨p,hp⟩:∃p,i/64=p:=⟨_,rfl⟩
 obtain ⟨k,hk⟩:∃k,i%64=k:=⟨_,rfl⟩
 have hpi:(i:Int)/64=(p:Int):=by omega
 have hik:i=64*p+k:=by omega
 have hk64:k<64:=by omega
 have hp2:p<=1000:=by omega
 have hlow:∀t,t<=i->numsN (frm m i) t= []:=fun t ht=>by
  have:=numsN_gap (frm m i) 0 t (fun j _ h2=>by
   have d:decide (i<=j)=false:=by simp;omega
   simp [frm,d])
  rw [Nat.zero_add]at this
  rw [this];rfl
 have hNR0:NR w g m i i:=by
  obtain ⟨f,hf⟩:=hr
  unfold NR
  rw [hlow i (Nat.le_refl _)]
  exact ⟨by simp,f,hf,fun j hj=>absurd hj (by simp)⟩
 have e0:numsN (frm m i) i= []:=hlow i (Nat.le_refl _)
 have HW:=Lib.hid hw;have HIK:=Lib.hid hik;have HO:=Lib.hid hout;have HA:=Lib.hid hA;have HT:=Lib.hid hT;have HN0:=Lib.hid hNR0;have HE0:=Lib.hid e0;have HSG:=Lib.hid hsg;have HBG:=Lib.hid hbg
 clear hw hik hout hA hT hNR0 e0 hlow hr h hgo hm hl h0 hp hsg hbg
 by_cases hlt:p<n
 ·have hge:decide ((n:Int)<=(p:Int))=false:=by simp;omega
  obtain rfl:=HA.out (by omega)
  have h2:=HW.out p hlt
  have H1:=Lib.hid h1
  obtain ⟨x,hx⟩:∃x,x=pk m p>>>k:=⟨_,rfl⟩
  have hxi:wn (pk m p)/(2:Int)^k=wn x:=by rw [hx];exact wn_shr _ _
  have hx2:x=pk (frm m i) p>>>k:=by
   rw [hx]
   apply BitVec.eq_of_getLsbD_eq
   intro j hj
   rw [BitVec.getLsbD_ushiftRight,BitVec.getLsbD_ushiftRight,getLsbD_pk,getLsbD_pk]
   have d:decide (i<=64*p+(k+j))=true:=by simp;have:=HIK.out;omega
   simp [frm,d]
  have HX2:=Lib.hid hx2;clear hx hx2
  have hwi:∀n,Calls Tryz.prog 99 #[.int .u64 (i:Int)] (w.drewN n) fun e w'=>e= .returned (.int .u64 (k:Int))/\w'=w.drewN n:=fun n=>by have h:=wordsIndex_c i (w.drewN n) (by omega);rwa [hk]at h
  have HWI:=Lib.hid hwi;clear hwi hk
  go_enter Tryz.func92,Tryz.ntmps92
  go_wp2
  go_quiet ((go_at_call 99;exact Calls.quiet_of_same (HWI.out _)))
  go_wp2
  have hFq:Fr (· =g) w (w.drewN nq):=(Fr.refl _ _).drewN nq
  generalize hw1:w.drewN nq=w1 at*
  have hn1:NR w1 g m i i:=by rw [<- hw1];exact HN0.out.keep ((Fr.refl (fun _=>False) w).drewN nq) (fun h=>h)
  have HN1:=Lib.hid hn1;clear hn1
  have HFQ:=Lib.hid hFq;clear hFq hw1 h1 h2 hxi
  have cells:∀w',Fr (· =g) w w'->w'.cell? ⟨b,1,none⟩=some (.slice (some ⟨s,0,none⟩) n c)/\∀q,q<n->w'.cell? ⟨s,q,none⟩=some (WV (pk m q)):=by
   intro w' hf
   exact ⟨(hf.cell (a:=⟨b,1,none⟩) (block_lt_of_cell H1.out) HBG.out).trans H1.out,fun q hq=>(hf.cell (a:=⟨s,q,none⟩) (block_lt_of_cell (HW.out q hq)) (HSG.out (by omega))).trans (HW.out q hq)⟩
  have HCELLS:=Lib.hid cells;clear cells
  go_loopw [11,12] (fun x a wr=>∃t:Nat,i<=t/\t<=64*(p+1)/\x=WV (pk (frm m t) p>>>k)/\a= .int .i64 ((numsN (frm m i) t).length:Int)/\(numsN (frm m i) t).length<20/\NR wr g m i t/\Fr (· =g) w wr) (fun x _ _=>(intOf x).toNat)
  case atStart=>exact ⟨i,Nat.le_refl _,by have:=HIK.out;omega,by rw [<- HX2.out],by rw [HE0.out];rfl,by rw [HE0.out];decide,HN1.out,HFQ.out⟩
  case round=>
   obtain ⟨t,ht1,ht2,rfl,rfl,hs20,hnr,hfr⟩:=hrel
   obtain ⟨y,hy⟩:∃y,y=pk (frm m t) p>>>k:=⟨_,rfl⟩
   obtain ⟨z,hz⟩:∃z,z=(numsN (frm m i) t).length:=⟨_,rfl⟩
   rw [<- hy]
   rw [<- hz]at hs20 ⊢
   have HNR:=Lib.hid hnr;have HF:=Lib.hid hfr;have HY:=Lib.hid hy;have HZ:=Lib.hid hz
   by_cases hyz:y=0
   ·have hw0:wn y=0:=by rw [hyz];rfl
    have hnone:=frm_noneS HIK.out (HY.out.symm.trans hyz)
    have HYZ:=Lib.hid hyz;clear hyz
    obtain ⟨T1,hT1⟩:∃T1,T1=64*(p+1):=⟨_,rfl⟩
    obtain ⟨hsame,hnr2⟩:=hnr.same (t':=T1) (by omega) (fun j h1 h2=>hnone j (by omega) h1 (by omega))
    have HSM:=Lib.hid hsame;have HNR2:=Lib.hid hnr2;have HT1:=Lib.hid hT1;clear hT1
    have hb1:=(HCELLS.out wr hfr).1
    clear hnone hsame hnr2 hnr hfr hy hz
    rcases Nat.lt_or_ge (p+1) n with hq|hq
    ·have hne2:¬p+1=c:=by omega
     have s1:(0:Int)<=(p:Int)+1/\(p:Int)+1<=n:=by omega
     have s2:((p:Int)+1).toNat=p+1:=by omega
     go_wp2
     clear hb1 s1 hw0
     go_loopw [12,82] (fun a o wr=>∃q:Nat,q<=n-(p+1)/\o= .int .i64 (q:Int)/\a= .int .i64 ((numsN (frm m i) (64*(p+1+q))).length:Int)/\(numsN (frm m i) (64*(p+1+q))).length<20/\NR wr g m i (64*(p+1+q))/\Fr (· =g) w wr) (fun _ o _=>(n-(p+1))-(intOf o).toNat)
     case atStart=>exact ⟨0,by omega,rfl,by rw [Nat.add_zero,<- HT1.out,HSM.out,<- HZ.out],by rw [Nat.add_zero,<- HT1.out,HSM.out,<- HZ.out];exact hs20,by rw [Nat.add_zero,<- HT1.out];exact HNR2.out,HF.out⟩
     case round=>
      clear hs20 HSM HNR2 HZ HNR HF
      obtain ⟨q,hq2,rfl,rfl,hs20,hnr,hfr⟩:=hrel
      obtain ⟨z,hz⟩:∃z,z=(numsN (frm m i) (64*(p+1+q))).length:=⟨_,rfl⟩
      rw [<- hz]at hs20 ⊢
      have HNR:=Lib.hid hnr;have HF:=Lib.hid hfr;have HZ:=Lib.hid hz
      clear hnr hfr hz
      by_cases hlt2:q<n-(p+1)
      ·obtain ⟨Q,hQ⟩:∃Q,Q=p+1+q:=⟨_,rfl⟩
       have hQi:i<=64*Q:=by have:=HIK.out;omega
       have hx:wr.cell? ⟨s,p+1+q,none⟩=some (WV (pk m Q)):=by rw [<- hQ];exact (HCELLS.out wr HF.out).2 Q (by omega)
       have hQ0:pk m Q=pk (frm m (64*Q)) Q:=(frm_all m Q).symm
       have HQ:=Lib.hid hQ
       have HQ0:=Lib.hid hQ0;clear hQ0 hQ
       go_wp2
       clear hx
       go_loopw [12,14] (fun a x wr=>∃t:Nat,64*Q<=t/\t<=64*(Q+1)/\x=WV (pk (frm m t) Q)/\a= .int .i64 ((numsN (frm m i) t).length:Int)/\(numsN (frm m i) t).length<20/\NR wr g m i t/\Fr (· =g) w wr) (fun _ x _=>(intOf x).toNat)
       case atStart=>exact ⟨64*Q,Nat.le_refl _,by omega,by rw [<- HQ0.out],by rw [HZ.out,HQ.out],by rw [HQ.out,<- HZ.out];exact hs20,by rw [HQ.out];exact HNR.out,HF.out⟩
       case round=>
        clear hs20 HZ HNR HF
        obtain ⟨t,ht1,ht2,rfl,rfl,hs20,hnr,hfr⟩:=hrel
        obtain ⟨y,hy⟩:∃y,y=pk (frm m t) Q:=⟨_,rfl⟩
        obtain ⟨z,hz⟩:∃z,z=(numsN (frm m i) t).length:=⟨_,rfl⟩
        rw [<- hy]
        rw [<- hz]at hs20 ⊢
        have HNR:=Lib.hid hnr;have HF:=Lib.hid hfr;have HY:=Lib.hid hy;have HZ:=Lib.hid hz
        by_cases hyz:y=0
        ·subst hyz
         have hz0:wn (0:BitVec 64)=0:=rfl
         have hnone:=frm_none HY.out.symm
         obtain ⟨T2,hT2⟩:∃T2,T2=64*(Q+1):=⟨_,rfl⟩
         obtain ⟨hsame,hnr2⟩:=hnr.same (t':=T2) (by omega) (fun j h1 h2=>hnone j (by omega) h1 (by omega))
         have HSM:=Lib.hid hsame;have HNR2:=Lib.hid hnr2;have HT2:=Lib.hid hT2;clear hT2
         clear hnone hsame hnr2 hnr hfr hy hz
         go_wp2
         go_roundw
         case rel=>
          have hQ:=HQ.out
          exact ⟨q+1,by omega,by go_num,by rw [show p+1+(q+1)=Q+1 by omega,<- HT2.out,HSM.out,<- HZ.out],by rw [show p+1+(q+1)=Q+1 by omega,<- HT2.out,HSM.out,<- HZ.out];exact hs20,by rw [show p+1+(q+1)=Q+1 by omega,<- HT2.out];exact HNR2.out,HF.out⟩
         case measure=>simp [intOf];omega
        ·have hne:¬wn y=0:=by rw [wn_eq_zero];exact hyz
         obtain ⟨f1,f3,f4,f5,f6⟩:=frm_first (m:=m) ht1 (by rw [<- HY.out];exact hyz)
         rw [<- HY.out]at f1 f3 f4 f5 f6
         obtain ⟨hst,hnr2⟩:=hnr.step f3 (by omega) f5 f4 (by rw [<- HZ.out];exact hs20)
         rw [<- HZ.out]at hnr2
         obtain ⟨xo,hxo,hfo⟩:=hnr.there z hs20
         have hT':Tab64 wr:=HT.out.keep hfr hg.symm
         have hmeas:=pop_lt y hyz
         have hlen:(numsN (frm m i) (64*Q+ctz y+1)).length=z+1:=by rw [hst,List.length_append,<- HZ.out];rfl
         have hF2:Fr (· =g) w (wr.setCell ⟨g,z,none⟩ (numV (64*Q+ctz y))):=hfr.setCell (.inl rfl) _
         have hQi2:((p:Int)+1+(q:Int))*64+(ctz y:Int)=((64*Q+ctz y:Nat):Int):=by have:=HQ.out;omega
         have hQb:p+1+q<=1000:=by omega
         have HQI2:=Lib.hid hQi2
         have HST:=Lib.hid hst;have HNR2:=Lib.hid hnr2;have HF2:=Lib.hid hF2;have F6:=Lib.hid f6;have HME:=Lib.hid hmeas;have HLEN:=Lib.hid hlen;have F4:=Lib.hid f4
         clear hst hnr2 hF2 f4 f5 f6 hmeas hlen hnr hfr hy hz hyz hQi2
         by_cases hfull:z=19
         ·subst hfull
          have hlast:=HNR2.out.last (by rw [HLEN.out];decide)
          rw [HLEN.out]at hlast
          obtain ⟨la,hla⟩:∃la,la=lastN (numsN (frm m i) (64*Q+ctz y+1)):=⟨_,rfl⟩
          rw [<- hla]at hlast
          have HLA:=Lib.hid hla;clear hla
          have hvv:numV (64*Q+ctz y)= .int .u64 (((p:Int)+1+(q:Int))*64+(ctz y:Int)):=by unfold numV;rw [HQI2.out]
          rw [hvv]at hlast
          have HVV:=Lib.hid hvv;clear hvv
          go_wp2_with (go_at_call 40;refine (ctz_c y _ hT').mono ?_;rintro e w' ⟨rfl,rfl⟩)
          go_quiet (fail)
          go_wp2
          go_ret2
          refine ⟨64*Q+ctz y+1,by omega,?_,?_,?_,.inl ⟨HLEN.out,_,rfl,by omega,F4.out⟩⟩
          ·rw [HLEN.out,<- HLA.out];rfl
          ·have h:=HNR2.out
           rw [HVV.out]at h
           exact h.keep ((Fr.refl (fun _=>False) _).drewN _) (fun h=>h)
          ·have h:=HF2.out
           rw [HVV.out]at h
           exact h.drewN _
         ·have hnf:¬(z:Int)+1=20:=by omega
          have hvv:numV (64*Q+ctz y)= .int .u64 (((p:Int)+1+(q:Int))*64+(ctz y:Int)):=by unfold numV;rw [HQI2.out]
          have HVV:=Lib.hid hvv;clear hvv
          go_wp2_with (go_at_call 40;refine (ctz_c y _ hT').mono ?_;rintro e w' ⟨rfl,rfl⟩)
          go_roundw
          case rel=>
           refine ⟨64*Q+ctz y+1,by omega,by omega,?_,?_,?_,?_,?_⟩
           ·rw [<- F6.out,wn_pred,wn_and]
           ·rw [HLEN.out];go_num
           ·rw [HLEN.out];omega
           ·have h:=HNR2.out
            rw [HVV.out]at h;exact h
           ·have h:=HF2.out
            rw [HVV.out]at h;exact h
          case measure=>
           rw [wn_pred,wn_and]
           show (wn (y&&&(y-1))).toNat<(wn y).toNat
           have:=HME.out;have:=wn_nonneg (y&&&(y-1));omega
      ·have hqq:q=n-(p+1):=by omega
       have hT64:64*(p+1+q)=64*n:=by omega
       rw [hT64]at HNR HZ
       have HNRT:=HNR
       have hin:i<=64*n:=by have:=HIK.out;omega
       clear hT64
       subst hqq
       have hbnd:z<=20:=by rw [HZ.out];exact HNRT.out.1
       rcases Nat.eq_zero_or_pos z with hz0|hz0
       ·subst hz0
        go_wp2
        go_quiet (fail)
        go_wp2
        go_ret2
        refine ⟨64*n,hin,?_,HNRT.out.keep ((Fr.refl (fun _=>False) _).drewN _) (fun h=>h),HF.out.drewN _,.inr HO.out⟩
        rw [<- HZ.out,List.eq_nil_of_length_eq_zero HZ.out.symm];rfl
       ·have hlast:=HNRT.out.last (by rw [<- HZ.out];exact hz0)
        rw [<- HZ.out]at hlast
        obtain ⟨la,hla⟩:∃la,la=lastN (numsN (frm m i) (64*n)):=⟨_,rfl⟩
        rw [<- hla]at hlast
        have HLA:=Lib.hid hla;clear hla
        have d1:decide ((0:Int)<(z:Int))=true:=by simp;omega
        have i1:(0:Int)<=(z:Int)-1/\(z:Int)-1<20:=by omega
        have i2:((z:Int)-1).toNat=z-1:=by omega
        have i3:(0:Int)<=(z:Int)/\(z:Int)<=20:=by omega
        go_wp2
        go_quiet (fail)
        go_wp2
        go_ret2
        refine ⟨64*n,hin,?_,HNRT.out.keep ((Fr.refl (fun _=>False) _).drewN _) (fun h=>h),HF.out.drewN _,.inr HO.out⟩
        rw [<- HZ.out,<- HLA.out];rfl
    ·have hq1:n=p+1:=by omega
     subst hq1
     have s1:(0:Int)<=(p:Int)+1/\(p:Int)+1<=(p+1:Nat):=by omega
     have s2:((p:Int)+1).toNat=p+1:=by omega
     have hz2:=HZ.out
     rw [<- HSM.out]at hz2
     have HNRT:=HNR2
     have hin:i<=T1:=by have:=HIK.out;have:=HT1.out;omega
     clear HZ
     have HZ:=Lib.hid hz2;clear hz2
     rcases Classical.em (p+1=c) with hcc|hcc
     all_goals
      have hbnd:z<=20:=by rw [HZ.out];exact HNRT.out.1
      rcases Nat.eq_zero_or_pos z with hz0|hz0
      ·subst hz0
       go_wp2
       refine wp_loop_once ?_
       go_wp2
       go_quiet (fail)
       go_wp2
       go_ret2
       refine ⟨T1,hin,?_,HNRT.out.keep ((Fr.refl (fun _=>False) _).drewN _) (fun h=>h),HF.out.drewN _,.inr (fun j hj=>HO.out j (by have:=HT1.out;omega))⟩
       rw [<- HZ.out,List.eq_nil_of_length_eq_zero HZ.out.symm];rfl
      ·have hlast:=HNRT.out.last (by rw [<- HZ.out];exact hz0)
       rw [<- HZ.out]at hlast
       obtain ⟨la,hla⟩:∃la,la=lastN (numsN (frm m i) (T1)):=⟨_,rfl⟩
       rw [<- hla]at hlast
       have HLA:=Lib.hid hla;clear hla
       have d1:decide ((0:Int)<(z:Int))=true:=by simp;omega
       have i1:(0:Int)<=(z:Int)-1/\(z:Int)-1<20:=by omega
       have i2:((z:Int)-1).toNat=z-1:=by omega
       have i3:(0:Int)<=(z:Int)/\(z:Int)<=20:=by omega
       go_wp2
       refine wp_loop_once ?_
       go_wp2
       go_quiet (fail)
       go_wp2
       go_ret2
       refine ⟨T1,hin,?_,HNRT.out.keep ((Fr.refl (fun _=>False) _).drewN _) (fun h=>h),HF.out.drewN _,.inr (fun j hj=>HO.out j (by have:=HT1.out;omega))⟩
       rw [<- HZ.out,<- HLA.out];rfl
   ·have hne:¬wn y=0:=by rw [wn_eq_zero];exact hyz
    obtain ⟨f1,f2,f3,f4,f5,f6⟩:=frm_firstS HIK.out ht1 HY.out hyz
    obtain ⟨hst,hnr2⟩:=hnr.step f3 (by omega) f5 f4 (by rw [<- HZ.out];exact hs20)
    rw [<- HZ.out]at hnr2
    obtain ⟨xo,hxo,hfo⟩:=hnr.there z hs20
    have hT':Tab64 wr:=HT.out.keep hfr hg.symm
    have hmeas:=pop_lt y hyz
    have hlen:(numsN (frm m i) (i+ctz y+1)).length=z+1:=by rw [hst,List.length_append,<- HZ.out];rfl
    have hF2:Fr (· =g) w (wr.setCell ⟨g,z,none⟩ (numV (i+ctz y))):=hfr.setCell (.inl rfl) _
    have HST:=Lib.hid hst;have HNR2:=Lib.hid hnr2;have HF2:=Lib.hid hF2;have F6:=Lib.hid f6;have HME:=Lib.hid hmeas;have HLEN:=Lib.hid hlen;have F4:=Lib.hid f4
    clear hst hnr2 hF2 f4 f5 f6 hmeas hlen hnr hfr hy hz hyz
    by_cases hfull:z=19
    ·subst hfull
     have hlast:=HNR2.out.last (by rw [HLEN.out];decide)
     rw [HLEN.out]at hlast
     obtain ⟨la,hla⟩:∃la,la=lastN (numsN (frm m i) (i+ctz y+1)):=⟨_,rfl⟩
     rw [<- hla]at hlast
     have HLA:=Lib.hid hla;clear hla
     have hvv:numV (i+ctz y)= .int .u64 ((i:Int)+(ctz y:Int)):=by unfold numV;first|rfl|(congr 1;omega)
     rw [hvv]at hlast
     have HVV:=Lib.hid hvv;clear hvv
     go_wp2_with (go_at_call 40;refine (ctz_c y _ hT').mono ?_;rintro e w' ⟨rfl,rfl⟩)
     go_quiet (fail)
     go_wp2
     go_ret2
     refine ⟨i+ctz y+1,by omega,?_,?_,?_,.inl ⟨HLEN.out,_,rfl,by omega,F4.out⟩⟩
     ·rw [HLEN.out,<- HLA.out];rfl
     ·have h:=HNR2.out
      rw [HVV.out]at h
      exact h.keep ((Fr.refl (fun _=>False) _).drewN _) (fun h=>h)
     ·have h:=HF2.out
      rw [HVV.out]at h
      exact h.drewN _
    ·have hnf:¬(z:Int)+1=20:=by omega
     go_wp2_with (go_at_call 40;refine (ctz_c y _ hT').mono ?_;rintro e w' ⟨rfl,rfl⟩)
     go_roundw
     case rel=>
      refine ⟨i+ctz y+1,by omega,by omega,?_,?_,?_,?_,?_⟩
      ·rw [<- F6.out]
       rw [wn_pred,wn_and]
      ·rw [HLEN.out];go_num
      ·rw [HLEN.out];omega
      ·exact HNR2.out
      ·exact HF2.out
     case measure=>
      rw [wn_pred,wn_and]
      show (wn (y&&&(y-1))).toNat<(wn y).toNat
      have:=HME.out;have:=wn_nonneg (y&&&(y-1));omega
 ·have hge:decide ((n:Int)<=(p:Int))=true:=by simp;omega
  clear hpi hk
  have hpi:(i:Int)/64=(p:Int):=by have:=HIK.out;omega
  go_enter Tryz.func92,Tryz.ntmps92
  go_wp2
  go_quiet (fail)
  go_wp2
  go_ret2
  refine ⟨i,Nat.le_refl _,?_,HN0.out.keep ((Fr.refl (fun _=>False) _).drewN _) (fun h=>h),(Fr.refl _ _).drewN _,.inr (fun j hj=>HO.out j (by have:=HIK.out;omega))⟩
  rw [HE0.out];rfl
end Go.Proofs.YtobdfhlmipcjbaaGreatDoor
namespace Go.Proofs.YtobdfhlmipcjbaaGreatDoor
open Go.RowKit
theorem do_27(a b c fr to n B:Nat)(wd:BitVec 64)(many:Value)(vs:Nat->Value)(ls:Nat->List Bool)(w:World)(ha:a<4)(hb:b<4)(hc:c<4)(hn:n<=2000)(hs:Sets w B vs ls):
  Calls Tryz.prog 6 #[stepV 27 a b c fr to n wd many,.pointer (some ⟨B,0,none⟩)] w (AnsP false 0 w B vs ls c ((List.range (ls b).length).map (fun i=>mOf (ls b) i&&mOf (ls a) (cntN (mOf (ls b)) i)))):=by
 obtain ⟨la,lb,lc,oa,ca,ob,cb,oc,cc,hlab,hlbb,hlcb,hca,hcb,hcc,hcapa,hB,nB,nB1,nB2,hB1,hB2,HS,HLA,HLB,HLC,EA,EB,EC⟩:=doIn hs ha hb hc
 unfold stepV
 clear hs
 have hmk:=make25 ((lb:Nat):Int) ((lb:Nat):Int) (by omega) (by omega) (by omega)
 rw [Int.toNat_natCast]at hmk
 go_enter Tryz.func6,Tryz.ntmps6
 go_wp2
 go_quiet (fail)
 go_wp2
 obtain ⟨w1,hw1,HDW,HBA,HBB,HBC⟩:=doMid 27 fr to n nq wd many false 0 ha hb hc HS EA EB EC
 rw [hw1];clear hw1
 have hsw1:=HDW.out.size
 have hrow0:BL (w1.alloc (.cells (madeCells #[.bool false] lb) 4)) (.slice (some ⟨w.heap.size+8,0,none⟩) lb lb) (mixL lb (fun i=>mOf (ls b) i&&mOf (ls a) (cntN (mOf (ls b)) i)) (fun _=>false) 0):=by
  have h:=rowLst (World.rowIs_made w1 (.bool false) lb 4) (Nat.le_refl _) (by omega)
  rw [hsw1]at h
  unfold BL
  rw [mixL_length,mixL_zero,List.map_map]
  exact h
 have hf0:Fr (fun _=>False) w1 (w1.alloc (.cells (madeCells #[.bool false] lb) 4)):=(Fr.refl _ w1).alloc _
 obtain ⟨v2,hv2e⟩:∃v2,v2=Value.slice (some ⟨w.heap.size+8,0,none⟩) lb lb:=⟨_,rfl⟩
 obtain ⟨p,hp⟩:∃p,p=w.heap.size+8:=⟨_,rfl⟩
 rw [show w.heap.size+1+1+1+1+1+1+1+1=p from hp.symm]
 rw [<- hp]at hrow0 hv2e
 have hpw:w1.heap.size=p:=hsw1.trans hp.symm
 generalize w1.alloc (.cells (madeCells #[.bool false] lb) 4)=w0 at*
 have HV0:=Lib.hid hrow0;have HF0:=Lib.hid hf0;have SW1:=Lib.hid hsw1;have HPW:=Lib.hid hpw;have HP:=Lib.hid hp;have HVE:=Lib.hid hv2e
 clear hrow0 hf0 hca hcb hcc hsw1 hmk hpw hp hv2e
 go_loopw [31,528] (fun x i wr=>∃k:Nat,k<=lb/\i= .int .i64 (k:Int)/\x= .int .i64 ((cntN (mOf (ls b)) k:Nat):Int)/\BL wr (.slice (some ⟨p,0,none⟩) lb lb) (mixL lb (fun i=>mOf (ls b) i&&mOf (ls a) (cntN (mOf (ls b)) i)) (fun _=>false) k)/\Fr (· =p) w0 wr) (fun x i _=>lb-(intOf i).toNat)
 case atStart=>exact ⟨0,by omega,rfl,rfl,HV0.out,Fr.refl _ _⟩
 case round=>
  obtain ⟨k,hk,rfl,rfl,hrow,hfr⟩:=hrel
  have hfx:Fr (fun _=>False) w1 wr:=HF0.out.trans' hfr (fun r hr=> .inr (by rw [hr,HPW.out];exact Nat.le_refl _))
  have hfw:Fr (fun _=>False) w wr:=HDW.out.fr_.trans hfx
  have HR:=Lib.hid hrow;have HF:=Lib.hid hfr;have HFW:=Lib.hid hfw;have HFX:=Lib.hid hfx
  have hrow':Lst wr 4 1 (.slice (some ⟨p,0,none⟩) lb lb) lb ((mixL lb (fun i=>mOf (ls b) i&&mOf (ls a) (cntN (mOf (ls b)) i)) (fun _=>false) k).map Value.bool):=by
   have h:=hrow
   unfold BL at h
   rw [mixL_length]at h
   exact h
  have HR2:=Lib.hid hrow'
  by_cases hlt:k<lb
  ·have hc:=hrow'.at (i:=k) (by omega)
   obtain ⟨s_,c_,e_,y_,_,hcell⟩:=hc
   cases e_
   have hfz:=hrow'.free k
   obtain ⟨sb,cb',eb',hcb⟩:=(HBB.out wr hfw).am (i:=k) (by rw [<- HLB.out];exact hlt)
   rw [<- HLB.out]at eb'
   cases eb'
   obtain ⟨q,hq⟩:∃q,q=cntN (mOf (ls b)) k:=⟨_,rfl⟩
   have hqb:q<=6000:=by rw [hq];have:=cntN_le (mOf (ls b)) k;omega
   rw [<- hq]
   have HA:=Lib.hid (has_m _ (ls a) q _ rfl wr (HBA.out wr hfw))
   have HQ:=Lib.hid hq
   clear hrow hfr hfw hfx hrow' hq
   cases hb:mOf (ls b) k
   ·simp only [hb]at hcb
    have HB:=Lib.hid hb;clear hb
    go_wp2
    go_roundw
    case rel=>
     refine ⟨k+1,by omega,by go_num,by simp [cntN,HB.out,HQ.out],?_,HF.out⟩
     rw [<- mixL_skip]
     ·exact HR.out
     ·show (mOf (ls b) k&&_)=false
      rw [HB.out];rfl
    case measure=>simp [intOf];omega
   ·simp only [hb]at hcb
    have HB:=Lib.hid hb;clear hb
    go_wp2_with (go_at_call 18;refine (HA.out).mono ?_;rintro e w3 ⟨rfl,rfl⟩)
    go_roundw
    case rel=>
     refine ⟨k+1,by omega,by go_num,by simp [cntN,HB.out,HQ.out],?_,HF.out.setCell (a:=⟨p,k,none⟩) (.inl rfl) _⟩
     have hv:mOf (ls a) q=(mOf (ls b) k&&mOf (ls a) (cntN (mOf (ls b)) k)):=by rw [HB.out,HQ.out];rfl
     have h:=HR2.out.set k (by omega) (.bool (mOf (ls a) q))
     rw [hv,mixL_set lb (fun i=>mOf (ls b) i&&mOf (ls a) (cntN (mOf (ls b)) i))]at h
     unfold BL
     rw [mixL_length,hv]
     exact h
    case measure=>simp [intOf];omega
  ·have hkk:k=lb:=by omega
   subst hkk
   clear hrow hfr hfw hfx hrow'
   go_wp2_with (go_at_call 16;refine Hid.out ?_)
   refine Lib.hid ?_
   have hLe:mixL k (fun i=>mOf (ls b) i&&mOf (ls a) (cntN (mOf (ls b)) i)) (fun _=>false) k=(List.range (ls b).length).map (fun i=>mOf (ls b) i&&mOf (ls a) (cntN (mOf (ls b)) i)):=by rw [mixL_full,<- HLB.out]
   have hv2:BL wr v2 ((List.range (ls b).length).map (fun i=>mOf (ls b) i&&mOf (ls a) (cntN (mOf (ls b)) i))):=by rw [HVE.out,<- hLe];exact HR.out
   have ho2:∀r,v2.ownBlock=some r->w1.heap.size<=r:=by rw [HVE.out,HPW.out];intro r hr;cases hr;exact Nat.le_refl _
   have hf2:=HFX.out
   rw [<- HVE.out]
   have hca:=trivial;have hcb:=trivial;have hcc:=trivial
   obtain ⟨w2,hw2⟩:∃w2,w2=wr:=⟨_,rfl⟩
   rw [<- hw2]at hf2 hv2 ⊢
   clear hw2
   have hll:((List.range (ls b).length).map (fun i=>mOf (ls b) i&&mOf (ls a) (cntN (mOf (ls b)) i))).length<=6000:=by rw [<- hLe,mixL_length];omega
   have HC:=doOutC hc HS HDW hv2 hf2 ho2 hll
   clear hv2 hf2 ho2 hll hca hcb hcc
   refine HC.out.mono ?_
   rintro e w3 ⟨dd,rfl,HE,e0,f0,e1,f1,e2,f2,e3,f3,e4,f4,e5,f5⟩
   go_wp2
   clear e0 e1 e2 e3 e4 e5 f0 f1 f2 f3 f4 f5
   obtain ⟨w4,hw4,e0,e1,e2,e3,e4,e5,HF⟩:=doSix false 0 HE
   rw [hw4];clear hw4
   simp [bodyPost,results,Tryz.f6,Tryz.results6,go_sem,e0,e1,e2,e3,e4,e5]
   exact HF.out
end Go.Proofs.YtobdfhlmipcjbaaGreatDoor
