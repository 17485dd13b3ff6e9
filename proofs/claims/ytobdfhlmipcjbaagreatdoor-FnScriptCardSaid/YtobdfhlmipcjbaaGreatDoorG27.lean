/- spec.Do: a set of words. Conditions: places of four, numbers of at most 2,000, twenty words. spec.Do: numbers drawn together. Conditions: places of four, numbers of at most 2,000. -/
import Derived.Test.YtobdfhlmipcjbaaGreatDoorG05
import Derived.Test.YtobdfhlmipcjbaaGreatDoorG21
set_option linter.unusedVariables false
set_option linter.unusedSimpArgs false
set_option maxHeartbeats 2000000
set_option maxRecDepth 100000
namespace Go.Proofs.YtobdfhlmipcjbaaGreatDoor
open Go.RowKit
def bitsOf(ws:List (BitVec 64))(i:Nat):Bool:=(ws.getD (i/64) 0).getLsbD (i%64)
theorem shr_test(x:BitVec 64)(j:Nat)(hj:j<64):(bits .and .u64 (wn x/(2:Int)^j) 1==1)=x.getLsbD j:=by
 rw [wn_shr,show (1:Int)=wn 1 from rfl,wn_and]
 have h:(x>>>j)&&&1=if x.getLsbD j then (1:BitVec 64) else 0:=by
  apply BitVec.eq_of_getLsbD_eq
  intro i hi
  rw [BitVec.getLsbD_and,BitVec.getLsbD_ushiftRight]
  rcases Nat.eq_zero_or_pos i with rfl|h0
  ·cases x.getLsbD j <;> simp
  ·have:(1:BitVec 64).getLsbD i=false:=by simp [BitVec.getLsbD_one];omega
   rw [this]
   cases x.getLsbD j <;> simp [BitVec.getLsbD_one];omega
 rw [h]
 cases x.getLsbD j
 ·rfl
 ·rfl
theorem do_28(a b c fr to n B:Nat)(wd:BitVec 64)(oM:Option Addr)(M cM:Nat)(vs:Nat->Value)(ls:Nat->List Bool)(w:World)(ha:a<4)(hb:b<4)(hc:c<4)(hn:n<=2000)(ws:List (BitVec 64))(hM:M<=20)(hsrc:Src w 1 (.slice oM M cM) M (ws.map WV))(hs:Sets w B vs ls):
  Calls Tryz.prog 6 #[stepV 28 a b c fr to n wd (.slice oM M cM),.pointer (some ⟨B,0,none⟩)] w (AnsP false 0 w B vs ls c ((List.range (64*M)).map (bitsOf ws))):=by
 obtain ⟨la,lb,lc,oa,ca,ob,cb,oc,cc,hlab,hlbb,hlcb,hca,hcb,hcc,hcapa,hB,nB,nB1,nB2,hB1,hB2,HS,HLA,HLB,HLC,EA,EB,EC⟩:=doIn hs ha hb hc
 unfold stepV
 clear hs
 have HSRC:=Lib.hid hsrc;clear hsrc
 have hmk:=make25 (((64*M):Nat):Int) (((64*M):Nat):Int) (by omega) (by omega) (by omega)
 rw [Int.toNat_natCast]at hmk
 have hmk2:∀w:World,(Instr.makeSlice 25 (.int .i64 (64*(M:Int))) (.int .i64 (64*(M:Int)))).run Tryz.prog w= .ok (.slice (some ⟨w.heap.size,0,none⟩) (64*M) (64*M)) (w.alloc (.cells (madeCells #[.bool false] (64*M)) 4)):=by rw [show 64*(M:Int)=((64*M:Nat):Int) by omega];exact hmk
 go_enter Tryz.func6,Tryz.ntmps6
 go_wp2
 go_quiet (fail)
 go_wp2
 have DW:=doW w B 28 a b c fr to n nq wd (.slice oM M cM) false 0
 generalize ((((((((w.alloc (.cells #[.int .i64 28,.int .i64 (a:Int),.int .i64 (b:Int),.int .i64 (c:Int),.int .i64 (fr:Int),.int .i64 (to:Int),.int .i64 (n:Int),WV wd,.slice oM M cM] 35)).alloc (.cells #[.pointer (some ⟨B,0,none⟩)] 43)).alloc (.cells #[.bool false,.int .i64 0,.int .u64 0,.string { data:= #[] },.slice none 0 0,.slice none 0 0] 40)).drewN nq).alloc (.cells #[.bool false,.int .i64 0,.int .u64 0,.string { data:= #[] },.slice none 0 0,.slice none 0 0] 40)).alloc (.cells #[.bool false,.bool false,.bool false,.bool true] 61)).alloc (.cells #[.bool false,.bool true,.bool true,.bool true] 61)).alloc (.cells #[.bool false,.bool false,.bool true,.bool false] 61)).alloc (.cells #[.bool false,.bool true,.bool true,.bool false] 61)=w1 at*
 have HDW:=Lib.hid DW;clear DW
 have BA_:∀w',Fr (fun _=>False) w w'->BL w' (.slice oa la ca) (ls a):=fun w' h=>by rw [<- EA.out];exact (HS.out.at_ a ha).keep h (fun _ _ h=>h)
 have BB_:∀w',Fr (fun _=>False) w w'->BL w' (.slice ob lb cb) (ls b):=fun w' h=>by rw [<- EB.out];exact (HS.out.at_ b hb).keep h (fun _ _ h=>h)
 have BC_:∀w',Fr (fun _=>False) w w'->BL w' (.slice oc lc cc) (ls c):=fun w' h=>by rw [<- EC.out];exact (HS.out.at_ c hc).keep h (fun _ _ h=>h)
 have HBA:=Lib.hid BA_;have HBB:=Lib.hid BB_;have HBC:=Lib.hid BC_;clear BA_ BB_ BC_
 have hsw1:=HDW.out.size
 have hrow0:BL (w1.alloc (.cells (madeCells #[.bool false] (64*M)) 4)) (.slice (some ⟨w.heap.size+8,0,none⟩) (64*M) (64*M)) (mixL (64*M) (bitsOf ws) (fun _=>false) 0):=by
  have h:=rowLst (World.rowIs_made w1 (.bool false) (64*M) 4) (Nat.le_refl _) (by omega)
  rw [hsw1]at h
  unfold BL
  rw [mixL_length,mixL_zero,List.map_map]
  exact h
 have hf0:Fr (fun _=>False) w1 (w1.alloc (.cells (madeCells #[.bool false] (64*M)) 4)):=(Fr.refl _ w1).alloc _
 obtain ⟨v2,hv2e⟩:∃v2,v2=Value.slice (some ⟨w.heap.size+8,0,none⟩) (64*M) (64*M):=⟨_,rfl⟩
 obtain ⟨p,hp⟩:∃p,p=w.heap.size+8:=⟨_,rfl⟩
 rw [show w.heap.size+1+1+1+1+1+1+1+1=p from hp.symm]
 rw [<- hp]at hrow0 hv2e
 have hpw:w1.heap.size=p:=hsw1.trans hp.symm
 generalize w1.alloc (.cells (madeCells #[.bool false] (64*M)) 4)=w0 at*
 have HV0:=Lib.hid hrow0;have HF0:=Lib.hid hf0;have SW1:=Lib.hid hsw1;have HPW:=Lib.hid hpw;have HP:=Lib.hid hp;have HVE:=Lib.hid hv2e
 clear hrow0 hf0 hca hcb hcc hsw1 hmk hmk2 hpw hp hv2e
 go_loopw [558] (fun i wr=>∃k:Nat,k<=64*M/\i= .int .i64 (k:Int)/\BL wr (.slice (some ⟨p,0,none⟩) (64*M) (64*M)) (mixL (64*M) (bitsOf ws) (fun _=>false) k)/\Fr (· =p) w0 wr) (fun i _=>64*M-(intOf i).toNat)
 case atStart=>exact ⟨0,by omega,rfl,HV0.out,Fr.refl _ _⟩
 case round=>
  obtain ⟨k,hk,rfl,hrow,hfr⟩:=hrel
  have hfx:Fr (fun _=>False) w1 wr:=HF0.out.trans' hfr (fun r hr=> .inr (by rw [hr,HPW.out];exact Nat.le_refl _))
  have hfw:Fr (fun _=>False) w wr:=HDW.out.fr_.trans hfx
  have HR:=Lib.hid hrow;have HF:=Lib.hid hfr;have HFW:=Lib.hid hfw;have HFX:=Lib.hid hfx
  have hrow':Lst wr 4 1 (.slice (some ⟨p,0,none⟩) (64*M) (64*M)) (64*M) ((mixL (64*M) (bitsOf ws) (fun _=>false) k).map Value.bool):=by
   have h:=hrow
   unfold BL at h
   rw [mixL_length]at h
   exact h
  have HR2:=Lib.hid hrow'
  by_cases hlt:k<64*M
  ·have hc:=hrow'.at (i:=k) (by omega)
   obtain ⟨s_,c_,e_,y_,_,hcell⟩:=hc
   cases e_
   have hfz:=hrow'.free k
   have hkM:k/64<M:=by omega
   obtain ⟨A_,c__,e_,hl_,hh_⟩:=HSRC.out
   cases e_
   obtain ⟨ad,ead,hread⟩:=hh_ (by omega)
   subst ead
   obtain ⟨x,hx⟩:∃x,ws[k/64]? =some x:=⟨_,List.getElem?_eq_getElem (by simp at hl_;omega)⟩
   have hy:(ws.map WV)[k/64]? =some (WV x):=by simp [hx]
   have hcw:=hread _ _ hy
   have hcm:=(hfw.cell (a:=ad.add (k/64)) (block_lt_of_cell hcw) (fun h=>h)).trans hcw
   have hgx:bitsOf ws k=x.getLsbD (k%64):=by simp [bitsOf,List.getD,hx]
   have q8:=hp_cell ((hfx.keep _ (hp_lt HDW.out.p0) (fun h=>h)).trans HDW.out.p0) 8 (v:= .slice (some ad) M cM) rfl
   have i1:(k:Int).tdiv 64=(k:Int)/64:=Int.tdiv_eq_ediv_of_nonneg (by omega)
   have i2:(k:Int).tmod 64=(k:Int)%64:=Int.tmod_eq_emod_of_nonneg (by omega)
   have i3:(0:Int)<=(k:Int)/64/\(k:Int)/64<M:=by omega
   have i4:((k:Int)/64).toNat=k/64:=by omega
   have i5:(0:Int)<=(k:Int)%64/\(k:Int)%64<64:=by omega
   have i6:((k:Int)%64).toNat=k%64:=by omega
   have HGX:=Lib.hid hgx;have HSR:=Lib.hid hh_
   clear hrow hfr hfw hfx hrow' hx hy hcw hl_ hh_ hread hgx
   go_wp2
   go_roundw
   case rel=>
    refine ⟨k+1,by omega,by go_num,?_,HF.out.setCell (a:=⟨p,k,none⟩) (.inl rfl) _⟩
    rw [shr_test x (k%64) (by omega),<- HGX.out]
    have h:=HR2.out.set k (by omega) (.bool (bitsOf ws k))
    rw [mixL_set]at h
    unfold BL
    rw [mixL_length]
    exact h
   case measure=>simp [intOf];omega
  ·have hkk:k=64*M:=by omega
   subst hkk
   clear hrow hfr hfw hfx hrow'
   go_wp2_with (go_at_call 16;refine Hid.out ?_)
   refine Lib.hid ?_
   have hLe:mixL (64*M) (bitsOf ws) (fun _=>false) (64*M)=(List.range (64*M)).map (bitsOf ws):=by rw [mixL_full]
   have hv2:BL wr v2 ((List.range (64*M)).map (bitsOf ws)):=by rw [HVE.out,<- hLe];exact HR.out
   have ho2:∀r,v2.ownBlock=some r->w1.heap.size<=r:=by rw [HVE.out,HPW.out];intro r hr;cases hr;exact Nat.le_refl _
   have hf2:=HFX.out
   rw [<- HVE.out]
   have hca:=trivial;have hcb:=trivial;have hcc:=trivial
   obtain ⟨w2,hw2⟩:∃w2,w2=wr:=⟨_,rfl⟩
   rw [<- hw2]at hf2 hv2 ⊢
   clear hw2
   have hll:((List.range (64*M)).map (bitsOf ws)).length<=6000:=by rw [<- hLe,mixL_length];omega
   have HC:=doOutC hc HS HDW hv2 hf2 ho2 hll
   clear hv2 hf2 ho2 hll hca hcb hcc
   refine HC.out.mono ?_
   rintro e w3 ⟨dd,rfl,HE,e0,f0,e1,f1,e2,f2,e3,f3,e4,f4,e5,f5⟩
   go_wp2
   clear e0 e1 e2 e3 e4 e5 f0 f1 f2 f3 f4 f5
   obtain ⟨w4,hw4,e0,e1,e2,e3,e4,e5,HF⟩:=doSix false 0 HE
   rw [hw4];clear hw4
   simp [bodyPost,results,Tryz.f6,Tryz.results6,go_sem,e0,e1,e2,e3,e4,e5]
   exact HF.out
theorem do_26(a b c fr to n B:Nat)(wd:BitVec 64)(many:Value)(vs:Nat->Value)(ls:Nat->List Bool)(w:World)(ha:a<4)(hb:b<4)(hc:c<4)(hn:n<=2000)(hs:Sets w B vs ls):
  Calls Tryz.prog 6 #[stepV 26 a b c fr to n wd many,.pointer (some ⟨B,0,none⟩)] w (AnsP false 0 w B vs ls c ((numsN (mOf (ls b)) (ls b).length).map (mOf (ls a)))):=by
 obtain ⟨la,lb,lc,oa,ca,ob,cb,oc,cc,hlab,hlbb,hlcb,hca,hcb,hcc,hcapa,hB,nB,nB1,nB2,hB1,hB2,HS,HLA,HLB,HLC,EA,EB,EC⟩:=doIn hs ha hb hc
 unfold stepV
 clear hs
 go_enter Tryz.func6,Tryz.ntmps6
 go_wp2
 go_quiet (fail)
 go_wp2
 obtain ⟨w1,hw1,HDW,HBA,HBB,HBC⟩:=doMid 26 fr to n nq wd many false 0 ha hb hc HS EA EB EC
 rw [hw1];clear hw1
 have hsw1:=HDW.out.size
 have hem:BL (w1.alloc (.cells #[] 4)) (.slice (some ⟨w.heap.size+8,0,none⟩) 0 0) []:=by
  have h:=Lst.empty w1 4
  rw [hsw1]at h
  exact h
 have hf0:Fr (fun _=>False) w1 (w1.alloc (.cells #[] 4)):=(Fr.refl _ w1).alloc _
 obtain ⟨p,hp⟩:∃p,p=w.heap.size+8:=⟨_,rfl⟩
 rw [show w.heap.size+1+1+1+1+1+1+1+1=p from hp.symm]
 rw [<- hp]at hem
 have hpw:w1.heap.size=p:=hsw1.trans hp.symm
 generalize w1.alloc (.cells #[] 4)=w0 at*
 obtain ⟨i0,hi0,hz0,hz1,hz2⟩:=info_parts info4
 have HV0:=Lib.hid hem;have HF0:=Lib.hid hf0;have HPW:=Lib.hid hpw;have HP:=Lib.hid hp
 clear hem hf0 hca hcb hcc hsw1 hpw hp
 go_loopw [28,502] (fun x i wr=>∃k:Nat,k<=lb/\i= .int .i64 (k:Int)/\BL wr x ((numsN (mOf (ls b)) k).map (mOf (ls a)))/\Fr (fun _=>False) w1 wr/\∀r,x.ownBlock=some r->w1.heap.size<=r) (fun x i _=>lb-(intOf i).toNat)
 case atStart=>exact ⟨0,by omega,rfl,HV0.out,HF0.out,by rw [HPW.out];intro r hr;cases hr;exact Nat.le_refl _⟩
 case round=>
  obtain ⟨k,hk,rfl,hrow,hfx,hown⟩:=hrel
  have hfw:Fr (fun _=>False) w wr:=HDW.out.fr_.trans hfx
  have HR:=Lib.hid hrow;have HFX:=Lib.hid hfx;have HFW:=Lib.hid hfw;have HO:=Lib.hid hown
  by_cases hlt:k<lb
  ·obtain ⟨sb,cb',eb',hcb⟩:=(HBB.out wr hfw).am (i:=k) (by rw [<- HLB.out];exact hlt)
   rw [<- HLB.out]at eb'
   cases eb'
   have HA:=Lib.hid (has_m _ (ls a) k _ rfl wr (HBA.out wr hfw))
   have hnb:(numsN (mOf (ls b)) k).length<=6000:=by rw [numsN_length];have:=cntN_le (mOf (ls b)) k;omega
   have HNB:=Lib.hid hnb
   clear hrow hfx hfw hown hnb
   cases hb:mOf (ls b) k
   ·simp only [hb]at hcb
    have HB:=Lib.hid hb;clear hb
    go_wp2
    go_roundw
    case rel=>exact ⟨k+1,by omega,by go_num,by simpa [numsN,HB.out] using HR.out,HFX.out,HO.out⟩
    case measure=>simp [intOf];omega
   ·simp only [hb]at hcb
    have HB:=Lib.hid hb;clear hb
    go_wp2_with (first|(go_at_call 18;refine (HA.out).mono ?_;rintro e w3 ⟨rfl,rfl⟩)|(at_builtin;refine wpList_app 25 4 i0 _ 1 1 Tryz.underlying25 hi0 hz0 hz1 hz2 rfl (by omega) (by omega) (.tmp 509) (.tmp 513) rfl rfl _ _ _ _ (Lst.alloc HR.out _) _ _ _ (src_one _ (.bool (mOf (ls a) k)) 4) (by simp [Value.oneCell']) (by have:=HNB.out;simp;omega) rfl rfl ?_;intro v1 w4 hv1 hf1 hat1))
    go_roundw
    case rel=>
     refine ⟨k+1,by omega,by go_num,?_,?_,?_⟩
     ·have e:(numsN (mOf (ls b)) (k+1)).map (mOf (ls a))=(numsN (mOf (ls b)) k).map (mOf (ls a))++ [mOf (ls a) k]:=by simp [numsN,HB.out]
      rw [e]
      unfold BL
      simpa using hv1
     ·exact (HFX.out.alloc _).trans' hf1 (fun r hr=> .inr (HO.out r hr))
     ·exact own_new hat1 (by have:=HFX.out.size;simp;omega) HO.out
    case measure=>simp [intOf];omega
  ·have hkk:k=lb:=by omega
   subst hkk
   clear hrow hfx hfw hown
   go_wp2_with (go_at_call 16;refine Hid.out ?_)
   refine Lib.hid ?_
   have hLe:=HLB.out
   obtain ⟨v2,hv2e⟩:∃v,v=u28:=⟨_,rfl⟩
   have hv2:BL wr v2 ((numsN (mOf (ls b)) (ls b).length).map (mOf (ls a))):=by rw [hv2e,<- hLe];exact HR.out
   have ho2:∀r,v2.ownBlock=some r->w1.heap.size<=r:=by rw [hv2e];exact HO.out
   have hf2:=HFX.out
   rw [<- hv2e]
   have hca:=trivial;have hcb:=trivial;have hcc:=trivial
   obtain ⟨w2,hw2⟩:∃w2,w2=wr:=⟨_,rfl⟩
   rw [<- hw2]at hf2 hv2 ⊢
   clear hw2
   have hll:((numsN (mOf (ls b)) (ls b).length).map (mOf (ls a))).length<=6000:=by simp only [List.length_map,numsN_length];have:=cntN_le (mOf (ls b)) (ls b).length;omega
   have HC:=doOutC hc HS HDW hv2 hf2 ho2 hll
   clear hv2 hf2 ho2 hll hca hcb hcc
   refine HC.out.mono ?_
   rintro e w3 ⟨dd,rfl,HE,e0,f0,e1,f1,e2,f2,e3,f3,e4,f4,e5,f5⟩
   go_wp2
   clear e0 e1 e2 e3 e4 e5 f0 f1 f2 f3 f4 f5
   obtain ⟨w4,hw4,e0,e1,e2,e3,e4,e5,HF⟩:=doSix false 0 HE
   rw [hw4];clear hw4
   simp [bodyPost,results,Tryz.f6,Tryz.results6,go_sem,e0,e1,e2,e3,e4,e5]
   exact HF.out
end Go.Proofs.YtobdfhlmipcjbaaGreatDoor
