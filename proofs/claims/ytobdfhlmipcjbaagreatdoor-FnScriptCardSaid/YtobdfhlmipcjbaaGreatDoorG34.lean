/- spec.Do: a shift up. Conditions: places of four, numbers of at most 2,000. spec.Do: shifts that change nothing. Conditions: places of four, numbers of at most 2,000. ShiftLeft, at every set. Conditions: what is made stays below 50,000. -/
import Derived.Test.YtobdfhlmipcjbaaGreatDoorG05
import Derived.Test.YtobdfhlmipcjbaaGreatDoorG31
import Derived.Test.YtobdfhlmipcjbaaGreatDoorG32
set_option linter.unusedVariables false
set_option linter.unusedSimpArgs false
set_option maxHeartbeats 2000000
set_option maxRecDepth 100000
namespace Go.Proofs.YtobdfhlmipcjbaaGreatDoor
open Go.RowKit
theorem topN_gt(m:Nat->Bool)(n k:Nat)(hk:k<n)(h:m k=true):k<topN m n:=by
 induction n with
 |zero=>omega
 |succ n ih=>
  unfold topN
  split
  ·omega
  ·rename_i hn
   have:k≠n:=fun e=>hn (e ▸ h)
   exact ih (by omega)
def shF(m:Nat->Bool)(n k j:Nat):Bool:=decide (n<=j)&&decide (j<k+n)&&m (j-n)
theorem shF_set(N:Nat)(m:Nat->Bool)(n k:Nat)(h:m k=true):(((List.range N).map (shF m n k)).map Value.bool).set (k+n) (.bool true)=((List.range N).map (shF m n (k+1))).map Value.bool:=by
 have e:Value.bool true=Value.bool (shF m n (k+1) (k+n)):=by
  unfold shF
  simp [h]
 rw [<- List.map_set,range_set]
 congr 1
 apply List.map_congr_left
 intro j _
 unfold shF
 by_cases e:j=k+n
 ·subst e;simp [h]
 ·rw [if_neg e]
  have:(j<k+n)=(j<k+1+n):=by apply propext;omega
  simp [this]
theorem shF_skip(N:Nat)(m:Nat->Bool)(n k:Nat)(h:m k=false):(List.range N).map (shF m n k)=(List.range N).map (shF m n (k+1)):=by
 apply List.map_congr_left
 intro j _
 unfold shF
 by_cases e:j=k+n
 ·subst e;simp [h]
 ·have:(j<k+n)=(j<k+1+n):=by apply propext;omega
  simp [this]
theorem do_24(a b c fr to n B:Nat)(wd:BitVec 64)(many:Value)(vs:Nat->Value)(ls:Nat->List Bool)(w:World)(ha:a<4)(hb:b<4)(hc:c<4)(hn:n<=2000)(h3:(ls a).length<=3000)(ht0:0<topN (mOf (ls a)) (ls a).length)(hn0:0<n)(hs:Sets w B vs ls):
  Calls Tryz.prog 6 #[stepV 24 a b c fr to n wd many,.pointer (some ⟨B,0,none⟩)] w (AnsP false 0 w B vs ls a ((List.range (max (ls a).length (topN (mOf (ls a)) (ls a).length+n))).map (shF (mOf (ls a)) n (ls a).length))):=by
 obtain ⟨la,lb,lc,oa,ca,ob,cb,oc,cc,hlab,hlbb,hlcb,hca,hcb,hcc,hcapa,hB,nB,nB1,nB2,hB1,hB2,HS,HLA,HLB,HLC,EA,EB,EC⟩:=doIn hs ha hb hc
 unfold stepV
 have HT0:=Lib.hid ht0;clear ht0
 clear hs
 go_enter Tryz.func6,Tryz.ntmps6
 go_wp2
 go_quiet (fail)
 go_wp2_with (go_at_call 20;refine Hid.out ?_)
 refine Lib.hid ?_
 obtain ⟨w1,hw1,HDW,HBA,HBB,HBC⟩:=doMid 24 fr to n nq wd many false 0 ha hb hc HS EA EB EC
 rw [hw1];clear hw1
 obtain ⟨t,ht⟩:∃t,t=topN (mOf (ls a)) (ls a).length:=⟨_,rfl⟩
 have htb:t<=6000:=by rw [ht];have:=topN_le (mOf (ls a)) (ls a).length;have:=HS.out.len a ha;omega
 have htp:0<t:=by rw [ht];exact HT0.out
 have hL:=spLast_c _ (ls a) w1 (HBA.out _ HDW.out.fr_) (by have:=HS.out.len a ha;omega)
 rw [<- ht]at hL
 refine hL.mono ?_
 rintro e w2 ⟨rfl,rfl⟩
 obtain ⟨N,hN⟩:∃N,N=max la (t+n):=⟨_,rfl⟩
 have hmk:=make25 (N:Int) (N:Int) (by omega) (by omega) (by omega)
 rw [Int.toNat_natCast]at hmk
 have i1:max (la:Int) ((t:Int)-1+(n:Int)+1)=(N:Int):=by omega
 have d1:decide ((t:Int)-1<0)=false:=by simp;omega
 have d2:¬n=0:=by omega
 have q6:=hp_cell HDW.out.p0 6 (v:= .int .i64 (n:Int)) rfl
 have hNb:N<=9000:=by omega
 have hNla:la<=N:=by omega
 have hNtn:t+n<=N:=by omega
 have HT:=Lib.hid ht;have HN:=Lib.hid hN;clear ht hL hN
 go_wp2
 have hpw:BL (w2.alloc (.cells (madeCells #[.bool false] N) 4)) (.slice (some ⟨w2.heap.size,0,none⟩) N N) ((List.range N).map (shF (mOf (ls a)) n 0)):=by
  have h:=rowLst (World.rowIs_made w2 (.bool false) N 4) (Nat.le_refl _) (by omega)
  have e:((List.range N).map (shF (mOf (ls a)) n 0)).map Value.bool=(List.range N).map (fun _=>Value.bool false):=by
   rw [List.map_map]
   apply List.map_congr_left
   intro j _
   have:shF (mOf (ls a)) n 0 j=false:=by unfold shF;simp;omega
   simp [this]
  unfold BL
  rw [e]
  simpa using h
 have hf0:Fr (fun _=>False) w2 (w2.alloc (.cells (madeCells #[.bool false] N) 4)):=(Fr.refl _ w2).alloc _
 obtain ⟨p,hp⟩:∃p,p=w2.heap.size:=⟨_,rfl⟩
 rw [<- hp]at hpw ⊢
 generalize w2.alloc (.cells (madeCells #[.bool false] N) 4)=w0 at*
 have HV0:=Lib.hid hpw;have HF0:=Lib.hid hf0;have HP:=Lib.hid hp;have HTP:=Lib.hid htp
 clear hpw hf0 hp hca hcb hcc hmk q6 i1 d1
 go_loopw [453] (fun i wr=>∃k:Nat,k<=la/\i= .int .i64 (k:Int)/\BL wr (.slice (some ⟨p,0,none⟩) N N) ((List.range N).map (shF (mOf (ls a)) n k))/\Fr (· =p) w0 wr) (fun i _=>la-(intOf i).toNat)
 case atStart=>exact ⟨0,by omega,rfl,HV0.out,Fr.refl _ _⟩
 case round=>
  obtain ⟨k,hk,rfl,hrow,hfr⟩:=hrel
  have hfx:Fr (fun _=>False) w2 wr:=HF0.out.trans' hfr (fun r hr=> .inr (by rw [hr,HP.out];exact Nat.le_refl _))
  have hfw:Fr (fun _=>False) w wr:=HDW.out.fr_.trans hfx
  have HR:=Lib.hid hrow;have HF:=Lib.hid hfr;have HFW:=Lib.hid hfw;have HFX:=Lib.hid hfx
  have q6:=hp_cell ((hfx.keep _ (hp_lt HDW.out.p0) (fun h=>h)).trans HDW.out.p0) 6 (v:= .int .i64 (n:Int)) rfl
  have hrow':Lst wr 4 1 (.slice (some ⟨p,0,none⟩) N N) N (((List.range N).map (shF (mOf (ls a)) n k)).map Value.bool):=by
   have h:=hrow
   unfold BL at h
   rw [List.length_map,List.length_range]at h
   exact h
  have HR2:=Lib.hid hrow'
  by_cases hlt:k<la
  ·obtain ⟨sb,cb',eb',hcb⟩:=(HBA.out wr hfw).am (i:=k) (by rw [<- HLA.out];exact hlt)
   rw [<- HLA.out]at eb'
   cases eb'
   cases hb:mOf (ls a) k
   ·simp only [hb]at hcb
    have HB:=Lib.hid hb;clear hb hrow hfr hfx hfw hrow'
    go_wp2
    go_roundw
    case rel=>exact ⟨k+1,by omega,by go_num,by rw [<- shF_skip _ _ _ _ HB.out];exact HR.out,HF.out⟩
    case measure=>simp [intOf];omega
   ·simp only [hb]at hcb
    have hkt:k<t:=by rw [HT.out];exact topN_gt _ _ _ (by rw [<- HLA.out];exact hlt) hb
    have hkn:k+n<N:=by omega
    obtain ⟨s_,c_,e_,y_,_,hcell⟩:=hrow'.at (i:=k+n) hkn
    cases e_
    have hfz:=hrow'.free (k+n)
    have i7:(0:Int)<=(k:Int)+(n:Int)/\(k:Int)+(n:Int)<N:=by omega
    have i8:((k:Int)+(n:Int)).toNat=k+n:=by omega
    have HB:=Lib.hid hb;clear hb hrow hfr hfx hfw hrow'
    go_wp2
    go_roundw
    case rel=>
     refine ⟨k+1,by omega,by go_num,?_,HF.out.setCell (a:=⟨p,k+n,none⟩) (.inl rfl) _⟩
     have h:=HR2.out.set (k+n) hkn (.bool true)
     rw [shF_set _ _ _ _ HB.out]at h
     unfold BL
     rw [List.length_map,List.length_range]
     exact h
    case measure=>simp [intOf];omega
  ·have hkk:k=la:=by omega
   subst hkk
   clear hrow hfr hfw hfx hrow'
   go_wp2_with (go_at_call 15;refine Hid.out ?_)
   refine Lib.hid ?_
   obtain ⟨v2,hv2e⟩:∃v,v=Value.slice (some ⟨p,0,none⟩) N N:=⟨_,rfl⟩
   have hv2:BL wr v2 ((List.range (max (ls a).length (topN (mOf (ls a)) (ls a).length+n))).map (shF (mOf (ls a)) n (ls a).length)):=by rw [hv2e,<- HT.out,<- HLA.out,<- HN.out];exact HR.out
   have ho2:∀r,v2.ownBlock=some r->w2.heap.size<=r:=by rw [hv2e,HP.out];intro r hr;cases hr;exact Nat.le_refl _
   have hf2:=HFX.out
   rw [<- hv2e]
   have hca:=trivial;have hcb:=trivial;have hcc:=trivial
   obtain ⟨w1,hw1⟩:∃w1,w1=w2:=⟨_,rfl⟩
   rw [<- hw1]at hf2 ho2 HDW
   clear hw1 HF0 HFX HP HFW
   obtain ⟨w2,hw2⟩:∃w2,w2=wr:=⟨_,rfl⟩
   rw [<- hw2]at hf2 hv2 ⊢
   clear hw2 q6
   have hll:((List.range (max (ls a).length (topN (mOf (ls a)) (ls a).length+n))).map (shF (mOf (ls a)) n (ls a).length)).length<=6000:=by have h1:=HLA.out;have h2:=topN_le (mOf (ls a)) (ls a).length;rw [List.length_map,List.length_range];omega
   have HC:=doOutA ha HS HDW hv2 hf2 ho2 hll
   clear hv2 hf2 ho2 hll hca hcb hcc
   refine HC.out.mono ?_
   rintro e w3 ⟨dd,rfl,HE,e0,f0,e1,f1,e2,f2,e3,f3,e4,f4,e5,f5⟩
   go_wp2
   clear e0 e1 e2 e3 e4 e5 f0 f1 f2 f3 f4 f5
   obtain ⟨w4,hw4,e0,e1,e2,e3,e4,e5,HF⟩:=doSix false 0 HE
   rw [hw4];clear hw4
   simp [bodyPost,results,Tryz.f6,Tryz.results6,go_sem,e0,e1,e2,e3,e4,e5]
   exact HF.out
theorem do_24t(a b c fr to n B:Nat)(wd:BitVec 64)(many:Value)(vs:Nat->Value)(ls:Nat->List Bool)(w:World)(ha:a<4)(hb:b<4)(hc:c<4)(hn:n<=2000)(hz:topN (mOf (ls a)) (ls a).length=0)(hs:Sets w B vs ls):
  Calls Tryz.prog 6 #[stepV 24 a b c fr to n wd many,.pointer (some ⟨B,0,none⟩)] w (fun e w'=>e= .returned (.tuple #[ansV false 0 0 ByteArray.empty (.slice none 0 0) (.slice none 0 0),.bool true])/\Fr (fun _=>False) w w'):=by
 obtain ⟨la,lb,lc,oa,ca,ob,cb,oc,cc,hlab,hlbb,hlcb,hca,hcb,hcc,hcapa,hB,nB,nB1,nB2,hB1,hB2,HS,HLA,HLB,HLC,EA,EB,EC⟩:=doIn hs ha hb hc
 unfold stepV
 have HYP:=Lib.hid hz;clear hz
 clear hs
 go_enter Tryz.func6,Tryz.ntmps6
 go_wp2
 go_quiet (fail)
 go_wp2_with (go_at_call 20;refine Hid.out ?_)
 refine Lib.hid ?_
 obtain ⟨w1,hw1,HDW,HBA,HBB,HBC⟩:=doMid 24 fr to n nq wd many false 0 ha hb hc HS EA EB EC
 rw [hw1];clear hw1
 obtain ⟨t,ht⟩:∃t,t=topN (mOf (ls a)) (ls a).length:=⟨_,rfl⟩
 have htb:t<=6000:=by rw [ht];have:=topN_le (mOf (ls a)) (ls a).length;have:=HS.out.len a ha;omega
 have hL:=spLast_c _ (ls a) w1 (HBA.out _ HDW.out.fr_) (by have:=HS.out.len a ha;omega)
 rw [<- ht]at hL
 refine hL.mono ?_
 have hyp:=HYP.out
 rw [<- ht]at hyp
 subst hyp
 have d1:decide (((0:Nat):Int)-1<0)=true:=by simp
 clear ht hL
 rintro e w2 ⟨rfl,rfl⟩
 have q6:=hp_cell HDW.out.p0 6 (v:= .int .i64 (n:Int)) rfl
 have hp2:=HDW.out.p2
 have hp3:=HDW.out.p3
 have e0:=hp_cell hp2 0 rfl
 have f0:=hp_free hp2 0
 have g0:=hp_cell hp3 0 rfl
 have e1:=hp_cell hp2 1 rfl
 have f1:=hp_free hp2 1
 have g1:=hp_cell hp3 1 rfl
 have e2:=hp_cell hp2 2 rfl
 have f2:=hp_free hp2 2
 have g2:=hp_cell hp3 2 rfl
 have e3:=hp_cell hp2 3 rfl
 have f3:=hp_free hp2 3
 have g3:=hp_cell hp3 3 rfl
 have e4:=hp_cell hp2 4 rfl
 have f4:=hp_free hp2 4
 have g4:=hp_cell hp3 4 rfl
 have e5:=hp_cell hp2 5 rfl
 have f5:=hp_free hp2 5
 have g5:=hp_cell hp3 5 rfl
 have HP2:=Lib.hid hp2
 clear hp2 hp3
 go_wp2
 have hp4:=set6 (.bool false) (.int .i64 0) (.int .u64 0) (.string { data:= #[] }) (.slice none 0 0) (.slice none 0 0) HP2.out
 have hf4:=fr6 (w:=w2) (p:=w.heap.size+1+1) (.bool false) (.int .i64 0) (.int .u64 0) (.string { data:= #[] }) (.slice none 0 0) (.slice none 0 0)
 generalize (((((w2.setCell ⟨w.heap.size+1+1,0,none⟩ (.bool false)).setCell ⟨w.heap.size+1+1,1,none⟩ (.int .i64 0)).setCell ⟨w.heap.size+1+1,2,none⟩ (.int .u64 0)).setCell ⟨w.heap.size+1+1,3,none⟩ (.string { data:= #[] })).setCell ⟨w.heap.size+1+1,4,none⟩ (.slice none 0 0)).setCell ⟨w.heap.size+1+1,5,none⟩ (.slice none 0 0)=w4 at*
 clear e0 e1 e2 e3 e4 e5 f0 f1 f2 f3 f4 f5 g0 g1 g2 g3 g4 g5
 have e0:=hp_cell hp4 0 rfl
 have e1:=hp_cell hp4 1 rfl
 have e2:=hp_cell hp4 2 rfl
 have e3:=hp_cell hp4 3 rfl
 have e4:=hp_cell hp4 4 rfl
 have e5:=hp_cell hp4 5 rfl
 have HF4:=Lib.hid hf4
 clear hf4 hp4
 simp [bodyPost,results,Tryz.f6,Tryz.results6,go_sem,e0,e1,e2,e3,e4,e5]
 exact ⟨rfl,HDW.out.fr_.trans' HF4.out (fun r hr=> .inr (by omega))⟩
theorem do_24n(a b c fr to n B:Nat)(wd:BitVec 64)(many:Value)(vs:Nat->Value)(ls:Nat->List Bool)(w:World)(ha:a<4)(hb:b<4)(hc:c<4)(hn:n<=2000)(hz:0<topN (mOf (ls a)) (ls a).length)(hn0:n=0)(hs:Sets w B vs ls):
  Calls Tryz.prog 6 #[stepV 24 a b c fr to n wd many,.pointer (some ⟨B,0,none⟩)] w (fun e w'=>e= .returned (.tuple #[ansV false 0 0 ByteArray.empty (.slice none 0 0) (.slice none 0 0),.bool true])/\Fr (fun _=>False) w w'):=by
 have hn1:((n:Int)==0)=true:=by simp [hn0]
 clear hn0
 obtain ⟨la,lb,lc,oa,ca,ob,cb,oc,cc,hlab,hlbb,hlcb,hca,hcb,hcc,hcapa,hB,nB,nB1,nB2,hB1,hB2,HS,HLA,HLB,HLC,EA,EB,EC⟩:=doIn hs ha hb hc
 unfold stepV
 have HYP:=Lib.hid hz;clear hz
 clear hs
 go_enter Tryz.func6,Tryz.ntmps6
 go_wp2
 go_quiet (fail)
 go_wp2_with (go_at_call 20;refine Hid.out ?_)
 refine Lib.hid ?_
 obtain ⟨w1,hw1,HDW,HBA,HBB,HBC⟩:=doMid 24 fr to n nq wd many false 0 ha hb hc HS EA EB EC
 rw [hw1];clear hw1
 obtain ⟨t,ht⟩:∃t,t=topN (mOf (ls a)) (ls a).length:=⟨_,rfl⟩
 have htb:t<=6000:=by rw [ht];have:=topN_le (mOf (ls a)) (ls a).length;have:=HS.out.len a ha;omega
 have hL:=spLast_c _ (ls a) w1 (HBA.out _ HDW.out.fr_) (by have:=HS.out.len a ha;omega)
 rw [<- ht]at hL
 refine hL.mono ?_
 have hyp:=HYP.out
 rw [<- ht]at hyp
 have d1:decide ((t:Int)-1<0)=false:=by simp;omega
 clear ht hL
 rintro e w2 ⟨rfl,rfl⟩
 have q6:=hp_cell HDW.out.p0 6 (v:= .int .i64 (n:Int)) rfl
 have hp2:=HDW.out.p2
 have hp3:=HDW.out.p3
 have e0:=hp_cell hp2 0 rfl
 have f0:=hp_free hp2 0
 have g0:=hp_cell hp3 0 rfl
 have e1:=hp_cell hp2 1 rfl
 have f1:=hp_free hp2 1
 have g1:=hp_cell hp3 1 rfl
 have e2:=hp_cell hp2 2 rfl
 have f2:=hp_free hp2 2
 have g2:=hp_cell hp3 2 rfl
 have e3:=hp_cell hp2 3 rfl
 have f3:=hp_free hp2 3
 have g3:=hp_cell hp3 3 rfl
 have e4:=hp_cell hp2 4 rfl
 have f4:=hp_free hp2 4
 have g4:=hp_cell hp3 4 rfl
 have e5:=hp_cell hp2 5 rfl
 have f5:=hp_free hp2 5
 have g5:=hp_cell hp3 5 rfl
 have HP2:=Lib.hid hp2
 clear hp2 hp3
 go_wp2
 have hp4:=set6 (.bool false) (.int .i64 0) (.int .u64 0) (.string { data:= #[] }) (.slice none 0 0) (.slice none 0 0) HP2.out
 have hf4:=fr6 (w:=w2) (p:=w.heap.size+1+1) (.bool false) (.int .i64 0) (.int .u64 0) (.string { data:= #[] }) (.slice none 0 0) (.slice none 0 0)
 generalize (((((w2.setCell ⟨w.heap.size+1+1,0,none⟩ (.bool false)).setCell ⟨w.heap.size+1+1,1,none⟩ (.int .i64 0)).setCell ⟨w.heap.size+1+1,2,none⟩ (.int .u64 0)).setCell ⟨w.heap.size+1+1,3,none⟩ (.string { data:= #[] })).setCell ⟨w.heap.size+1+1,4,none⟩ (.slice none 0 0)).setCell ⟨w.heap.size+1+1,5,none⟩ (.slice none 0 0)=w4 at*
 clear e0 e1 e2 e3 e4 e5 f0 f1 f2 f3 f4 f5 g0 g1 g2 g3 g4 g5
 have e0:=hp_cell hp4 0 rfl
 have e1:=hp_cell hp4 1 rfl
 have e2:=hp_cell hp4 2 rfl
 have e3:=hp_cell hp4 3 rfl
 have e4:=hp_cell hp4 4 rfl
 have e5:=hp_cell hp4 5 rfl
 have HF4:=Lib.hid hf4
 clear hf4 hp4
 simp [bodyPost,results,Tryz.f6,Tryz.results6,go_sem,e0,e1,e2,e3,e4,e5]
 exact ⟨rfl,HDW.out.fr_.trans' HF4.out (fun r hr=> .inr (by omega))⟩
end Go.Proofs.YtobdfhlmipcjbaaGreatDoor
namespace Go.Proofs.YtobdfhlmipcjbaaGreatDoor
open Go.RowKit Pop
theorem shl_zero(b L:Nat)(v:Value)(m:Nat->Bool)(w:World)(h:BA w b v L m):
  Calls Tryz.prog 58 #[.pointer (some ⟨b,0,none⟩),.int .u64 ((0:Nat):Int)] w (MutA w b v L m (.tuple #[])):=by
 have H:=Lib.hid h;clear h
 go_enter Tryz.func58,Tryz.ntmps58
 go_wp2_with (go_at_call 103;refine (panicIfNull_c _ _).mono ?_;rintro e w' ⟨rfl,rfl⟩)
 go_end0
 exact ⟨rfl,v,H.out,Ch.refl _ _ _⟩
theorem shl_none(b nb L:Nat)(v:Value)(m:Nat->Bool)(w:World)(h:BA w b v L m)(hz:∀j,m j=false)(h0:0<nb):
  Calls Tryz.prog 58 #[.pointer (some ⟨b,0,none⟩),.int .u64 (nb:Int)] w (MutA w b v L m (.tuple #[])):=by
 have n0:¬(nb:Int)=0:=by omega
 have H:=Lib.hid h;have HZ:=Lib.hid hz;clear h hz
 go_enter Tryz.func58,Tryz.ntmps58
 go_wp2_with (first|(go_at_call 103;refine (panicIfNull_c _ _).mono ?_;rintro e w' ⟨rfl,rfl⟩)|(go_at_call 104;refine (top_none H.out HZ.out).mono ?_;rintro e w' ⟨⟨n,rfl⟩,rfl⟩))
 go_end0
 exact ⟨rfl,v,H.out,Ch.refl _ _ _⟩
theorem shl_main(b nb L t:Nat)(v:Value)(m:Nat->Bool)(w:World)(h:BA w b v L m)(h0:0<nb)(hlim:t+nb<50000)(ht:m t=true)(hz:∀j,t<j->m j=false):
  Calls Tryz.prog 58 #[.pointer (some ⟨b,0,none⟩),.int .u64 (nb:Int)] w (MutA w b v (max L (t+nb+1)) (up m nb) (.tuple #[])):=by
 have htL:t<L:=by
  rcases Nat.lt_or_ge t L with h1|h1
  ·exact h1
  ·rw [h.1 t h1]at ht;cases ht
 obtain ⟨s,c,g,rfl,r,hg,hm⟩:=h.rs (by omega)
 have htop:∀w',w'=w->Calls Tryz.prog 104 #[.pointer (some ⟨b,0,none⟩)] w' fun e w''=>e= .returned (.tuple #[.int .u64 (t:Int),.bool true])/\w''=w':=fun w' hw=>by subst hw;exact top_is h ht hz
 have key:Calls Tryz.prog 58 #[.pointer (some ⟨b,0,none⟩),.int .u64 (nb:Int)] w (UpPost w b s L c nb t m):=by
  by_cases hA:nw (t+nb+1)<=nw L
  ·by_cases hB:t+nb<L
   ·exact shiftLeft_a2 b s L c nb t g m w r hg h0 hlim htL hA hB htop hz
   ·exact shiftLeft_a1 b s L c nb t g m w r hg h0 hlim htL hA (by omega) htop hz
  ·exact shiftLeft_b b s L c nb t g m w r hg h0 hlim htL (by omega) htop hz
 refine key.mono ?_
 rintro e w' ⟨rfl,d,cd,g',hr',hg',hf,hd⟩
 refine ⟨rfl,_,hr'.ba hg' (fun i hi=>?_),⟨hf.mono (fun r hr=>?_),?_⟩⟩
 ·unfold up
  rcases Nat.lt_or_ge i nb with h1|h1
  ·have d0:decide (nb<=i)=false:=by simp;omega
   rw [d0];rfl
  ·rw [hz (i-nb) (by omega)];simp
 ·rcases hr with rfl|rfl
  ·exact .inl rfl
  ·exact .inr rfl
 ·rcases hd with rfl|hd
  ·exact .inl rfl
  ·exact .inr (.inr ⟨d,rfl,hd⟩)
end Go.Proofs.YtobdfhlmipcjbaaGreatDoor
