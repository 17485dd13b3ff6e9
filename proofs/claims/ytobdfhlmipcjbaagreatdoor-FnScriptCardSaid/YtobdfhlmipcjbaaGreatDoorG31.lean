/- spec.Do: set to, compact. Conditions: places of four, numbers of at most 2,000. -/
import Derived.Test.YtobdfhlmipcjbaaGreatDoorG05
import Derived.Test.YtobdfhlmipcjbaaGreatDoorG27
set_option linter.unusedVariables false
set_option linter.unusedSimpArgs false
set_option maxHeartbeats 2000000
set_option maxRecDepth 100000
namespace Go.Proofs.YtobdfhlmipcjbaaGreatDoor
open Go.RowKit
def oddB(x:BitVec 64):Bool:=x.getLsbD 0
theorem odd_test(x:BitVec 64):(bits .and .u64 (wn x) 1==1)=oddB x:=by
 have h:=shr_test x 0 (by omega)
 unfold oddB
 rw [<- h]
 simp
theorem putL_len(l:List Bool)(n:Nat)(b:Bool):(putL l n b).length<=max l.length (n+1):=by
 cases b
 ·simp [putL];try omega
 ·simp [putL,longL_length];try omega
theorem topN_le(m:Nat->Bool)(n:Nat):topN m n<=n:=by
 induction n with
 |zero=>exact Nat.le_refl _
 |succ n ih=>unfold topN;split <;> omega
theorem do_2(a b c fr to n B:Nat)(wd:BitVec 64)(many:Value)(vs:Nat->Value)(ls:Nat->List Bool)(w:World)(ha:a<4)(hb:b<4)(hc:c<4)(hn:n<=2000)(hs:Sets w B vs ls):
  Calls Tryz.prog 6 #[stepV 2 a b c fr to n wd many,.pointer (some ⟨B,0,none⟩)] w (AnsP false 0 w B vs ls a (putL (ls a) n (oddB wd))):=by
 obtain ⟨la,lb,lc,oa,ca,ob,cb,oc,cc,hlab,hlbb,hlcb,hca,hcb,hcc,hcapa,hB,nB,nB1,nB2,hB1,hB2,HS,HLA,HLB,HLC,EA,EB,EC⟩:=doIn hs ha hb hc
 unfold stepV
 clear hs
 go_enter Tryz.func6,Tryz.ntmps6
 go_wp2
 go_quiet (fail)
 go_wp2_with (go_at_call 17;refine Hid.out ?_)
 refine Lib.hid ?_
 obtain ⟨w1,hw1,HDW,HBA,HBB,HBC⟩:=doMid 2 fr to n nq wd many false 0 ha hb hc HS EA EB EC
 rw [hw1];clear hw1
 have hP:Calls Tryz.prog 17 #[.slice oa la ca,.int .i64 (n:Int),.bool (bits .and .u64 (wn wd) 1==1)] w1 (NewBL w1 (putL (ls a) n (oddB wd))):=by
  rw [odd_test]
  exact put_c _ (ls a) n (oddB wd) w1 (HBA.out _ HDW.out.fr_) (by have:=HS.out.len a ha;omega) (by omega)
 refine (hP).mono ?_
 rintro e w2 ⟨v2,rfl,hv2,hf2,ho2⟩
 have hll:(putL (ls a) n (oddB wd)).length<=6000:=by have:=putL_len (ls a) n (oddB wd);have:=HS.out.len a ha;omega
 have HC:=doOutA ha HS HDW hv2 hf2 ho2 hll
 clear hv2 hf2 ho2 hll hca hcb hcc
 go_wp2_with (go_at_call 15;refine HC.out.mono ?_;rintro e w3 ⟨dd,rfl,HE,e0,f0,e1,f1,e2,f2,e3,f3,e4,f4,e5,f5⟩;refine Hid.out ?_)
 refine Lib.hid ?_
 go_wp2
 clear e0 e1 e2 e3 e4 e5 f0 f1 f2 f3 f4 f5
 obtain ⟨w4,hw4,e0,e1,e2,e3,e4,e5,HF⟩:=doSix false 0 HE
 rw [hw4];clear hw4
 simp [bodyPost,results,Tryz.f6,Tryz.results6,go_sem,e0,e1,e2,e3,e4,e5]
 exact HF.out
theorem do_9(a b c fr to n B:Nat)(wd:BitVec 64)(many:Value)(vs:Nat->Value)(ls:Nat->List Bool)(w:World)(ha:a<4)(hb:b<4)(hc:c<4)(hn:n<=2000)(hlt:max 1 ((topN (mOf (ls a)) (ls a).length+63)/64)*64<(ls a).length)(hs:Sets w B vs ls):
  Calls Tryz.prog 6 #[stepV 9 a b c fr to n wd many,.pointer (some ⟨B,0,none⟩)] w (AnsP false 0 w B vs ls a ((ls a).take (max 1 ((topN (mOf (ls a)) (ls a).length+63)/64)*64))):=by
 obtain ⟨la,lb,lc,oa,ca,ob,cb,oc,cc,hlab,hlbb,hlcb,hca,hcb,hcc,hcapa,hB,nB,nB1,nB2,hB1,hB2,HS,HLA,HLB,HLC,EA,EB,EC⟩:=doIn hs ha hb hc
 unfold stepV
 have HYP:=Lib.hid hlt;clear hlt
 clear hs
 go_enter Tryz.func6,Tryz.ntmps6
 go_wp2
 go_quiet (fail)
 go_wp2_with (go_at_call 20;refine Hid.out ?_)
 refine Lib.hid ?_
 obtain ⟨w1,hw1,HDW,HBA,HBB,HBC⟩:=doMid 9 fr to n nq wd many false 0 ha hb hc HS EA EB EC
 rw [hw1];clear hw1
 obtain ⟨t,ht⟩:∃t,t=topN (mOf (ls a)) (ls a).length:=⟨_,rfl⟩
 have htb:t<=6000:=by rw [ht];have:=topN_le (mOf (ls a)) (ls a).length;have:=HS.out.len a ha;omega
 have hL:=spLast_c _ (ls a) w1 (HBA.out _ HDW.out.fr_) (by have:=HS.out.len a ha;omega)
 rw [<- ht]at hL
 refine hL.mono ?_
 obtain ⟨q,hq⟩:∃q,q=max 1 ((t+63)/64)*64:=⟨_,rfl⟩
 have i0:(t:Int)-1+64=((t+63:Nat):Int):=by omega
 have i1:max (1:Int) (((t:Int)+63)/64)*64=(q:Int):=by omega
 have hqb:q<=12000:=by omega
 have hql:q<la:=by have h:=HYP.out;rw [<- ht,<- hq,<- HLA.out]at h;exact h
 have hqd:decide ((la:Int)<=(q:Int))=false:=by simp;omega
 rintro e w2 ⟨rfl,rfl⟩
 have hle:q<=la:=by omega
 have hcap2:(0:Int)<=(q:Int)/\(q:Int)<=ca:=by omega
 have HT:=Lib.hid ht;have HQ:=Lib.hid hq
 clear ht hq hL
 go_wp2_with (at_builtin;refine Hid.out ?_)
 refine Lib.hid ?_
 have hsrc:Src (w2.alloc (.cells #[] 4)) 1 (.slice oa la ca) la ((ls a).map Value.bool):=by
  have h:=((HBA.out _ HDW.out.fr_).alloc (.cells #[] 4)).src
  rw [<- HLA.out]at h
  exact h
 have hsw1:=HDW.out.size
 have hem:=Lst.empty w2 4
 obtain ⟨i0_,hi0,hz0,hz1,hz2⟩:=info_parts info4
 refine wpList_app 25 4 i0_ _ 1 1 Tryz.underlying25 hi0 hz0 hz1 hz2 rfl (by omega) (by omega) (.tmp 243) (.tmp 246) rfl rfl _ _ _ _ hem (.slice oa q ca) q (((ls a).take q).map Value.bool) (by have:=hsrc.take q hle;rw [<- List.map_take]at this;exact this) (oneBool _) (by omega) rfl rfl ?_
 obtain ⟨w1,hw1⟩:∃w1,w1=w2:=⟨_,rfl⟩
 rw [<- hw1]
 rw [<- hw1]at HDW
 clear hsrc hem
 intro v2 w2 hv2 hf2' hat2
 have hf2:Fr (fun _=>False) w1 w2:=((Fr.refl _ w1).alloc _).trans' hf2' (fun r hr=> .inr (by simp [Value.ownBlock]at hr;rw [<- hr,hw1];exact Nat.le_refl _))
 have ho2:∀r,v2.ownBlock=some r->w1.heap.size<=r:=own_new hat2 (by simp) (by simp [Value.ownBlock,hw1])
 clear hf2' hat2
 rw [Nat.zero_add,List.nil_append]at hv2
 have eq9:max 1 ((topN (mOf (ls a)) (ls a).length+63)/64)*64=q:=by rw [HQ.out,HT.out]
 have el:((ls a).take q).length=q:=by have:=HLA.out;simp;omega
 have hv2:BL w2 v2 ((ls a).take (max 1 ((topN (mOf (ls a)) (ls a).length+63)/64)*64)):=by unfold BL;rw [eq9,el];exact hv2
 have hll:((ls a).take (max 1 ((topN (mOf (ls a)) (ls a).length+63)/64)*64)).length<=6000:=by have:=HLA.out;rw [List.length_take];omega
 have HC:=doOutA ha HS HDW hv2 hf2 ho2 hll
 clear hv2 hf2 ho2 hll hca hcb hcc
 go_wp2_with (go_at_call 15;refine HC.out.mono ?_;rintro e w3 ⟨dd,rfl,HE,e0,f0,e1,f1,e2,f2,e3,f3,e4,f4,e5,f5⟩;refine Hid.out ?_)
 refine Lib.hid ?_
 go_wp2
 clear e0 e1 e2 e3 e4 e5 f0 f1 f2 f3 f4 f5
 obtain ⟨w4,hw4,e0,e1,e2,e3,e4,e5,HF⟩:=doSix false 0 HE
 rw [hw4];clear hw4
 simp [bodyPost,results,Tryz.f6,Tryz.results6,go_sem,e0,e1,e2,e3,e4,e5]
 exact HF.out
end Go.Proofs.YtobdfhlmipcjbaaGreatDoor
