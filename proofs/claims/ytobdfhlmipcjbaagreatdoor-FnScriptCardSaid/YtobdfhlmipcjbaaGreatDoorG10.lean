/- spec.Do: copies, a list made shorter. Conditions: places of four, numbers of at most 2,000. -/
import Derived.Test.YtobdfhlmipcjbaaGreatDoorG05
set_option linter.unusedVariables false
set_option linter.unusedSimpArgs false
set_option maxHeartbeats 2000000
set_option maxRecDepth 100000
namespace Go.Proofs.YtobdfhlmipcjbaaGreatDoor
open Go.RowKit
theorem do_21(a b c fr to n B:Nat)(wd:BitVec 64)(many:Value)(vs:Nat->Value)(ls:Nat->List Bool)(w:World)(ha:a<4)(hb:b<4)(hc:c<4)(hn:n<=2000)(hs:Sets w B vs ls):
  Calls Tryz.prog 6 #[stepV 21 a b c fr to n wd many,.pointer (some ⟨B,0,none⟩)] w (AnsP false 0 w B vs ls c (ls a)):=by
 obtain ⟨la,lb,lc,oa,ca,ob,cb,oc,cc,hlab,hlbb,hlcb,hca,hcb,hcc,hcapa,hB,nB,nB1,nB2,hB1,hB2,HS,HLA,HLB,HLC,EA,EB,EC⟩:=doIn hs ha hb hc
 unfold stepV
 clear hs
 go_enter Tryz.func6,Tryz.ntmps6
 go_wp2
 go_quiet (fail)
 go_wp2_with (at_builtin;refine Hid.out ?_)
 refine Lib.hid ?_
 obtain ⟨w1,hw1,HDW,HBA,HBB,HBC⟩:=doMid 21 fr to n nq wd many false 0 ha hb hc HS EA EB EC
 rw [hw1];clear hw1
 obtain ⟨i0,hi0,hz0,hz1,hz2⟩:=info_parts info4
 have hsrc:Src (w1.alloc (.cells #[] 4)) 1 (.slice oa la ca) la ((ls a).map Value.bool):=by
  have h:=((HBA.out _ HDW.out.fr_).alloc (.cells #[] 4)).src
  rw [<- HLA.out]at h
  exact h
 have hsw1:=HDW.out.size
 have hem:=Lst.empty w1 4
 rw [HDW.out.size]at hem
 refine wpList_app 25 4 i0 _ 1 1 Tryz.underlying25 hi0 hz0 hz1 hz2 rfl (by omega) (by omega) (.tmp 381) (.tmp 382) rfl rfl _ _ _ _ hem (.slice oa la ca) (la) ((ls a).map Value.bool) (hsrc) (oneBool _) (by omega) rfl rfl ?_
 intro v2 w2 hv2 hf2' hat2
 have hf2:Fr (fun _=>False) w1 w2:=((Fr.refl _ w1).alloc _).trans' hf2' (fun r hr=> .inr (by simp [Value.ownBlock]at hr;omega))
 have ho2:∀r,v2.ownBlock=some r->w1.heap.size<=r:=own_new hat2 (by simp) (by simp [Value.ownBlock];try omega)
 clear hf2' hat2
 rw [Nat.zero_add,List.nil_append]at hv2
 rw [HLA.out]at hv2
 have hll:(ls a).length<=6000:=by have:=HLA.out;omega
 have HC:=doOutC hc HS HDW hv2 hf2 ho2 hll
 clear hv2 hf2 ho2 hll hca hcb hcc
 go_wp2_with (go_at_call 16;refine HC.out.mono ?_;rintro e w3 ⟨dd,rfl,HE,e0,f0,e1,f1,e2,f2,e3,f3,e4,f4,e5,f5⟩;refine Hid.out ?_)
 refine Lib.hid ?_
 go_wp2
 clear e0 e1 e2 e3 e4 e5 f0 f1 f2 f3 f4 f5
 obtain ⟨w4,hw4,e0,e1,e2,e3,e4,e5,HF⟩:=doSix false 0 HE
 rw [hw4];clear hw4
 simp [bodyPost,results,Tryz.f6,Tryz.results6,go_sem,e0,e1,e2,e3,e4,e5]
 exact HF.out
theorem do_23(a b c fr to n B:Nat)(wd:BitVec 64)(many:Value)(vs:Nat->Value)(ls:Nat->List Bool)(w:World)(ha:a<4)(hb:b<4)(hc:c<4)(hn:n<=2000)(hs:Sets w B vs ls):
  Calls Tryz.prog 6 #[stepV 23 a b c fr to n wd many,.pointer (some ⟨B,0,none⟩)] w (AnsP false 0 w B vs ls c (ls a)):=by
 obtain ⟨la,lb,lc,oa,ca,ob,cb,oc,cc,hlab,hlbb,hlcb,hca,hcb,hcc,hcapa,hB,nB,nB1,nB2,hB1,hB2,HS,HLA,HLB,HLC,EA,EB,EC⟩:=doIn hs ha hb hc
 unfold stepV
 clear hs
 go_enter Tryz.func6,Tryz.ntmps6
 go_wp2
 go_quiet (fail)
 go_wp2_with (at_builtin;refine Hid.out ?_)
 refine Lib.hid ?_
 obtain ⟨w1,hw1,HDW,HBA,HBB,HBC⟩:=doMid 23 fr to n nq wd many false 0 ha hb hc HS EA EB EC
 rw [hw1];clear hw1
 obtain ⟨i0,hi0,hz0,hz1,hz2⟩:=info_parts info4
 have hsrc:Src (w1.alloc (.cells #[] 4)) 1 (.slice oa la ca) la ((ls a).map Value.bool):=by
  have h:=((HBA.out _ HDW.out.fr_).alloc (.cells #[] 4)).src
  rw [<- HLA.out]at h
  exact h
 have hsw1:=HDW.out.size
 have hem:=Lst.empty w1 4
 rw [HDW.out.size]at hem
 refine wpList_app 25 4 i0 _ 1 1 Tryz.underlying25 hi0 hz0 hz1 hz2 rfl (by omega) (by omega) (.tmp 424) (.tmp 425) rfl rfl _ _ _ _ hem (.slice oa la ca) (la) ((ls a).map Value.bool) (hsrc) (oneBool _) (by omega) rfl rfl ?_
 intro v2 w2 hv2 hf2' hat2
 have hf2:Fr (fun _=>False) w1 w2:=((Fr.refl _ w1).alloc _).trans' hf2' (fun r hr=> .inr (by simp [Value.ownBlock]at hr;omega))
 have ho2:∀r,v2.ownBlock=some r->w1.heap.size<=r:=own_new hat2 (by simp) (by simp [Value.ownBlock];try omega)
 clear hf2' hat2
 rw [Nat.zero_add,List.nil_append]at hv2
 rw [HLA.out]at hv2
 have hll:(ls a).length<=6000:=by have:=HLA.out;omega
 have HC:=doOutC hc HS HDW hv2 hf2 ho2 hll
 clear hv2 hf2 ho2 hll hca hcb hcc
 go_wp2_with (go_at_call 16;refine HC.out.mono ?_;rintro e w3 ⟨dd,rfl,HE,e0,f0,e1,f1,e2,f2,e3,f3,e4,f4,e5,f5⟩;refine Hid.out ?_)
 refine Lib.hid ?_
 go_wp2
 clear e0 e1 e2 e3 e4 e5 f0 f1 f2 f3 f4 f5
 obtain ⟨w4,hw4,e0,e1,e2,e3,e4,e5,HF⟩:=doSix false 0 HE
 rw [hw4];clear hw4
 simp [bodyPost,results,Tryz.f6,Tryz.results6,go_sem,e0,e1,e2,e3,e4,e5]
 exact HF.out
theorem do_8(a b c fr to n B:Nat)(wd:BitVec 64)(many:Value)(vs:Nat->Value)(ls:Nat->List Bool)(w:World)(ha:a<4)(hb:b<4)(hc:c<4)(hn:n<=2000)(hlt:n+1<(ls a).length)(hs:Sets w B vs ls):
  Calls Tryz.prog 6 #[stepV 8 a b c fr to n wd many,.pointer (some ⟨B,0,none⟩)] w (AnsP false 0 w B vs ls a ((ls a).take (n+1))):=by
 obtain ⟨la,lb,lc,oa,ca,ob,cb,oc,cc,hlab,hlbb,hlcb,hca,hcb,hcc,hcapa,hB,nB,nB1,nB2,hB1,hB2,HS,HLA,HLB,HLC,EA,EB,EC⟩:=doIn hs ha hb hc
 unfold stepV
 clear hs
 have hlt2:n+1<la:=by have:=HLA.out;omega
 have hge:decide ((la:Int)<=(n:Int)+1)=false:=by simp;omega
 have hsl:(0:Int)<=(n:Int)+1/\(n:Int)+1<=ca:=by omega
 have hsn:((n:Int)+1).toNat=n+1:=by omega
 go_enter Tryz.func6,Tryz.ntmps6
 go_wp2
 go_quiet (fail)
 go_wp2_with (at_builtin;refine Hid.out ?_)
 refine Lib.hid ?_
 obtain ⟨w1,hw1,HDW,HBA,HBB,HBC⟩:=doMid 8 fr to n nq wd many false 0 ha hb hc HS EA EB EC
 rw [hw1];clear hw1
 obtain ⟨i0,hi0,hz0,hz1,hz2⟩:=info_parts info4
 have hsrc:Src (w1.alloc (.cells #[] 4)) 1 (.slice oa la ca) la ((ls a).map Value.bool):=by
  have h:=((HBA.out _ HDW.out.fr_).alloc (.cells #[] 4)).src
  rw [<- HLA.out]at h
  exact h
 have hsw1:=HDW.out.size
 have hem:=Lst.empty w1 4
 rw [HDW.out.size]at hem
 refine wpList_app 25 4 i0 _ 1 1 Tryz.underlying25 hi0 hz0 hz1 hz2 rfl (by omega) (by omega) (.tmp 219) (.tmp 224) rfl rfl _ _ _ _ hem (.slice oa (n+1) ca) (n+1) (((ls a).take (n+1)).map Value.bool) (by have:=hsrc.take (n+1) (by omega);rw [<- List.map_take]at this;exact this) (oneBool _) (by omega) rfl rfl ?_
 intro v2 w2 hv2 hf2' hat2
 have hf2:Fr (fun _=>False) w1 w2:=((Fr.refl _ w1).alloc _).trans' hf2' (fun r hr=> .inr (by simp [Value.ownBlock]at hr;omega))
 have ho2:∀r,v2.ownBlock=some r->w1.heap.size<=r:=own_new hat2 (by simp) (by simp [Value.ownBlock];try omega)
 clear hf2' hat2
 rw [Nat.zero_add,List.nil_append]at hv2
 have el:((ls a).take (n+1)).length=n+1:=by have:=HLA.out;simp;omega
 have hv2:BL w2 v2 ((ls a).take (n+1)):=by unfold BL;rw [el];exact hv2
 have hll:((ls a).take (n+1)).length<=6000:=by have:=HLA.out;simp;omega
 have HC:=doOutA ha HS HDW hv2 hf2 ho2 hll
 clear hv2 hf2 ho2 hll hca hcb hcc
 go_wp2_with (go_at_call 15;refine HC.out.mono ?_;rintro e w3 ⟨dd,rfl,HE,e0,f0,e1,f1,e2,f2,e3,f3,e4,f4,e5,f5⟩;refine Hid.out ?_)
 refine Lib.hid ?_
 go_wp2
 clear e0 e1 e2 e3 e4 e5 f0 f1 f2 f3 f4 f5
 obtain ⟨w4,hw4,e0,e1,e2,e3,e4,e5,HF⟩:=doSix false 0 HE
 rw [hw4];clear hw4
 simp [bodyPost,results,Tryz.f6,Tryz.results6,go_sem,e0,e1,e2,e3,e4,e5]
 exact HF.out
end Go.Proofs.YtobdfhlmipcjbaaGreatDoor
