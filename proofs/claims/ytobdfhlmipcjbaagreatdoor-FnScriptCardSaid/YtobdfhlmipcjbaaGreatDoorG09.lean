/- spec.Do: joins. Conditions: places of four, numbers of at most 2,000. -/
import Derived.Test.YtobdfhlmipcjbaaGreatDoorG05
set_option linter.unusedVariables false
set_option linter.unusedSimpArgs false
set_option maxHeartbeats 2000000
set_option maxRecDepth 100000
namespace Go.Proofs.YtobdfhlmipcjbaaGreatDoor
open Go.RowKit
theorem do_17(a b c fr to n B:Nat)(wd:BitVec 64)(many:Value)(vs:Nat->Value)(ls:Nat->List Bool)(w:World)(ha:a<4)(hb:b<4)(hc:c<4)(hn:n<=2000)(hs:Sets w B vs ls):
  Calls Tryz.prog 6 #[stepV 17 a b c fr to n wd many,.pointer (some ⟨B,0,none⟩)] w (AnsP false 0 w B vs ls c (joinL (ls a) (ls b) (fun x y=>x&&y) (min (ls a).length (ls b).length))):=by
 obtain ⟨la,lb,lc,oa,ca,ob,cb,oc,cc,hlab,hlbb,hlcb,hca,hcb,hcc,hcapa,hB,nB,nB1,nB2,hB1,hB2,HS,HLA,HLB,HLC,EA,EB,EC⟩:=doIn hs ha hb hc
 unfold stepV
 clear hs
 go_enter Tryz.func6,Tryz.ntmps6
 go_wp2
 go_quiet (fail)
 go_wp2_with (go_at_call 21;refine Hid.out ?_)
 refine Lib.hid ?_
 obtain ⟨w1,hw1,HDW,HBA,HBB,HBC⟩:=doMid 17 fr to n nq wd many false 0 ha hb hc HS EA EB EC
 rw [hw1];clear hw1
 have hJ:Calls Tryz.prog 21 #[.slice oa la ca,.slice ob lb cb,tabV (fun x y=>x&&y),.int .i64 (min (la:Int) (lb:Int))] w1 (NewBL w1 (joinL (ls a) (ls b) (fun x y=>x&&y) (min (ls a).length (ls b).length))):=by
  rw [show (min (la:Int) (lb:Int))=(((min (ls a).length (ls b).length):Nat):Int) by have h1:=HLA.out;have h2:=HLB.out;omega]
  exact joined_c _ _ (ls a) (ls b) (fun x y=>x&&y) (min (ls a).length (ls b).length) w1 (HBA.out _ HDW.out.fr_) (HBB.out _ HDW.out.fr_) (by have:=HS.out.len a ha;have:=HS.out.len b hb;omega)
 refine (hJ).mono ?_
 rintro e w2 ⟨v2,rfl,hv2,hf2,ho2⟩
 have hll:(joinL (ls a) (ls b) (fun x y=>x&&y) (min (ls a).length (ls b).length)).length<=6000:=by rw [joinL_length];have:=HS.out.len a ha;have:=HS.out.len b hb;omega
 have HC:=doOutC hc HS HDW hv2 hf2 ho2 hll
 clear hv2 hf2 ho2 hll hca hcb hcc
 go_wp2_with (go_at_call 16;refine HC.out.mono ?_;rintro e w3 ⟨dd,rfl,HE,e0,f0,e1,f1,e2,f2,e3,f3,e4,f4,e5,f5⟩;refine Hid.out ?_)
 refine Lib.hid ?_
 go_wp2
 clear e0 e1 e2 e3 e4 e5 f0 f1 f2 f3 f4 f5
 obtain ⟨w4,hw4,e0,e1,e2,e3,e4,e5,HF⟩:=doSix false 0 HE
 rw [hw4];clear hw4
 simp [bodyPost,results,Tryz.f6,Tryz.results6,go_sem,e0,e1,e2,e3,e4,e5]
 exact HF.out
theorem do_18(a b c fr to n B:Nat)(wd:BitVec 64)(many:Value)(vs:Nat->Value)(ls:Nat->List Bool)(w:World)(ha:a<4)(hb:b<4)(hc:c<4)(hn:n<=2000)(hs:Sets w B vs ls):
  Calls Tryz.prog 6 #[stepV 18 a b c fr to n wd many,.pointer (some ⟨B,0,none⟩)] w (AnsP false 0 w B vs ls c (joinL (ls a) (ls b) (fun x y=>x&& !y) ((ls a).length))):=by
 obtain ⟨la,lb,lc,oa,ca,ob,cb,oc,cc,hlab,hlbb,hlcb,hca,hcb,hcc,hcapa,hB,nB,nB1,nB2,hB1,hB2,HS,HLA,HLB,HLC,EA,EB,EC⟩:=doIn hs ha hb hc
 unfold stepV
 clear hs
 go_enter Tryz.func6,Tryz.ntmps6
 go_wp2
 go_quiet (fail)
 go_wp2_with (go_at_call 21;refine Hid.out ?_)
 refine Lib.hid ?_
 obtain ⟨w1,hw1,HDW,HBA,HBB,HBC⟩:=doMid 18 fr to n nq wd many false 0 ha hb hc HS EA EB EC
 rw [hw1];clear hw1
 have hJ:Calls Tryz.prog 21 #[.slice oa la ca,.slice ob lb cb,tabV (fun x y=>x&& !y),.int .i64 ((la:Int))] w1 (NewBL w1 (joinL (ls a) (ls b) (fun x y=>x&& !y) ((ls a).length))):=by
  rw [show ((la:Int))=((((ls a).length):Nat):Int) by have h1:=HLA.out;have h2:=HLB.out;omega]
  exact joined_c _ _ (ls a) (ls b) (fun x y=>x&& !y) ((ls a).length) w1 (HBA.out _ HDW.out.fr_) (HBB.out _ HDW.out.fr_) (by have:=HS.out.len a ha;have:=HS.out.len b hb;omega)
 refine (hJ).mono ?_
 rintro e w2 ⟨v2,rfl,hv2,hf2,ho2⟩
 have hll:(joinL (ls a) (ls b) (fun x y=>x&& !y) ((ls a).length)).length<=6000:=by rw [joinL_length];have:=HS.out.len a ha;have:=HS.out.len b hb;omega
 have HC:=doOutC hc HS HDW hv2 hf2 ho2 hll
 clear hv2 hf2 ho2 hll hca hcb hcc
 go_wp2_with (go_at_call 16;refine HC.out.mono ?_;rintro e w3 ⟨dd,rfl,HE,e0,f0,e1,f1,e2,f2,e3,f3,e4,f4,e5,f5⟩;refine Hid.out ?_)
 refine Lib.hid ?_
 go_wp2
 clear e0 e1 e2 e3 e4 e5 f0 f1 f2 f3 f4 f5
 obtain ⟨w4,hw4,e0,e1,e2,e3,e4,e5,HF⟩:=doSix false 0 HE
 rw [hw4];clear hw4
 simp [bodyPost,results,Tryz.f6,Tryz.results6,go_sem,e0,e1,e2,e3,e4,e5]
 exact HF.out
theorem do_19(a b c fr to n B:Nat)(wd:BitVec 64)(many:Value)(vs:Nat->Value)(ls:Nat->List Bool)(w:World)(ha:a<4)(hb:b<4)(hc:c<4)(hn:n<=2000)(hs:Sets w B vs ls):
  Calls Tryz.prog 6 #[stepV 19 a b c fr to n wd many,.pointer (some ⟨B,0,none⟩)] w (AnsP false 0 w B vs ls c (joinL (ls a) (ls b) (fun x y=>x^^y) (max (ls a).length (ls b).length))):=by
 obtain ⟨la,lb,lc,oa,ca,ob,cb,oc,cc,hlab,hlbb,hlcb,hca,hcb,hcc,hcapa,hB,nB,nB1,nB2,hB1,hB2,HS,HLA,HLB,HLC,EA,EB,EC⟩:=doIn hs ha hb hc
 unfold stepV
 clear hs
 go_enter Tryz.func6,Tryz.ntmps6
 go_wp2
 go_quiet (fail)
 go_wp2_with (go_at_call 21;refine Hid.out ?_)
 refine Lib.hid ?_
 obtain ⟨w1,hw1,HDW,HBA,HBB,HBC⟩:=doMid 19 fr to n nq wd many false 0 ha hb hc HS EA EB EC
 rw [hw1];clear hw1
 have hJ:Calls Tryz.prog 21 #[.slice oa la ca,.slice ob lb cb,tabV (fun x y=>x^^y),.int .i64 (max (la:Int) (lb:Int))] w1 (NewBL w1 (joinL (ls a) (ls b) (fun x y=>x^^y) (max (ls a).length (ls b).length))):=by
  rw [show (max (la:Int) (lb:Int))=(((max (ls a).length (ls b).length):Nat):Int) by have h1:=HLA.out;have h2:=HLB.out;omega]
  exact joined_c _ _ (ls a) (ls b) (fun x y=>x^^y) (max (ls a).length (ls b).length) w1 (HBA.out _ HDW.out.fr_) (HBB.out _ HDW.out.fr_) (by have:=HS.out.len a ha;have:=HS.out.len b hb;omega)
 refine (hJ).mono ?_
 rintro e w2 ⟨v2,rfl,hv2,hf2,ho2⟩
 have hll:(joinL (ls a) (ls b) (fun x y=>x^^y) (max (ls a).length (ls b).length)).length<=6000:=by rw [joinL_length];have:=HS.out.len a ha;have:=HS.out.len b hb;omega
 have HC:=doOutC hc HS HDW hv2 hf2 ho2 hll
 clear hv2 hf2 ho2 hll hca hcb hcc
 go_wp2_with (go_at_call 16;refine HC.out.mono ?_;rintro e w3 ⟨dd,rfl,HE,e0,f0,e1,f1,e2,f2,e3,f3,e4,f4,e5,f5⟩;refine Hid.out ?_)
 refine Lib.hid ?_
 go_wp2
 clear e0 e1 e2 e3 e4 e5 f0 f1 f2 f3 f4 f5
 obtain ⟨w4,hw4,e0,e1,e2,e3,e4,e5,HF⟩:=doSix false 0 HE
 rw [hw4];clear hw4
 simp [bodyPost,results,Tryz.f6,Tryz.results6,go_sem,e0,e1,e2,e3,e4,e5]
 exact HF.out
theorem do_20(a b c fr to n B:Nat)(wd:BitVec 64)(many:Value)(vs:Nat->Value)(ls:Nat->List Bool)(w:World)(ha:a<4)(hb:b<4)(hc:c<4)(hn:n<=2000)(hs:Sets w B vs ls):
  Calls Tryz.prog 6 #[stepV 20 a b c fr to n wd many,.pointer (some ⟨B,0,none⟩)] w (AnsP false 0 w B vs ls c (joinL (ls a) (ls a) (fun x _=>!x) ((ls a).length))):=by
 obtain ⟨la,lb,lc,oa,ca,ob,cb,oc,cc,hlab,hlbb,hlcb,hca,hcb,hcc,hcapa,hB,nB,nB1,nB2,hB1,hB2,HS,HLA,HLB,HLC,EA,EB,EC⟩:=doIn hs ha hb hc
 unfold stepV
 clear hs
 go_enter Tryz.func6,Tryz.ntmps6
 go_wp2
 go_quiet (fail)
 go_wp2_with (go_at_call 21;refine Hid.out ?_)
 refine Lib.hid ?_
 obtain ⟨w1,hw1,HDW,HBA,HBB,HBC⟩:=doMid 20 fr to n nq wd many false 0 ha hb hc HS EA EB EC
 rw [hw1];clear hw1
 have hJ:Calls Tryz.prog 21 #[.slice oa la ca,.slice oa la ca,tabV (fun x _=>!x),.int .i64 ((la:Int))] w1 (NewBL w1 (joinL (ls a) (ls a) (fun x _=>!x) ((ls a).length))):=by
  rw [show ((la:Int))=((((ls a).length):Nat):Int) by have h1:=HLA.out;have h2:=HLB.out;omega]
  exact joined_c _ _ (ls a) (ls a) (fun x _=>!x) ((ls a).length) w1 (HBA.out _ HDW.out.fr_) (HBA.out _ HDW.out.fr_) (by have:=HS.out.len a ha;have:=HS.out.len b hb;omega)
 refine (hJ).mono ?_
 rintro e w2 ⟨v2,rfl,hv2,hf2,ho2⟩
 have hll:(joinL (ls a) (ls a) (fun x _=>!x) ((ls a).length)).length<=6000:=by rw [joinL_length];have:=HS.out.len a ha;have:=HS.out.len b hb;omega
 have HC:=doOutC hc HS HDW hv2 hf2 ho2 hll
 clear hv2 hf2 ho2 hll hca hcb hcc
 go_wp2_with (go_at_call 16;refine HC.out.mono ?_;rintro e w3 ⟨dd,rfl,HE,e0,f0,e1,f1,e2,f2,e3,f3,e4,f4,e5,f5⟩;refine Hid.out ?_)
 refine Lib.hid ?_
 go_wp2
 clear e0 e1 e2 e3 e4 e5 f0 f1 f2 f3 f4 f5
 obtain ⟨w4,hw4,e0,e1,e2,e3,e4,e5,HF⟩:=doSix false 0 HE
 rw [hw4];clear hw4
 simp [bodyPost,results,Tryz.f6,Tryz.results6,go_sem,e0,e1,e2,e3,e4,e5]
 exact HF.out
end Go.Proofs.YtobdfhlmipcjbaaGreatDoor
