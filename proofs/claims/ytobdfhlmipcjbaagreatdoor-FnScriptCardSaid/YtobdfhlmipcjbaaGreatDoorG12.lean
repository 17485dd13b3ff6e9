/- spec.Do: steps that change nothing. Conditions: places of four, numbers of at most 2,000. -/
import Derived.Test.YtobdfhlmipcjbaaGreatDoorG05
set_option linter.unusedVariables false
set_option linter.unusedSimpArgs false
set_option maxHeartbeats 2000000
set_option maxRecDepth 100000
namespace Go.Proofs.YtobdfhlmipcjbaaGreatDoor
open Go.RowKit
theorem do_8n(a b c fr to n B:Nat)(wd:BitVec 64)(many:Value)(vs:Nat->Value)(ls:Nat->List Bool)(w:World)(ha:a<4)(hb:b<4)(hc:c<4)(hn:n<=2000)(hge:(ls a).length<=n+1)(hs:Sets w B vs ls):
  Calls Tryz.prog 6 #[stepV 8 a b c fr to n wd many,.pointer (some ⟨B,0,none⟩)] w (fun e w'=>e= .returned (.tuple #[ansV false 0 0 ByteArray.empty (.slice none 0 0) (.slice none 0 0),.bool false])/\Fr (fun _=>False) w w'):=by
 obtain ⟨la,lb,lc,oa,ca,ob,cb,oc,cc,hlab,hlbb,hlcb,hca,hcb,hcc,hcapa,hB,nB,nB1,nB2,hB1,hB2,HS,HLA,HLB,HLC,EA,EB,EC⟩:=doIn hs ha hb hc
 unfold stepV
 clear hs
 have hge2:(la:Int)<=(n:Int)+1:=by have:=HLA.out;omega
 have hge3:decide ((la:Int)<=(n:Int)+1)=true:=by simpa using hge2
 go_enter Tryz.func6,Tryz.ntmps6
 go_wp2
 go_quiet (fail)
 go_wp2
 simp [bodyPost,results,Tryz.f6,Tryz.results6,go_sem]
 refine ⟨rfl,?_⟩
 have hw:w.heap.size<=w.heap.size+1+1:=by omega
 exact (((((((((((((((Fr.refl _ w).alloc _).alloc _).alloc _).drewN _).setCell (.inr hw) _).setCell (.inr hw) _).setCell (.inr hw) _).setCell (.inr hw) _).setCell (.inr hw) _).setCell (.inr hw) _).alloc _).alloc _).alloc _).alloc _).alloc _
theorem do_6n(a b c fr to n B:Nat)(wd:BitVec 64)(many:Value)(vs:Nat->Value)(ls:Nat->List Bool)(w:World)(ha:a<4)(hb:b<4)(hc:c<4)(hn:n<=2000)(hge:(ls a).length<=n)(hs:Sets w B vs ls):
  Calls Tryz.prog 6 #[stepV 6 a b c fr to n wd many,.pointer (some ⟨B,0,none⟩)] w (fun e w'=>e= .returned (.tuple #[ansV false 0 0 ByteArray.empty (.slice none 0 0) (.slice none 0 0),.bool false])/\Fr (fun _=>False) w w'):=by
 obtain ⟨la,lb,lc,oa,ca,ob,cb,oc,cc,hlab,hlbb,hlcb,hca,hcb,hcc,hcapa,hB,nB,nB1,nB2,hB1,hB2,HS,HLA,HLB,HLC,EA,EB,EC⟩:=doIn hs ha hb hc
 unfold stepV
 clear hs
 have hge2:(la:Int)<=(n:Int):=by have:=HLA.out;omega
 have hge3:decide ((la:Int)<=(n:Int))=true:=by simpa using hge2
 go_enter Tryz.func6,Tryz.ntmps6
 go_wp2
 go_quiet (fail)
 go_wp2
 simp [bodyPost,results,Tryz.f6,Tryz.results6,go_sem]
 refine ⟨rfl,?_⟩
 have hw:w.heap.size<=w.heap.size+1+1:=by omega
 exact (((((((((((((((Fr.refl _ w).alloc _).alloc _).alloc _).drewN _).setCell (.inr hw) _).setCell (.inr hw) _).setCell (.inr hw) _).setCell (.inr hw) _).setCell (.inr hw) _).setCell (.inr hw) _).alloc _).alloc _).alloc _).alloc _).alloc _
theorem do_7n(a b c fr to n B:Nat)(wd:BitVec 64)(many:Value)(vs:Nat->Value)(ls:Nat->List Bool)(w:World)(ha:a<4)(hb:b<4)(hc:c<4)(hn:n<=2000)(hge:(ls a).length<=n)(hs:Sets w B vs ls):
  Calls Tryz.prog 6 #[stepV 7 a b c fr to n wd many,.pointer (some ⟨B,0,none⟩)] w (fun e w'=>e= .returned (.tuple #[ansV false 0 0 ByteArray.empty (.slice none 0 0) (.slice none 0 0),.bool false])/\Fr (fun _=>False) w w'):=by
 obtain ⟨la,lb,lc,oa,ca,ob,cb,oc,cc,hlab,hlbb,hlcb,hca,hcb,hcc,hcapa,hB,nB,nB1,nB2,hB1,hB2,HS,HLA,HLB,HLC,EA,EB,EC⟩:=doIn hs ha hb hc
 unfold stepV
 clear hs
 have hge2:(la:Int)<=(n:Int):=by have:=HLA.out;omega
 have hge3:decide ((la:Int)<=(n:Int))=true:=by simpa using hge2
 go_enter Tryz.func6,Tryz.ntmps6
 go_wp2
 go_quiet (fail)
 go_wp2
 simp [bodyPost,results,Tryz.f6,Tryz.results6,go_sem]
 refine ⟨rfl,?_⟩
 have hw:w.heap.size<=w.heap.size+1+1:=by omega
 exact (((((((((((((((Fr.refl _ w).alloc _).alloc _).alloc _).drewN _).setCell (.inr hw) _).setCell (.inr hw) _).setCell (.inr hw) _).setCell (.inr hw) _).setCell (.inr hw) _).setCell (.inr hw) _).alloc _).alloc _).alloc _).alloc _).alloc _
theorem do_4n(a b c fr to n B:Nat)(wd:BitVec 64)(many:Value)(vs:Nat->Value)(ls:Nat->List Bool)(w:World)(ha:a<4)(hb:b<4)(hc:c<4)(hn:n<=2000)(hge:to<=fr)(hs:Sets w B vs ls):
  Calls Tryz.prog 6 #[stepV 4 a b c fr to n wd many,.pointer (some ⟨B,0,none⟩)] w (fun e w'=>e= .returned (.tuple #[ansV false 0 0 ByteArray.empty (.slice none 0 0) (.slice none 0 0),.bool true])/\Fr (fun _=>False) w w'):=by
 obtain ⟨la,lb,lc,oa,ca,ob,cb,oc,cc,hlab,hlbb,hlcb,hca,hcb,hcc,hcapa,hB,nB,nB1,nB2,hB1,hB2,HS,HLA,HLB,HLC,EA,EB,EC⟩:=doIn hs ha hb hc
 unfold stepV
 clear hs
 have hge2:(to:Int)<=(fr:Int):=by omega
 have hge3:decide ((to:Int)<=(fr:Int))=true:=by simpa using hge2
 go_enter Tryz.func6,Tryz.ntmps6
 go_wp2
 go_quiet (fail)
 go_wp2
 simp [bodyPost,results,Tryz.f6,Tryz.results6,go_sem]
 refine ⟨rfl,?_⟩
 have hw:w.heap.size<=w.heap.size+1+1:=by omega
 exact (((((((((((((((Fr.refl _ w).alloc _).alloc _).alloc _).drewN _).setCell (.inr hw) _).setCell (.inr hw) _).setCell (.inr hw) _).setCell (.inr hw) _).setCell (.inr hw) _).setCell (.inr hw) _).alloc _).alloc _).alloc _).alloc _).alloc _
theorem do_5n(a b c fr to n B:Nat)(wd:BitVec 64)(many:Value)(vs:Nat->Value)(ls:Nat->List Bool)(w:World)(ha:a<4)(hb:b<4)(hc:c<4)(hn:n<=2000)(hge:to<=fr)(hs:Sets w B vs ls):
  Calls Tryz.prog 6 #[stepV 5 a b c fr to n wd many,.pointer (some ⟨B,0,none⟩)] w (fun e w'=>e= .returned (.tuple #[ansV false 0 0 ByteArray.empty (.slice none 0 0) (.slice none 0 0),.bool true])/\Fr (fun _=>False) w w'):=by
 obtain ⟨la,lb,lc,oa,ca,ob,cb,oc,cc,hlab,hlbb,hlcb,hca,hcb,hcc,hcapa,hB,nB,nB1,nB2,hB1,hB2,HS,HLA,HLB,HLC,EA,EB,EC⟩:=doIn hs ha hb hc
 unfold stepV
 clear hs
 have hge2:(to:Int)<=(fr:Int):=by omega
 have hge3:decide ((to:Int)<=(fr:Int))=true:=by simpa using hge2
 go_enter Tryz.func6,Tryz.ntmps6
 go_wp2
 go_quiet (fail)
 go_wp2
 simp [bodyPost,results,Tryz.f6,Tryz.results6,go_sem]
 refine ⟨rfl,?_⟩
 have hw:w.heap.size<=w.heap.size+1+1:=by omega
 exact (((((((((((((((Fr.refl _ w).alloc _).alloc _).alloc _).drewN _).setCell (.inr hw) _).setCell (.inr hw) _).setCell (.inr hw) _).setCell (.inr hw) _).setCell (.inr hw) _).setCell (.inr hw) _).alloc _).alloc _).alloc _).alloc _).alloc _
end Go.Proofs.YtobdfhlmipcjbaaGreatDoor
