/- spec.Do: places put in and left out. Conditions: places of four, numbers of at most 2,000. -/
import Derived.Deep.RegionHeld3
import Derived.IntWalk
import Derived.Test.YtobdfhlmipcjbaaGreatDoorG05
set_option linter.unusedVariables false
set_option linter.unusedSimpArgs false
set_option maxHeartbeats 2000000
set_option maxRecDepth 100000
namespace Go.Proofs.YtobdfhlmipcjbaaGreatDoor
open Go.RowKit
theorem do_7(a b c fr to n B:Nat)(wd:BitVec 64)(many:Value)(vs:Nat->Value)(ls:Nat->List Bool)(w:World)(ha:a<4)(hb:b<4)(hc:c<4)(hn:n<=2000)(hlt:n<(ls a).length)(hs:Sets w B vs ls):
  Calls Tryz.prog 6 #[stepV 7 a b c fr to n wd many,.pointer (some ⟨B,0,none⟩)] w (AnsP false 0 w B vs ls a ((ls a).take n++(ls a).drop (n+1))):=by
 obtain ⟨la,lb,lc,oa,ca,ob,cb,oc,cc,hlab,hlbb,hlcb,hca,hcb,hcc,hcapa,hB,nB,nB1,nB2,hB1,hB2,HS,HLA,HLB,HLC,EA,EB,EC⟩:=doIn hs ha hb hc
 unfold stepV
 clear hs
 have hlt2:n<la:=by have:=HLA.out;omega
 have hge:decide ((la:Int)<=(n:Int))=false:=by simp;omega
 have hb1:(0:Int)<=(n:Int)/\(n:Int)<=ca:=by omega
 have hb2:(0:Int)<=(n:Int)+1/\(n:Int)+1<=la:=by omega
 have hb3:((n:Int)+1).toNat=n+1:=by omega
 obtain ⟨s,rfl⟩:∃s,oa=some ⟨s,0,none⟩:=by
  obtain ⟨s,cx,e,_⟩:=(HS.out.at_ a ha).at hlt
  rw [EA.out]at e
  cases e
  exact ⟨s,rfl⟩
 go_enter Tryz.func6,Tryz.ntmps6
 go_wp2
 go_quiet (fail)
 go_wp2
 obtain ⟨w1,hw1,HDW,HBA,HBB,HBC⟩:=doMid 7 fr to n nq wd many false 0 ha hb hc HS EA EB EC
 rw [hw1];clear hw1
 have q6:=hp_cell HDW.out.p0 6 (v:= .int .i64 (n:Int)) rfl
 have l0:=hp_lt HDW.out.p0
 have K6:∀w',Fr (fun _=>False) w1 w'->w'.cell? ⟨w.heap.size,6,none⟩=some (.int .i64 (n:Int)):=fun w' h=>(h.cell (a:=⟨w.heap.size,6,none⟩) l0 (fun h=>h)).trans q6
 have HK6:=Lib.hid K6;clear K6
 clear hca hcb hcc
 obtain ⟨i0,hi0,hz0,hz1,hz2⟩:=info_parts info4
 have S1:Hid (∀w',Fr (fun _=>False) w w'->Src w' 1 (.slice (some ⟨s,0,none⟩) n ca) n (((ls a).take n).map Value.bool)):=fun w' h=>by
  have hb:=HBA.out w' h
  rw [BL,<- HLA.out]at hb
  rw [List.map_take];exact hb.src.take n (by omega)
 have L1:=Lib.hid (show ((ls a).take n++(ls a).drop (n+1)).length=n+(la-(n+1)) by have:=HLA.out;rw [List.length_append,List.length_take,List.length_drop];omega)
 have HLL:=Lib.hid (show ((ls a).take n++(ls a).drop (n+1)).length<=6000 by have h:=L1.out;omega)
 have S2:Hid (∀w',Fr (fun _=>False) w w'->Src w' 1 (.slice (some ⟨s,n+1,none⟩) (la-(n+1)) (ca-(n+1))) (la-(n+1)) (((ls a).drop (n+1)).map Value.bool)):=fun w' h=>by
  have hb:=HBA.out w' h
  rw [BL,<- HLA.out]at hb
  rw [List.map_drop]
  exact hb.rest (n+1) _ (by omega)
 have HB3:Hid (∀w' v' m,m=la-(n+1)->Lst w' 4 1 v' (0+n+m) ([]++((ls a).take n).map Value.bool++((ls a).drop (n+1)).map Value.bool)->BL w' v' ((ls a).take n++(ls a).drop (n+1))):=fun w' v' m hm h=>by
  unfold BL
  rw [L1.out,List.map_append]
  subst hm
  simpa using h
 by_cases hcn:ca=n+1
 ·have hn1:0+n+0<=1000000:=by omega
  obtain rfl:la=ca:=by omega
  have hdr:Hid (((ls a).drop (n+1)).map Value.bool= []):=by have:=HLA.out;rw [List.drop_of_length_le (by omega)];rfl
  have S2':Hid (∀w',Src w' 1 (.slice (some ⟨s,0,none⟩) 0 0) 0 (((ls a).drop (n+1)).map Value.bool)):=fun w'=>by rw [hdr.out];exact Src.none _ _ _
  have hb5:((n:Int)+1).toNat=la:=by omega
  have HLA1:=Lib.hid hcn
  clear S2 hcn hb3
  have hb4:IntKind.i64.wrap ((n:Int)+1)=(n:Int)+1:=IntWalk.i64_in _ (by omega)
  go_region_held3 (fun w'=>w'.cell? ⟨w.heap.size,6,none⟩=some (.int .i64 (n:Int)))
   (first|(with_reducible exact HK6.out _ hf3)|(with_reducible exact HK6.out _ hf2)|(with_reducible exact hk5)|(have hk:=hk5;exact six_keep hk)|go_keep)
   (first
    |((refine step_app 25 4 i0 _ 1 1 Tryz.underlying25 hi0 hz0 hz1 hz2 (by rfl) (by omega) (by omega) (.tmp 194) (.tmp 198) (by rfl) (by rfl) w1 _ (.slice (some ⟨w1.heap.size,0,none⟩) 0 0) 0 [] (Lst.empty w1 4) ((Fr.refl _ w1).alloc _).drew (by simp [Value.ownBlock]) _ n _ (S1.out _ (HDW.out.fr_.trans ((Fr.refl _ w1).alloc _).drew)) (oneBool _) (by omega) (by rfl) (by rfl) ?_;intro v2 w2 hv2 hf2 ho2 hg2))
    |((refine step_app 25 4 i0 _ 1 1 Tryz.underlying25 hi0 hz0 hz1 hz2 (by rfl) (by omega) (by omega) (.tmp 199) (.tmp 204) (by rfl) (by rfl) w1 _ v2 _ _ hv2 hf2 ho2 _ _ _ (S2'.out _) (oneBool _) (by omega) (by rfl) (by rfl) ?_;intro v3 w3 hv3 hf3 ho3 hg3))
    |(go_at_call 15;refine (doOutK ha HS HDW (HB3.out _ _ _ (by have:=HLA1.out;omega) hv3) hf3 ho3 HLL.out).out.mono ?_;rintro e w4 ⟨⟨dd,rfl,HE,e0,f0,e1,f1,e2,f2,e3,f3,e4,f4,e5,f5⟩,hk4⟩;have hk5:=hp_cell (hk4.trans HDW.out.p0) 6 (v:= .int .i64 (n:Int)) rfl))
  go_wp2
  clear e0 e1 e2 e3 e4 e5 f0 f1 f2 f3 f4 f5
  obtain ⟨w4,hw4,e0,e1,e2,e3,e4,e5,HF⟩:=doSix false 0 HE
  rw [hw4];clear hw4
  simp [bodyPost,results,Tryz.f6,Tryz.results6,go_sem,e0,e1,e2,e3,e4,e5]
  exact HF.out
 ·have hb4:IntKind.i64.wrap ((n:Int)+1)=(n:Int)+1:=IntWalk.i64_in _ (by omega)
  go_region_held3 (fun w'=>w'.cell? ⟨w.heap.size,6,none⟩=some (.int .i64 (n:Int)))
   (first|(with_reducible exact HK6.out _ hf3)|(with_reducible exact HK6.out _ hf2)|(with_reducible exact hk5)|(have hk:=hk5;exact six_keep hk)|go_keep)
   (first
    |((refine step_app 25 4 i0 _ 1 1 Tryz.underlying25 hi0 hz0 hz1 hz2 (by rfl) (by omega) (by omega) (.tmp 194) (.tmp 198) (by rfl) (by rfl) w1 _ (.slice (some ⟨w1.heap.size,0,none⟩) 0 0) 0 [] (Lst.empty w1 4) ((Fr.refl _ w1).alloc _).drew (by simp [Value.ownBlock]) _ n _ (S1.out _ (HDW.out.fr_.trans ((Fr.refl _ w1).alloc _).drew)) (oneBool _) (by omega) (by rfl) (by rfl) ?_;intro v2 w2 hv2 hf2 ho2 hg2))
    |((refine step_app 25 4 i0 _ 1 1 Tryz.underlying25 hi0 hz0 hz1 hz2 (by rfl) (by omega) (by omega) (.tmp 199) (.tmp 204) (by rfl) (by rfl) w1 _ v2 _ _ hv2 hf2 ho2 _ _ _ (S2.out _ (HDW.out.fr_.trans hf2)) (oneBool _) (by omega) (by rfl) (by rfl) ?_;intro v3 w3 hv3 hf3 ho3 hg3))
    |(go_at_call 15;refine (doOutK ha HS HDW (HB3.out _ _ _ rfl hv3) hf3 ho3 HLL.out).out.mono ?_;rintro e w4 ⟨⟨dd,rfl,HE,e0,f0,e1,f1,e2,f2,e3,f3,e4,f4,e5,f5⟩,hk4⟩;have hk5:=hp_cell (hk4.trans HDW.out.p0) 6 (v:= .int .i64 (n:Int)) rfl))
  go_wp2
  clear e0 e1 e2 e3 e4 e5 f0 f1 f2 f3 f4 f5
  obtain ⟨w4,hw4,e0,e1,e2,e3,e4,e5,HF⟩:=doSix false 0 HE
  rw [hw4];clear hw4
  simp [bodyPost,results,Tryz.f6,Tryz.results6,go_sem,e0,e1,e2,e3,e4,e5]
  exact HF.out
end Go.Proofs.YtobdfhlmipcjbaaGreatDoor
