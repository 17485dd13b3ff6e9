/- spec.Do: lists of no number. Conditions: places of four, numbers of at most 2,000. -/
import Derived.Test.YtobdfhlmipcjbaaGreatDoorG05
set_option linter.unusedVariables false
set_option linter.unusedSimpArgs false
set_option maxHeartbeats 2000000
set_option maxRecDepth 100000
namespace Go.Proofs.YtobdfhlmipcjbaaGreatDoor
open Go.RowKit
theorem do_10(a b c fr to n B:Nat)(wd:BitVec 64)(many:Value)(vs:Nat->Value)(ls:Nat->List Bool)(w:World)(ha:a<4)(hb:b<4)(hc:c<4)(hn:n<=2000)(hs:Sets w B vs ls):
  Calls Tryz.prog 6 #[stepV 10 a b c fr to n wd many,.pointer (some ⟨B,0,none⟩)] w (AnsP false 0 w B vs ls a (List.replicate ((ls a).length) false)):=by
 obtain ⟨la,lb,lc,oa,ca,ob,cb,oc,cc,hlab,hlbb,hlcb,hca,hcb,hcc,hcapa,hB,nB,nB1,nB2,hB1,hB2,HS,HLA,HLB,HLC,EA,EB,EC⟩:=doIn hs ha hb hc
 unfold stepV
 clear hs
 have hmk:=make25 (la:Int) (la:Int) (by omega) (by omega) (by omega)
 rw [Int.toNat_natCast]at hmk
 go_enter Tryz.func6,Tryz.ntmps6
 go_wp2
 go_quiet (fail)
 go_wp2_with (go_at_call 15;refine Hid.out ?_)
 refine Lib.hid ?_
 obtain ⟨w1,hw1,HDW,HBA,HBB,HBC⟩:=doMid 10 fr to n nq wd many false 0 ha hb hc HS EA EB EC
 rw [hw1];clear hw1
 have hsw1:=HDW.out.size
 obtain ⟨v2,hv2e⟩:∃v2,v2=Value.slice (some ⟨w.heap.size+8,0,none⟩) la la:=⟨_,rfl⟩
 obtain ⟨w2,hw2⟩:∃w2,w2=w1.alloc (.cells (madeCells #[.bool false] la) 4):=⟨_,rfl⟩
 have hv2:BL w2 v2 (List.replicate ((ls a).length) false):=by
  have h:=rowLst (World.rowIs_made w1 (.bool false) la 4) (Nat.le_refl _) (by omega)
  rw [<- hw2,hsw1,<- hv2e]at h
  have e:(List.replicate ((ls a).length) false).map Value.bool=(List.range la).map (fun _=>Value.bool false):=by rw [show (fun _:Nat=>Value.bool false)=Function.const Nat (Value.bool false) from rfl,List.map_const];simp [HLA.out]
  have e2:(List.replicate ((ls a).length) false).length=la:=by simp [HLA.out]
  unfold BL
  rw [e,e2]
  exact h
 have hf2:Fr (fun _=>False) w1 w2:=by rw [hw2];exact (Fr.refl _ w1).alloc _
 have ho2:∀r,v2.ownBlock=some r->w1.heap.size<=r:=by rw [hv2e,hsw1];intro r hr;cases hr;exact Nat.le_refl _
 rw [<- hw2]
 rw [show (Value.slice (some ⟨w.heap.size+1+1+1+1+1+1+1+1,0,none⟩) la la)=v2 from hv2e.symm]
 clear hw2 hv2e hmk
 have hll:(List.replicate ((ls a).length) false).length<=6000:=by rw [List.length_replicate];have:=HLA.out;omega
 have HC:=doOutA ha HS HDW hv2 hf2 ho2 hll
 clear hv2 hf2 ho2 hll hca hcb hcc
 refine HC.out.mono ?_
 rintro e w3 ⟨dd,rfl,HE,e0,f0,e1,f1,e2,f2,e3,f3,e4,f4,e5,f5⟩
 go_wp2
 clear e0 e1 e2 e3 e4 e5 f0 f1 f2 f3 f4 f5
 obtain ⟨w4,hw4,e0,e1,e2,e3,e4,e5,HF⟩:=doSix false 0 HE
 rw [hw4];clear hw4
 simp [bodyPost,results,Tryz.f6,Tryz.results6,go_sem,e0,e1,e2,e3,e4,e5]
 exact HF.out
theorem do_30(a b c fr to n B:Nat)(wd:BitVec 64)(many:Value)(vs:Nat->Value)(ls:Nat->List Bool)(w:World)(ha:a<4)(hb:b<4)(hc:c<4)(hn:n<=2000)(hs:Sets w B vs ls):
  Calls Tryz.prog 6 #[stepV 30 a b c fr to n wd many,.pointer (some ⟨B,0,none⟩)] w (AnsP false 0 w B vs ls c (List.replicate (n) false)):=by
 obtain ⟨la,lb,lc,oa,ca,ob,cb,oc,cc,hlab,hlbb,hlcb,hca,hcb,hcc,hcapa,hB,nB,nB1,nB2,hB1,hB2,HS,HLA,HLB,HLC,EA,EB,EC⟩:=doIn hs ha hb hc
 unfold stepV
 clear hs
 have hmk:=make25 (n:Int) (n:Int) (by omega) (by omega) (by omega)
 rw [Int.toNat_natCast]at hmk
 go_enter Tryz.func6,Tryz.ntmps6
 go_wp2
 go_quiet (fail)
 go_wp2_with (go_at_call 16;refine Hid.out ?_)
 refine Lib.hid ?_
 obtain ⟨w1,hw1,HDW,HBA,HBB,HBC⟩:=doMid 30 fr to n nq wd many false 0 ha hb hc HS EA EB EC
 rw [hw1];clear hw1
 have hsw1:=HDW.out.size
 obtain ⟨v2,hv2e⟩:∃v2,v2=Value.slice (some ⟨w.heap.size+8,0,none⟩) n n:=⟨_,rfl⟩
 obtain ⟨w2,hw2⟩:∃w2,w2=w1.alloc (.cells (madeCells #[.bool false] n) 4):=⟨_,rfl⟩
 have hv2:BL w2 v2 (List.replicate (n) false):=by
  have h:=rowLst (World.rowIs_made w1 (.bool false) n 4) (Nat.le_refl _) (by omega)
  rw [<- hw2,hsw1,<- hv2e]at h
  have e:(List.replicate (n) false).map Value.bool=(List.range n).map (fun _=>Value.bool false):=by rw [show (fun _:Nat=>Value.bool false)=Function.const Nat (Value.bool false) from rfl,List.map_const];simp [HLA.out]
  have e2:(List.replicate (n) false).length=n:=by simp [HLA.out]
  unfold BL
  rw [e,e2]
  exact h
 have hf2:Fr (fun _=>False) w1 w2:=by rw [hw2];exact (Fr.refl _ w1).alloc _
 have ho2:∀r,v2.ownBlock=some r->w1.heap.size<=r:=by rw [hv2e,hsw1];intro r hr;cases hr;exact Nat.le_refl _
 rw [<- hw2]
 rw [show (Value.slice (some ⟨w.heap.size+1+1+1+1+1+1+1+1,0,none⟩) n n)=v2 from hv2e.symm]
 clear hw2 hv2e hmk
 have hll:(List.replicate (n) false).length<=6000:=by simp;omega
 have HC:=doOutC hc HS HDW hv2 hf2 ho2 hll
 clear hv2 hf2 ho2 hll hca hcb hcc
 refine HC.out.mono ?_
 rintro e w3 ⟨dd,rfl,HE,e0,f0,e1,f1,e2,f2,e3,f3,e4,f4,e5,f5⟩
 go_wp2
 clear e0 e1 e2 e3 e4 e5 f0 f1 f2 f3 f4 f5
 obtain ⟨w4,hw4,e0,e1,e2,e3,e4,e5,HF⟩:=doSix false 0 HE
 rw [hw4];clear hw4
 simp [bodyPost,results,Tryz.f6,Tryz.results6,go_sem,e0,e1,e2,e3,e4,e5]
 exact HF.out
end Go.Proofs.YtobdfhlmipcjbaaGreatDoor
