/- spec.Do: a place put in. Conditions: places of four, numbers of at most 2,000. spec.Do: a number turned. Conditions: places of four, numbers of at most 2,000. -/
import Derived.Deep.RegionHeld3
import Derived.IntWalk
import Derived.Test.YtobdfhlmipcjbaaGreatDoorG05
set_option linter.unusedVariables false
set_option linter.unusedSimpArgs false
set_option maxHeartbeats 2000000
set_option maxRecDepth 100000
namespace Go.Proofs.YtobdfhlmipcjbaaGreatDoor
open Go.RowKit
theorem do_6(a b c fr to n B:Nat)(wd:BitVec 64)(many:Value)(vs:Nat->Value)(ls:Nat->List Bool)(w:World)(ha:a<4)(hb:b<4)(hc:c<4)(hn:n<=2000)(hlt:n<(ls a).length)(h3:(ls a).length<=3000)(hs:Sets w B vs ls):
  Calls Tryz.prog 6 #[stepV 6 a b c fr to n wd many,.pointer (some ⟨B,0,none⟩)] w (AnsP false 0 w B vs ls a ((ls a).take n++false::(ls a).drop n)):=by
 obtain ⟨la,lb,lc,oa,ca,ob,cb,oc,cc,hlab,hlbb,hlcb,hca,hcb,hcc,hcapa,hB,nB,nB1,nB2,hB1,hB2,HS,HLA,HLB,HLC,EA,EB,EC⟩:=doIn hs ha hb hc
 unfold stepV
 clear hs
 have hlt2:n<la:=by have:=HLA.out;omega
 have hge:decide ((la:Int)<=(n:Int))=false:=by simp;omega
 have hb1:(0:Int)<=(n:Int)/\(n:Int)<=ca:=by omega
 have hb2:(0:Int)<=(n:Int)/\(n:Int)<=la:=by omega
 have hb3:¬ca=n:=by omega
 obtain ⟨s,rfl⟩:∃s,oa=some ⟨s,0,none⟩:=by
  obtain ⟨s,cx,e,_⟩:=(HS.out.at_ a ha).at hlt
  rw [EA.out]at e
  cases e
  exact ⟨s,rfl⟩
 go_enter Tryz.func6,Tryz.ntmps6
 go_wp2
 go_quiet (fail)
 go_wp2
 obtain ⟨w1,hw1,HDW,HBA,HBB,HBC⟩:=doMid 6 fr to n nq wd many false 0 ha hb hc HS EA EB EC
 rw [hw1];clear hw1
 have q6:=hp_cell HDW.out.p0 6 (v:= .int .i64 (n:Int)) rfl
 have l0:=hp_lt HDW.out.p0
 have K6:∀w',Fr (fun _=>False) w1 w'->w'.cell? ⟨w.heap.size,6,none⟩=some (.int .i64 (n:Int)):=fun w' h=>(h.cell (a:=⟨w.heap.size,6,none⟩) l0 (fun h=>h)).trans q6
 have HK6:=Lib.hid K6;clear K6
 clear hca hcb hcc
 obtain ⟨i0,hi0,hz0,hz1,hz2⟩:=info_parts info4
 have S1:Hid (∀w',Fr (fun _=>False) w w'->Src w' 1 (.slice (some ⟨s,0,none⟩) n ca) n (((ls a).take n).map Value.bool)):=fun w' h=>by
  have hb:=HBA.out w' h
  rw [BL,<- HLA.out]at hb
  rw [List.map_take];exact hb.src.take n (by omega)
 have L1:=Lib.hid (show ((ls a).take n++false::(ls a).drop n).length=n+1+(la-n) by have:=HLA.out;rw [List.length_append,List.length_cons,List.length_take,List.length_drop];omega)
 have HLL:=Lib.hid (show ((ls a).take n++false::(ls a).drop n).length<=6000 by have h:=L1.out;have h2:=HLA.out;omega)
 have S2:Hid (∀w',Fr (fun _=>False) w w'->Src w' 1 (.slice (some ⟨s,n,none⟩) (la-n) (ca-n)) (la-n) (((ls a).drop n).map Value.bool)):=fun w' h=>by
  have hb:=HBA.out w' h
  rw [BL,<- HLA.out]at hb
  rw [List.map_drop]
  exact hb.rest n _ (by omega)
 have HB3:Hid (∀w' v',Lst w' 4 1 v' (0+n+1+(la-n)) ([]++((ls a).take n).map Value.bool++ [.bool false]++((ls a).drop n).map Value.bool)->BL w' v' ((ls a).take n++false::(ls a).drop n)):=fun w' v' h=>by
  unfold BL
  rw [L1.out,List.map_append,List.map_cons]
  simpa using h
 have E1:=Lib.hid (Lst.empty w1 4)
 have E2:=Lib.hid ((Lst.empty w1 4).drew.alloc (.cells #[.bool false] 4))
 have E3:Hid (Lst ((w1.alloc (.cells #[.bool false] 4)).drew.alloc (.cells #[] 4)) 4 1 (.slice (some ⟨w1.heap.size+1,0,none⟩) 0 0) 0 []):=by
  have h:=Lst.empty (w1.alloc (.cells #[.bool false] 4)).drew 4
  rw [show (w1.alloc (.cells #[.bool false] 4)).drew.heap.size=w1.heap.size+1 from World.size_alloc _ _]at h;exact h
 have G2:Hid (Src ((w1.alloc (.cells #[] 4)).drew.alloc (.cells #[.bool false] 4)) 1 (.slice (some ⟨w1.heap.size+1,0,none⟩) 1 1) 1 [.bool false]):=by
  have h:=src_one (w1.alloc (.cells #[] 4)).drew (.bool false) 4
  rw [show (w1.alloc (.cells #[] 4)).drew.heap.size=w1.heap.size+1 from World.size_alloc _ _]at h;exact h
 have G3:=Lib.hid ((src_one w1 (.bool false) 4).drew.alloc (.cells #[] 4))
 go_region_held3 (fun w'=>w'.cell? ⟨w.heap.size,6,none⟩=some (.int .i64 (n:Int)))
  (first|(with_reducible exact HK6.out _ hf4)|(with_reducible exact HK6.out _ hf3)|(with_reducible exact HK6.out _ hf2)|go_keep)
  (first
   |((refine step_app 25 4 i0 _ 1 1 Tryz.underlying25 hi0 hz0 hz1 hz2 (by rfl) (by omega) (by omega) (.tmp 167) (.tmp 171) (by rfl) (by rfl) w1 _ (.slice (some ⟨w1.heap.size,0,none⟩) 0 0) 0 [] (by first|exact E1.out|exact (E1.out).drew|exact (E1.out).drew.drew) (by repeat (first|exact Fr.refl _ _|apply Fr.drew|apply Fr.alloc)) (by simp [Value.ownBlock]) (.slice (some ⟨s,0,none⟩) n ca) n (((ls a).take n).map Value.bool) (S1.out _ (HDW.out.fr_.trans (by repeat (first|exact Fr.refl _ _|apply Fr.drew|apply Fr.alloc)))) (oneBool _) (by omega) (by rfl) (by rfl) ?_;intro v2 w2 hv2 hf2 ho2 hg2))
   |((refine step_app 25 4 i0 _ 1 1 Tryz.underlying25 hi0 hz0 hz1 hz2 (by rfl) (by omega) (by omega) (.tmp 167) (.tmp 171) (by rfl) (by rfl) w1 _ (.slice (some ⟨w1.heap.size,0,none⟩) 0 0) 0 [] (by first|exact E2.out|exact (E2.out).drew|exact (E2.out).drew.drew) (by repeat (first|exact Fr.refl _ _|apply Fr.drew|apply Fr.alloc)) (by simp [Value.ownBlock]) (.slice (some ⟨s,0,none⟩) n ca) n (((ls a).take n).map Value.bool) (S1.out _ (HDW.out.fr_.trans (by repeat (first|exact Fr.refl _ _|apply Fr.drew|apply Fr.alloc)))) (oneBool _) (by omega) (by rfl) (by rfl) ?_;intro v2 w2 hv2 hf2 ho2 hg2))
   |((refine step_app 25 4 i0 _ 1 1 Tryz.underlying25 hi0 hz0 hz1 hz2 (by rfl) (by omega) (by omega) (.tmp 167) (.tmp 171) (by rfl) (by rfl) w1 _ (.slice (some ⟨w1.heap.size+1,0,none⟩) 0 0) 0 [] (by first|exact E3.out|exact (E3.out).drew|exact (E3.out).drew.drew) (by repeat (first|exact Fr.refl _ _|apply Fr.drew|apply Fr.alloc)) (by simp [Value.ownBlock]) (.slice (some ⟨s,0,none⟩) n ca) n (((ls a).take n).map Value.bool) (S1.out _ (HDW.out.fr_.trans (by repeat (first|exact Fr.refl _ _|apply Fr.drew|apply Fr.alloc)))) (oneBool _) (by omega) (by rfl) (by rfl) ?_;intro v2 w2 hv2 hf2 ho2 hg2))
   |((refine step_app 25 4 i0 _ 1 1 Tryz.underlying25 hi0 hz0 hz1 hz2 (by rfl) (by omega) (by omega) (.tmp 172) (.tmp 173) (by rfl) (by rfl) w1 _ v2 (0+n) ([]++((ls a).take n).map Value.bool) (by first|exact hv2.alloc _|exact (hv2.alloc _).drew|exact (hv2.alloc _).drew.drew) (by first|exact hf2.alloc _|exact (hf2.alloc _).drew|exact (hf2.alloc _).drew.drew) ho2 (.slice (some ⟨w2.heap.size,0,none⟩) 1 1) 1 [.bool false] (by first|exact src_one w2 (.bool false) 4|exact (src_one w2 (.bool false) 4).drew|exact (src_one w2 (.bool false) 4).drew.drew) (by simp [Value.oneCell']) (by omega) (by rfl) (by rfl) ?_;intro v3 w3 hv3 hf3 ho3 hg3))
   |((refine step_app 25 4 i0 _ 1 1 Tryz.underlying25 hi0 hz0 hz1 hz2 (by rfl) (by omega) (by omega) (.tmp 172) (.tmp 173) (by rfl) (by rfl) w1 _ v2 (0+n) ([]++((ls a).take n).map Value.bool) (by first|exact hv2|exact (hv2).drew|exact (hv2).drew.drew) (by first|exact hf2|exact (hf2).drew|exact (hf2).drew.drew) ho2 (.slice (some ⟨w1.heap.size+1,0,none⟩) 1 1) 1 [.bool false] (by first|exact G2.out.keep hg2 (by simp [Value.ownBlock])|exact G2.out.drew.keep hg2 (by simp [Value.ownBlock])|exact (G2.out.keep hg2 (by simp [Value.ownBlock])).drew) (by simp [Value.oneCell']) (by omega) (by rfl) (by rfl) ?_;intro v3 w3 hv3 hf3 ho3 hg3))
   |((refine step_app 25 4 i0 _ 1 1 Tryz.underlying25 hi0 hz0 hz1 hz2 (by rfl) (by omega) (by omega) (.tmp 172) (.tmp 173) (by rfl) (by rfl) w1 _ v2 (0+n) ([]++((ls a).take n).map Value.bool) (by first|exact hv2|exact (hv2).drew|exact (hv2).drew.drew) (by first|exact hf2|exact (hf2).drew|exact (hf2).drew.drew) ho2 (.slice (some ⟨w1.heap.size,0,none⟩) 1 1) 1 [.bool false] (by first|exact G3.out.keep hg2 (by simp [Value.ownBlock])|exact G3.out.drew.keep hg2 (by simp [Value.ownBlock])|exact (G3.out.keep hg2 (by simp [Value.ownBlock])).drew) (by simp [Value.oneCell']) (by omega) (by rfl) (by rfl) ?_;intro v3 w3 hv3 hf3 ho3 hg3))
   |((refine step_app 25 4 i0 _ 1 1 Tryz.underlying25 hi0 hz0 hz1 hz2 (by rfl) (by omega) (by omega) (.tmp 174) (.tmp 178) (by rfl) (by rfl) w1 _ v3 (0+n+1) ([]++((ls a).take n).map Value.bool++ [.bool false]) (by first|exact hv3|exact (hv3).drew|exact (hv3).drew.drew) (by first|exact hf3|exact (hf3).drew|exact (hf3).drew.drew) ho3 (.slice (some ⟨s,n,none⟩) (la-n) (ca-n)) (la-n) (((ls a).drop n).map Value.bool) (S2.out _ (HDW.out.fr_.trans (by first|exact hf3|exact (hf3).drew|exact (hf3).drew.drew))) (oneBool _) (by omega) (by rfl) (by rfl) ?_;intro v4 w4 hv4 hf4 ho4 hg4))
   |fail)
 all_goals
  have HC:=doOutA ha HS HDW (HB3.out _ _ hv4) hf4 ho4 HLL.out
  clear hv4 hf4 ho4 hg4 hv3 hf3 ho3 hg3 hv2 hf2 ho2 hg2
  go_wp2_with (go_at_call 15;refine HC.out.mono ?_;rintro e w3 ⟨dd,rfl,HE,e0,f0,e1,f1,e2,f2,e3,f3,e4,f4,e5,f5⟩;refine Hid.out ?_)
  refine Lib.hid ?_
  go_wp2
  clear e0 e1 e2 e3 e4 e5 f0 f1 f2 f3 f4 f5
  obtain ⟨w4,hw4,e0,e1,e2,e3,e4,e5,HF⟩:=doSix false 0 HE
  rw [hw4];clear hw4
  simp [bodyPost,results,Tryz.f6,Tryz.results6,go_sem,e0,e1,e2,e3,e4,e5]
  exact HF.out
theorem do_3(a b c fr to n B:Nat)(wd:BitVec 64)(many:Value)(vs:Nat->Value)(ls:Nat->List Bool)(w:World)(ha:a<4)(hb:b<4)(hc:c<4)(hn:n<=2000)(h3:(ls a).length<=3000)(hs:Sets w B vs ls):
  Calls Tryz.prog 6 #[stepV 3 a b c fr to n wd many,.pointer (some ⟨B,0,none⟩)] w (AnsP false 0 w B vs ls a (longL (putL (ls a) n (!mOf (ls a) n)) (n+1))):=by
 obtain ⟨la,lb,lc,oa,ca,ob,cb,oc,cc,hlab,hlbb,hlcb,hca,hcb,hcc,hcapa,hB,nB,nB1,nB2,hB1,hB2,HS,HLA,HLB,HLC,EA,EB,EC⟩:=doIn hs ha hb hc
 unfold stepV
 clear hs
 go_enter Tryz.func6,Tryz.ntmps6
 go_wp2
 go_quiet (fail)
 go_wp2
 obtain ⟨w1,hw1,HDW,HBA,HBB,HBC⟩:=doMid 3 fr to n nq wd many false 0 ha hb hc HS EA EB EC
 rw [hw1];clear hw1
 have q6:=hp_cell HDW.out.p0 6 (v:= .int .i64 (n:Int)) rfl
 have l0:=hp_lt HDW.out.p0
 have K6:∀w',Fr (fun _=>False) w1 w'->w'.cell? ⟨w.heap.size,6,none⟩=some (.int .i64 (n:Int)):=fun w' h=>(h.cell (a:=⟨w.heap.size,6,none⟩) l0 (fun h=>h)).trans q6
 have HK6:=Lib.hid K6;clear K6
 clear hca hcb hcc
 obtain ⟨x,hx⟩:∃x,mOf (ls a) n=x:=⟨_,rfl⟩
 have HX:=Lib.hid hx
 have hp1:(putL (ls a) n (!x)).length<=5001:=by cases x <;> simp [putL,longL_length] <;> omega
 have HLL:=Lib.hid (show (longL (putL (ls a) n (!x)) (n+1)).length<=6000 by rw [longL_length];omega)
 have HP1:=Lib.hid hp1
 have hb3:((n:Int)+1).toNat=n+1:=by omega
 have HB3:=Lib.hid hb3
 clear hx hp1 hb3
 have hb4:IntKind.i64.wrap ((n:Int)+1)=(n:Int)+1:=IntWalk.i64_in _ (by omega)
 go_region_held3 (fun w'=>w'.cell? ⟨w.heap.size,6,none⟩=some (.int .i64 (n:Int)))
  (first|(with_reducible exact HK6.out _ hg3)|(with_reducible exact HK6.out _ hg2)|(with_reducible exact hk5)|(have hk:=hk5;exact six_keep hk)|go_keep)
  (first
   |(go_at_call 18;refine (has_m _ (ls a) n x HX.out _ (HBA.out _ (HDW.out.fr_.trans (by repeat (first|exact Fr.refl _ _|apply Fr.drew|apply Fr.alloc))))).mono ?_;rintro e w' ⟨rfl,rfl⟩)
   |(go_at_call 17;refine (put_c _ (ls a) n (!x) _ (HBA.out _ (HDW.out.fr_.trans (by repeat (first|exact Fr.refl _ _|apply Fr.drew|apply Fr.alloc)))) (by omega) (by omega)).mono ?_;rintro e w2 ⟨v2,rfl,hv2,hf2,ho2⟩;have hg2:Fr (fun _=>False) w1 w2:=Fr.trans (by repeat (first|exact Fr.refl _ _|apply Fr.drew|apply Fr.alloc)) hf2)
   |(go_at_call 19;refine (long_c v2 (putL (ls a) n (!x)) ((n:Int)+1) w2 hv2 (by have:=HP1.out;omega) (by omega) (by omega)).mono ?_;rintro e w3 ⟨v3,rfl,hv3,hf3,ho3⟩;have hg3:Fr (fun _=>False) w1 w3:=hg2.trans hf3)
   |(go_at_call 15;refine (doOutK ha HS HDW (by rw [HB3.out]at hv3;exact hv3) hg3 (fun r hr=>Nat.le_trans hg2.size (ho3 r hr)) HLL.out).out.mono ?_;rintro e w4 ⟨⟨dd,rfl,HE,e0,f0,e1,f1,e2,f2,e3,f3,e4,f4,e5,f5⟩,hk4⟩;have hk5:=hp_cell (hk4.trans HDW.out.p0) 6 (v:= .int .i64 (n:Int)) rfl)
   |fail)
 go_wp2
 clear e0 e1 e2 e3 e4 e5 f0 f1 f2 f3 f4 f5
 obtain ⟨w4,hw4,e0,e1,e2,e3,e4,e5,HF⟩:=doSix false 0 HE
 rw [hw4];clear hw4
 simp [bodyPost,results,Tryz.f6,Tryz.results6,go_sem,e0,e1,e2,e3,e4,e5]
 have hF:=HF.out
 rw [<- HX.out]at hF
 exact hF
end Go.Proofs.YtobdfhlmipcjbaaGreatDoor
