/- spec.Ask: counts. Conditions: places of four, lengths of at most 6,000. spec.Ask: words, the number at a place. Conditions: places of four, lengths of at most 6,000. -/
import Derived.Test.YtobdfhlmipcjbaaGreatDoorG02
import Derived.Test.YtobdfhlmipcjbaaGreatDoorG03
import Derived.Test.YtobdfhlmipcjbaaGreatDoorG06
set_option linter.unusedVariables false
set_option linter.unusedSimpArgs false
set_option maxHeartbeats 2000000
set_option maxRecDepth 100000
namespace Go.Proofs.YtobdfhlmipcjbaaGreatDoor
open Go.RowKit
theorem cntN_grow(m:Nat->Bool){n k:Nat}(h:n<=k):cntN m n<=cntN m k:=by
 obtain ⟨d,rfl⟩:=Nat.exists_eq_add_of_le h
 rw [cntN_add];exact Nat.le_add_right _ _
theorem shar_eq(a b:List Bool):shar a b=cntN (fun i=>mOf a i&&mOf b i) (min a.length b.length):=by
 unfold shar bothL
 rw [joinL_length]
 exact cntN_ext _ fun i hi=>by
  have h:i<a.length/\i<b.length:=by omega
  simp [joinL,mOf,List.getD,List.getElem?_range hi,h.1,h.2]
theorem shar_le(a b:List Bool):shar a b<=cntN (mOf a) a.length/\shar a b<=cntN (mOf b) b.length:=by
 rw [shar_eq]
 exact ⟨Nat.le_trans (cntN_mono _ fun i _ h=>by simp at h;exact h.1) (cntN_grow _ (Nat.min_le_left _ _)),Nat.le_trans (cntN_mono _ fun i _ h=>by simp at h;exact h.2) (cntN_grow _ (Nat.min_le_right _ _))⟩
theorem ask_41(a b c fr to n:Nat)(wd:BitVec 64)(many:Value)(vs:Nat->Value)(ls:Nat->List Bool)(w:World)(ha:a<4)(hb:b<4)(hs:SetsV w vs ls):
  Calls Tryz.prog 7 #[stepV 41 a b c fr to n wd many,setsV vs] w (AskP w false ((((cntN (mOf (ls a)) (ls a).length):Nat):Int)) 0 ByteArray.empty [] []):=by
 obtain ⟨la,lb,oa,ca,ob,cb,hla,hlb,hcap,HA,HB,HLA,HLB,EA,EB⟩:=askIn hs ha hb
 unfold stepV setsV
 clear hs
 go_enter Tryz.func7,Tryz.ntmps7
 go_wp2
 obtain ⟨w1,hw1,c0,c1,c2,c3,c4,HW⟩:=askMid 41 c fr to n wd many ha hb EA EB
 rw [hw1];clear hw1
 go_quiet (fail)
 go_wp2_with (go_at_call 21;refine (askJ nq hla hlb HA HB HLA HLB HW).out.mono ?_;rintro e w2 ⟨v3,rfl,k0,HC,HK,HA2,HB2⟩;refine Hid.out ?_)
 refine Lib.hid ?_
 clear c0 c1 c2 c3 c4
 obtain ⟨ka,hka⟩:∃k,k=cntN (mOf (ls a)) (ls a).length:=⟨_,rfl⟩
 obtain ⟨kb,hkb⟩:∃k,k=cntN (mOf (ls b)) (ls b).length:=⟨_,rfl⟩
 obtain ⟨ks,hks⟩:∃k,k=shar (ls a) (ls b):=⟨_,rfl⟩
 obtain ⟨bka,bkb,bks1,bks2⟩:ka<=la/\kb<=lb/\ks<=ka/\ks<=kb:=by rw [hka,hkb,hks,HLA.out,HLB.out];exact ⟨cntN_le _ _,cntN_le _ _,(shar_le _ _).1,(shar_le _ _).2⟩
 have CA:=Lib.hid (spCount_c _ _ w2 HA2.out (by have:=HLA.out;omega))
 have CB:=Lib.hid (spCount_c _ _ w2 HB2.out (by have:=HLB.out;omega))
 rw [<- hka]at CA
 rw [<- hkb]at CB
 rw [<- hks]at HC
 have HKA:=Lib.hid hka;have HKB:=Lib.hid hkb;have HKS:=Lib.hid hks;clear hka hkb hks
 go_wp2_with (first|(go_at_call 24;(with_reducible refine HC.out.mono ?_);rintro e w' ⟨rfl,rfl⟩)|(go_at_call 24;(with_reducible refine CA.out.mono ?_);rintro e w' ⟨rfl,rfl⟩)|(go_at_call 24;(with_reducible refine CB.out.mono ?_);rintro e w' ⟨rfl,rfl⟩)|(go_at_call 22;refine (askNum_c _ _).mono ?_;rintro e w3 ⟨rfl,hf3⟩;refine Hid.out ?_))
 refine Lib.hid ?_
 have HK3:=Lib.hid (HK.out.keep hf3)
 obtain ⟨e0,f0,e1,f1,e2,f2,e3,f3,e4,f4,e5,f5⟩:=HK3.out.six
 clear hf3
 go_wp2
 clear e0 e1 e2 e3 e4 e5 f0 f1 f2 f3 f4 f5
 obtain ⟨w4,hw4,e0,e1,e2,e3,e4,e5,HF⟩:=askSix false ((ka:Nat)) 0 ByteArray.empty nilV nilV 0 rfl [] [] HK3 (Lst.nil _ 29 1) (Lst.nil _ 5 1) (noOwn _) (noOwn _)
 rw [hw4];clear hw4
 simp [bodyPost,results,Tryz.f7,Tryz.results7,go_sem,e0,e1,e2,e3,e4,e5]
 have hA:=HKA.out;have hB:=HKB.out;have hS:=HKS.out;have hLA:=HLA.out;have hLB:=HLB.out;subst hA hB hS hLA hLB
 exact HF.out
theorem ask_43(a b c fr to n:Nat)(wd:BitVec 64)(many:Value)(vs:Nat->Value)(ls:Nat->List Bool)(w:World)(ha:a<4)(hb:b<4)(hs:SetsV w vs ls):
  Calls Tryz.prog 7 #[stepV 43 a b c fr to n wd many,setsV vs] w (AskP w (decide (0<(cntN (mOf (ls a)) (ls a).length))) 0 0 ByteArray.empty [] []):=by
 obtain ⟨la,lb,oa,ca,ob,cb,hla,hlb,hcap,HA,HB,HLA,HLB,EA,EB⟩:=askIn hs ha hb
 unfold stepV setsV
 clear hs
 go_enter Tryz.func7,Tryz.ntmps7
 go_wp2
 obtain ⟨w1,hw1,c0,c1,c2,c3,c4,HW⟩:=askMid 43 c fr to n wd many ha hb EA EB
 rw [hw1];clear hw1
 go_quiet (fail)
 go_wp2_with (go_at_call 21;refine (askJ nq hla hlb HA HB HLA HLB HW).out.mono ?_;rintro e w2 ⟨v3,rfl,k0,HC,HK,HA2,HB2⟩;refine Hid.out ?_)
 refine Lib.hid ?_
 clear c0 c1 c2 c3 c4
 obtain ⟨ka,hka⟩:∃k,k=cntN (mOf (ls a)) (ls a).length:=⟨_,rfl⟩
 obtain ⟨kb,hkb⟩:∃k,k=cntN (mOf (ls b)) (ls b).length:=⟨_,rfl⟩
 obtain ⟨ks,hks⟩:∃k,k=shar (ls a) (ls b):=⟨_,rfl⟩
 obtain ⟨bka,bkb,bks1,bks2⟩:ka<=la/\kb<=lb/\ks<=ka/\ks<=kb:=by rw [hka,hkb,hks,HLA.out,HLB.out];exact ⟨cntN_le _ _,cntN_le _ _,(shar_le _ _).1,(shar_le _ _).2⟩
 have CA:=Lib.hid (spCount_c _ _ w2 HA2.out (by have:=HLA.out;omega))
 have CB:=Lib.hid (spCount_c _ _ w2 HB2.out (by have:=HLB.out;omega))
 rw [<- hka]at CA
 rw [<- hkb]at CB
 rw [<- hks]at HC
 have HKA:=Lib.hid hka;have HKB:=Lib.hid hkb;have HKS:=Lib.hid hks;clear hka hkb hks
 go_wp2_with (first|(go_at_call 24;(with_reducible refine HC.out.mono ?_);rintro e w' ⟨rfl,rfl⟩)|(go_at_call 24;(with_reducible refine CA.out.mono ?_);rintro e w' ⟨rfl,rfl⟩)|(go_at_call 24;(with_reducible refine CB.out.mono ?_);rintro e w' ⟨rfl,rfl⟩)|(go_at_call 23;refine (askIs_c _ _).mono ?_;rintro e w3 ⟨rfl,hf3⟩;refine Hid.out ?_))
 refine Lib.hid ?_
 have HK3:=Lib.hid (HK.out.keep hf3)
 obtain ⟨e0,f0,e1,f1,e2,f2,e3,f3,e4,f4,e5,f5⟩:=HK3.out.six
 clear hf3
 go_wp2
 clear e0 e1 e2 e3 e4 e5 f0 f1 f2 f3 f4 f5
 obtain ⟨w4,hw4,e0,e1,e2,e3,e4,e5,HF⟩:=askSix (decide (0<ka)) 0 0 ByteArray.empty nilV nilV 0 rfl [] [] HK3 (Lst.nil _ 29 1) (Lst.nil _ 5 1) (noOwn _) (noOwn _)
 rw [hw4];clear hw4
 simp [bodyPost,results,Tryz.f7,Tryz.results7,go_sem,e0,e1,e2,e3,e4,e5]
 have hA:=HKA.out;have hB:=HKB.out;have hS:=HKS.out;have hLA:=HLA.out;have hLB:=HLB.out;subst hA hB hS hLA hLB
 exact HF.out
theorem numsN_lt(m:Nat->Bool)(n:Nat):∀x∈numsN m n,x<n:=by
 induction n with
 |zero=>simp [numsN]
 |succ n ih=>
  intro x hx
  unfold numsN at hx
  rcases List.mem_append.1 hx with h|h
  ·have:=ih x h;omega
  ·split at h
   ·simp at h;omega
   ·simp at h
theorem ask_64(a b c fr to n:Nat)(wd:BitVec 64)(many:Value)(vs:Nat->Value)(ls:Nat->List Bool)(w:World)(ha:a<4)(hb:b<4)(hs:SetsV w vs ls):
  Calls Tryz.prog 7 #[stepV 64 a b c fr to n wd many,setsV vs] w (AskP w false 0 0 ByteArray.empty ((List.range (nw (ls a).length)).map (fun j=>WV (pk (mOf (ls a)) j))) []):=by
 obtain ⟨la,lb,oa,ca,ob,cb,hla,hlb,hcap,HA,HB,HLA,HLB,EA,EB⟩:=askIn hs ha hb
 unfold stepV setsV
 clear hs
 go_enter Tryz.func7,Tryz.ntmps7
 go_wp2
 obtain ⟨w1,hw1,c0,c1,c2,c3,c4,HW⟩:=askMid 64 c fr to n wd many ha hb EA EB
 rw [hw1];clear hw1
 go_quiet (fail)
 go_wp2_with (go_at_call 21;refine (askJ nq hla hlb HA HB HLA HLB HW).out.mono ?_;rintro e w2 ⟨v3,rfl,k0,HC,HK,HA2,HB2⟩;refine Hid.out ?_)
 refine Lib.hid ?_
 clear c0 c1 c2 c3 c4
 go_wp2_with (first|(go_at_call 24;(with_reducible refine HC.out.mono ?_);rintro e w' ⟨rfl,rfl⟩)|(go_at_call 28;refine (spWords_c _ (ls a) _ HA2.out (by have:=HLA.out;omega)).mono ?_;rintro e w3 ⟨v4,rfl,hv4,hf3,ho4⟩;refine Hid.out ?_))
 refine Lib.hid ?_
 have HO4:=Lib.hid (fun r hr=>Nat.le_trans HK.out.size (ho4 r hr):∀r,v4.ownBlock=some r->w.heap.size+3<=r)
 obtain ⟨ov,cv,rfl⟩:=hv4.sl
 obtain ⟨q,hq⟩:∃q,q=nw (ls a).length:=⟨_,rfl⟩
 rw [<- hq]at hv4 HO4 ⊢
 have HV4:=Lib.hid hv4
 have HQ:=Lib.hid hq;clear hq
 clear hv4 ho4
 have HK3:=Lib.hid (HK.out.keep hf3)
 obtain ⟨e0,f0,e1,f1,e2,f2,e3,f3,e4,f4,e5,f5⟩:=HK3.out.six
 clear hf3
 go_wp2
 clear e0 e1 e2 e3 e4 e5 f0 f1 f2 f3 f4 f5
 obtain ⟨w4,hw4,e0,e1,e2,e3,e4,e5,HF⟩:=askSix false 0 0 { data:= #[] } (.slice ov q cv) nilV 0 rfl ((List.range (nw (ls a).length)).map (fun j=>WV (pk (mOf (ls a)) j))) [] HK3 (by rw [List.length_map,List.length_range,<- HQ.out];exact HV4.out) (Lst.nil _ 5 1) HO4.out (noOwn _)
 rw [hw4];clear hw4
 simp [bodyPost,results,Tryz.f7,Tryz.results7,go_sem,e0,e1,e2,e3,e4,e5]
 exact HF.out
theorem ask_59o(a b c fr to n:Nat)(wd:BitVec 64)(many:Value)(vs:Nat->Value)(ls:Nat->List Bool)(w:World)(ha:a<4)(hb:b<4)(hge:cntN (mOf (ls a)) (ls a).length<=n)(hs:SetsV w vs ls):
  Calls Tryz.prog 7 #[stepV 59 a b c fr to n wd many,setsV vs] w (AskP w false (((ls a).length:Nat):Int) 0 ByteArray.empty [] []):=by
 obtain ⟨la,lb,oa,ca,ob,cb,hla,hlb,hcap,HA,HB,HLA,HLB,EA,EB⟩:=askIn hs ha hb
 unfold stepV setsV
 clear hs
 go_enter Tryz.func7,Tryz.ntmps7
 go_wp2
 obtain ⟨w1,hw1,c0,c1,c2,c3,c4,HW⟩:=askMid 59 c fr to n wd many ha hb EA EB
 rw [hw1];clear hw1
 go_quiet (fail)
 go_wp2_with (go_at_call 21;refine (askJ nq hla hlb HA HB HLA HLB HW).out.mono ?_;rintro e w2 ⟨v3,rfl,k0,HC,HK,HA2,HB2⟩;refine Hid.out ?_)
 refine Lib.hid ?_
 clear c0 c1 c2 c3 c4
 obtain ⟨ka,hka⟩:∃k,k=cntN (mOf (ls a)) (ls a).length:=⟨_,rfl⟩
 have hkb:ka<=6000:=by have:=cntN_le (mOf (ls a)) (ls a).length;have:=HLA.out;omega
 have CN:=spNumbers_c _ (ls a) w2 HA2.out (by have:=HLA.out;omega)
 rw [<- hka]at CN
 have q6:=HK.out.c6
 have d0:ka<=n:=by rw [<- hka]at hge;exact hge
 have HKA:=Lib.hid hka;have HCN:=Lib.hid CN;clear hka CN
 go_wp2_with (first|(go_at_call 24;(with_reducible refine HC.out.mono ?_);rintro e w' ⟨rfl,rfl⟩)|(go_at_call 12;refine HCN.out.mono ?_;rintro e w3 ⟨v4,rfl,hv4,hf3,ho4⟩;refine Hid.out ?_))
 refine Lib.hid ?_
 have HK3:=Lib.hid (HK.out.keep hf3)
 have q6:=HK3.out.c6
 obtain ⟨ov,cv,rfl⟩:=hv4.sl
 clear hv4 ho4 hf3
 go_wp2_with (go_at_call 22;refine (askNum_c _ _).mono ?_;rintro e w4 ⟨rfl,hf4⟩;refine Hid.out ?_)
 refine Lib.hid ?_
 have HK:=HK3
 have hf3:=hf4
 clear hf4 q6
 have HK4:=Lib.hid (HK.out.keep hf3)
 obtain ⟨e0,f0,e1,f1,e2,f2,e3,f3,e4,f4,e5,f5⟩:=HK4.out.six
 clear hf3
 go_wp2
 clear e0 e1 e2 e3 e4 e5 f0 f1 f2 f3 f4 f5
 obtain ⟨w4,hw4,e0,e1,e2,e3,e4,e5,HF⟩:=askSix false (la:Nat) 0 ByteArray.empty nilV nilV 0 rfl [] [] HK4 (Lst.nil _ 29 1) (Lst.nil _ 5 1) (noOwn _) (noOwn _)
 rw [hw4];clear hw4
 simp [bodyPost,results,Tryz.f7,Tryz.results7,go_sem,e0,e1,e2,e3,e4,e5]
 have hLA:=HLA.out;subst hLA
 exact HF.out
theorem ask_59i(a b c fr to n:Nat)(wd:BitVec 64)(many:Value)(vs:Nat->Value)(ls:Nat->List Bool)(w:World)(ha:a<4)(hb:b<4)(hge:n<cntN (mOf (ls a)) (ls a).length)(hs:SetsV w vs ls):
  Calls Tryz.prog 7 #[stepV 59 a b c fr to n wd many,setsV vs] w (AskP w false (((numsN (mOf (ls a)) (ls a).length).getD n 0:Nat):Int) 0 ByteArray.empty [] []):=by
 obtain ⟨la,lb,oa,ca,ob,cb,hla,hlb,hcap,HA,HB,HLA,HLB,EA,EB⟩:=askIn hs ha hb
 unfold stepV setsV
 clear hs
 go_enter Tryz.func7,Tryz.ntmps7
 go_wp2
 obtain ⟨w1,hw1,c0,c1,c2,c3,c4,HW⟩:=askMid 59 c fr to n wd many ha hb EA EB
 rw [hw1];clear hw1
 go_quiet (fail)
 go_wp2_with (go_at_call 21;refine (askJ nq hla hlb HA HB HLA HLB HW).out.mono ?_;rintro e w2 ⟨v3,rfl,k0,HC,HK,HA2,HB2⟩;refine Hid.out ?_)
 refine Lib.hid ?_
 clear c0 c1 c2 c3 c4
 obtain ⟨ka,hka⟩:∃k,k=cntN (mOf (ls a)) (ls a).length:=⟨_,rfl⟩
 have hkb:ka<=6000:=by have:=cntN_le (mOf (ls a)) (ls a).length;have:=HLA.out;omega
 have CN:=spNumbers_c _ (ls a) w2 HA2.out (by have:=HLA.out;omega)
 rw [<- hka]at CN
 have q6:=HK.out.c6
 have d0:n<ka:=by rw [<- hka]at hge;exact hge
 have i0:(0:Int)<=(n:Int)/\(n:Int)<ka:=by rw [<- hka]at hge;omega
 have HKA:=Lib.hid hka;have HCN:=Lib.hid CN;clear hka CN
 go_wp2_with (first|(go_at_call 24;(with_reducible refine HC.out.mono ?_);rintro e w' ⟨rfl,rfl⟩)|(go_at_call 12;refine HCN.out.mono ?_;rintro e w3 ⟨v4,rfl,hv4,hf3,ho4⟩;refine Hid.out ?_))
 refine Lib.hid ?_
 have HK3:=Lib.hid (HK.out.keep hf3)
 have q6:=HK3.out.c6
 obtain ⟨s,c4,rfl,y,hy,hc⟩:=hv4.at (i:=n) (by omega)
 obtain ⟨z,hz⟩:∃z,z=(numsN (mOf (ls a)) (ls a).length).getD n 0:=⟨_,rfl⟩
 have hlen:n<(numsN (mOf (ls a)) (ls a).length).length:=by rw [numsN_length,<- HKA.out];omega
 have hy2:y=Value.int .u64 (z:Int):=by
  rw [List.getElem?_map,List.getElem?_eq_getElem hlen]at hy
  rw [hz,List.getD,List.getElem?_eq_getElem hlen]
  simpa using hy.symm
 have hzb:z<=6000:=by
  rw [hz,List.getD,List.getElem?_eq_getElem hlen]
  have:=numsN_lt _ _ _ (List.getElem_mem hlen)
  have:=HLA.out
  simp;omega
 subst hy2
 have HZ:=Lib.hid hz
 clear hv4 ho4 hf3 hy hz hlen hge
 go_wp2_with (go_at_call 22;refine (askNum_c _ _).mono ?_;rintro e w4 ⟨rfl,hf4⟩;refine Hid.out ?_)
 refine Lib.hid ?_
 have HK:=HK3
 have hf3:=hf4
 clear hf4 q6 hc
 have HK4:=Lib.hid (HK.out.keep hf3)
 obtain ⟨e0,f0,e1,f1,e2,f2,e3,f3,e4,f4,e5,f5⟩:=HK4.out.six
 clear hf3
 go_wp2
 clear e0 e1 e2 e3 e4 e5 f0 f1 f2 f3 f4 f5
 obtain ⟨w4,hw4,e0,e1,e2,e3,e4,e5,HF⟩:=askSix false (z:Nat) 0 ByteArray.empty nilV nilV 0 rfl [] [] HK4 (Lst.nil _ 29 1) (Lst.nil _ 5 1) (noOwn _) (noOwn _)
 rw [hw4];clear hw4
 simp [bodyPost,results,Tryz.f7,Tryz.results7,go_sem,e0,e1,e2,e3,e4,e5]
 have hZ:=HZ.out;subst hZ
 exact HF.out
end Go.Proofs.YtobdfhlmipcjbaaGreatDoor
