/- spec.Ask: cardinalities. Conditions: places of four, lengths of at most 6,000. -/
import Derived.Test.YtobdfhlmipcjbaaGreatDoorG18
set_option linter.unusedVariables false
set_option linter.unusedSimpArgs false
set_option maxHeartbeats 2000000
set_option maxRecDepth 100000
namespace Go.Proofs.YtobdfhlmipcjbaaGreatDoor
open Go.RowKit
theorem ask_49(a b c fr to n:Nat)(wd:BitVec 64)(many:Value)(vs:Nat->Value)(ls:Nat->List Bool)(w:World)(ha:a<4)(hb:b<4)(hs:SetsV w vs ls):
  Calls Tryz.prog 7 #[stepV 49 a b c fr to n wd many,setsV vs] w (AskP w false ((((cntN (mOf (ls a)) (ls a).length):Nat):Int)+((cntN (mOf (ls b)) (ls b).length):Nat)-((shar (ls a) (ls b)):Nat)) 0 ByteArray.empty [] []):=by
 obtain ⟨la,lb,oa,ca,ob,cb,hla,hlb,hcap,HA,HB,HLA,HLB,EA,EB⟩:=askIn hs ha hb
 unfold stepV setsV
 clear hs
 go_enter Tryz.func7,Tryz.ntmps7
 go_wp2
 obtain ⟨w1,hw1,c0,c1,c2,c3,c4,HW⟩:=askMid 49 c fr to n wd many ha hb EA EB
 rw [hw1];clear hw1
 go_quiet (fail)
 go_wp2_with (go_at_call 21;refine (askJ nq hla hlb HA HB HLA HLB HW).out.mono ?_;rintro e w2 ⟨v3,rfl,k0,HC,HK,HA2,HB2⟩;refine Hid.out ?_)
 refine Lib.hid ?_
 clear c0 c1 c2 c3 c4
 obtain ⟨ka,hka⟩:∃k,k=cntN (mOf (ls a)) (ls a).length:=⟨_,rfl⟩
 obtain ⟨kb,hkb⟩:∃k,k=cntN (mOf (ls b)) (ls b).length:=⟨_,rfl⟩
 obtain ⟨ks,hks⟩:∃k,k=shar (ls a) (ls b):=⟨_,rfl⟩
 obtain ⟨bka,bkb,bks1,bks2⟩:ka<=la/\kb<=lb/\ks<=ka/\ks<=kb:=by rw [hka,hkb,hks,HLA.out,HLB.out];exact ⟨cntN_le _ _,cntN_le _ _,(shar_le _ _).1,(shar_le _ _).2⟩
 have CA:=Lib.hid (spCount_c _ _ w2 HA2.out (by have:=HLA.out;omega))
 have CB:=Lib.hid (spCount_c _ _ w2 HB2.out (by have:=HLB.out;omega))
 rw [<- hka]at CA
 rw [<- hkb]at CB
 rw [<- hks]at HC
 have HKA:=Lib.hid hka;have HKB:=Lib.hid hkb;have HKS:=Lib.hid hks;clear hka hkb hks
 go_wp2_with (first|(go_at_call 24;(with_reducible refine HC.out.mono ?_);rintro e w' ⟨rfl,rfl⟩)|(go_at_call 24;(with_reducible refine CA.out.mono ?_);rintro e w' ⟨rfl,rfl⟩)|(go_at_call 24;(with_reducible refine CB.out.mono ?_);rintro e w' ⟨rfl,rfl⟩)|(go_at_call 22;refine (askNum_c _ _).mono ?_;rintro e w3 ⟨rfl,hf3⟩;refine Hid.out ?_))
 refine Lib.hid ?_
 have HK3:=Lib.hid (HK.out.keep hf3)
 obtain ⟨e0,f0,e1,f1,e2,f2,e3,f3,e4,f4,e5,f5⟩:=HK3.out.six
 clear hf3
 go_wp2
 clear e0 e1 e2 e3 e4 e5 f0 f1 f2 f3 f4 f5
 obtain ⟨w4,hw4,e0,e1,e2,e3,e4,e5,HF⟩:=askSix false (((ka:Nat):Int)+(kb:Nat)-(ks:Nat)) 0 ByteArray.empty nilV nilV 0 rfl [] [] HK3 (Lst.nil _ 29 1) (Lst.nil _ 5 1) (noOwn _) (noOwn _)
 rw [hw4];clear hw4
 simp [bodyPost,results,Tryz.f7,Tryz.results7,go_sem,e0,e1,e2,e3,e4,e5]
 have hA:=HKA.out;have hB:=HKB.out;have hS:=HKS.out;have hLA:=HLA.out;have hLB:=HLB.out;subst hA hB hS hLA hLB
 exact HF.out
theorem ask_50(a b c fr to n:Nat)(wd:BitVec 64)(many:Value)(vs:Nat->Value)(ls:Nat->List Bool)(w:World)(ha:a<4)(hb:b<4)(hs:SetsV w vs ls):
  Calls Tryz.prog 7 #[stepV 50 a b c fr to n wd many,setsV vs] w (AskP w false ((((shar (ls a) (ls b)):Nat):Int)) 0 ByteArray.empty [] []):=by
 obtain ⟨la,lb,oa,ca,ob,cb,hla,hlb,hcap,HA,HB,HLA,HLB,EA,EB⟩:=askIn hs ha hb
 unfold stepV setsV
 clear hs
 go_enter Tryz.func7,Tryz.ntmps7
 go_wp2
 obtain ⟨w1,hw1,c0,c1,c2,c3,c4,HW⟩:=askMid 50 c fr to n wd many ha hb EA EB
 rw [hw1];clear hw1
 go_quiet (fail)
 go_wp2_with (go_at_call 21;refine (askJ nq hla hlb HA HB HLA HLB HW).out.mono ?_;rintro e w2 ⟨v3,rfl,k0,HC,HK,HA2,HB2⟩;refine Hid.out ?_)
 refine Lib.hid ?_
 clear c0 c1 c2 c3 c4
 obtain ⟨ka,hka⟩:∃k,k=cntN (mOf (ls a)) (ls a).length:=⟨_,rfl⟩
 obtain ⟨kb,hkb⟩:∃k,k=cntN (mOf (ls b)) (ls b).length:=⟨_,rfl⟩
 obtain ⟨ks,hks⟩:∃k,k=shar (ls a) (ls b):=⟨_,rfl⟩
 obtain ⟨bka,bkb,bks1,bks2⟩:ka<=la/\kb<=lb/\ks<=ka/\ks<=kb:=by rw [hka,hkb,hks,HLA.out,HLB.out];exact ⟨cntN_le _ _,cntN_le _ _,(shar_le _ _).1,(shar_le _ _).2⟩
 have CA:=Lib.hid (spCount_c _ _ w2 HA2.out (by have:=HLA.out;omega))
 have CB:=Lib.hid (spCount_c _ _ w2 HB2.out (by have:=HLB.out;omega))
 rw [<- hka]at CA
 rw [<- hkb]at CB
 rw [<- hks]at HC
 have HKA:=Lib.hid hka;have HKB:=Lib.hid hkb;have HKS:=Lib.hid hks;clear hka hkb hks
 go_wp2_with (first|(go_at_call 24;(with_reducible refine HC.out.mono ?_);rintro e w' ⟨rfl,rfl⟩)|(go_at_call 24;(with_reducible refine CA.out.mono ?_);rintro e w' ⟨rfl,rfl⟩)|(go_at_call 24;(with_reducible refine CB.out.mono ?_);rintro e w' ⟨rfl,rfl⟩)|(go_at_call 22;refine (askNum_c _ _).mono ?_;rintro e w3 ⟨rfl,hf3⟩;refine Hid.out ?_))
 refine Lib.hid ?_
 have HK3:=Lib.hid (HK.out.keep hf3)
 obtain ⟨e0,f0,e1,f1,e2,f2,e3,f3,e4,f4,e5,f5⟩:=HK3.out.six
 clear hf3
 go_wp2
 clear e0 e1 e2 e3 e4 e5 f0 f1 f2 f3 f4 f5
 obtain ⟨w4,hw4,e0,e1,e2,e3,e4,e5,HF⟩:=askSix false ((ks:Nat)) 0 ByteArray.empty nilV nilV 0 rfl [] [] HK3 (Lst.nil _ 29 1) (Lst.nil _ 5 1) (noOwn _) (noOwn _)
 rw [hw4];clear hw4
 simp [bodyPost,results,Tryz.f7,Tryz.results7,go_sem,e0,e1,e2,e3,e4,e5]
 have hA:=HKA.out;have hB:=HKB.out;have hS:=HKS.out;have hLA:=HLA.out;have hLB:=HLB.out;subst hA hB hS hLA hLB
 exact HF.out
theorem ask_51(a b c fr to n:Nat)(wd:BitVec 64)(many:Value)(vs:Nat->Value)(ls:Nat->List Bool)(w:World)(ha:a<4)(hb:b<4)(hs:SetsV w vs ls):
  Calls Tryz.prog 7 #[stepV 51 a b c fr to n wd many,setsV vs] w (AskP w false ((((cntN (mOf (ls a)) (ls a).length):Nat):Int)-((shar (ls a) (ls b)):Nat)) 0 ByteArray.empty [] []):=by
 obtain ⟨la,lb,oa,ca,ob,cb,hla,hlb,hcap,HA,HB,HLA,HLB,EA,EB⟩:=askIn hs ha hb
 unfold stepV setsV
 clear hs
 go_enter Tryz.func7,Tryz.ntmps7
 go_wp2
 obtain ⟨w1,hw1,c0,c1,c2,c3,c4,HW⟩:=askMid 51 c fr to n wd many ha hb EA EB
 rw [hw1];clear hw1
 go_quiet (fail)
 go_wp2_with (go_at_call 21;refine (askJ nq hla hlb HA HB HLA HLB HW).out.mono ?_;rintro e w2 ⟨v3,rfl,k0,HC,HK,HA2,HB2⟩;refine Hid.out ?_)
 refine Lib.hid ?_
 clear c0 c1 c2 c3 c4
 obtain ⟨ka,hka⟩:∃k,k=cntN (mOf (ls a)) (ls a).length:=⟨_,rfl⟩
 obtain ⟨kb,hkb⟩:∃k,k=cntN (mOf (ls b)) (ls b).length:=⟨_,rfl⟩
 obtain ⟨ks,hks⟩:∃k,k=shar (ls a) (ls b):=⟨_,rfl⟩
 obtain ⟨bka,bkb,bks1,bks2⟩:ka<=la/\kb<=lb/\ks<=ka/\ks<=kb:=by rw [hka,hkb,hks,HLA.out,HLB.out];exact ⟨cntN_le _ _,cntN_le _ _,(shar_le _ _).1,(shar_le _ _).2⟩
 have CA:=Lib.hid (spCount_c _ _ w2 HA2.out (by have:=HLA.out;omega))
 have CB:=Lib.hid (spCount_c _ _ w2 HB2.out (by have:=HLB.out;omega))
 rw [<- hka]at CA
 rw [<- hkb]at CB
 rw [<- hks]at HC
 have HKA:=Lib.hid hka;have HKB:=Lib.hid hkb;have HKS:=Lib.hid hks;clear hka hkb hks
 go_wp2_with (first|(go_at_call 24;(with_reducible refine HC.out.mono ?_);rintro e w' ⟨rfl,rfl⟩)|(go_at_call 24;(with_reducible refine CA.out.mono ?_);rintro e w' ⟨rfl,rfl⟩)|(go_at_call 24;(with_reducible refine CB.out.mono ?_);rintro e w' ⟨rfl,rfl⟩)|(go_at_call 22;refine (askNum_c _ _).mono ?_;rintro e w3 ⟨rfl,hf3⟩;refine Hid.out ?_))
 refine Lib.hid ?_
 have HK3:=Lib.hid (HK.out.keep hf3)
 obtain ⟨e0,f0,e1,f1,e2,f2,e3,f3,e4,f4,e5,f5⟩:=HK3.out.six
 clear hf3
 go_wp2
 clear e0 e1 e2 e3 e4 e5 f0 f1 f2 f3 f4 f5
 obtain ⟨w4,hw4,e0,e1,e2,e3,e4,e5,HF⟩:=askSix false (((ka:Nat):Int)-(ks:Nat)) 0 ByteArray.empty nilV nilV 0 rfl [] [] HK3 (Lst.nil _ 29 1) (Lst.nil _ 5 1) (noOwn _) (noOwn _)
 rw [hw4];clear hw4
 simp [bodyPost,results,Tryz.f7,Tryz.results7,go_sem,e0,e1,e2,e3,e4,e5]
 have hA:=HKA.out;have hB:=HKB.out;have hS:=HKS.out;have hLA:=HLA.out;have hLB:=HLB.out;subst hA hB hS hLA hLB
 exact HF.out
theorem ask_52(a b c fr to n:Nat)(wd:BitVec 64)(many:Value)(vs:Nat->Value)(ls:Nat->List Bool)(w:World)(ha:a<4)(hb:b<4)(hs:SetsV w vs ls):
  Calls Tryz.prog 7 #[stepV 52 a b c fr to n wd many,setsV vs] w (AskP w false ((((cntN (mOf (ls a)) (ls a).length):Nat):Int)+((cntN (mOf (ls b)) (ls b).length):Nat)-2*((shar (ls a) (ls b)):Nat)) 0 ByteArray.empty [] []):=by
 obtain ⟨la,lb,oa,ca,ob,cb,hla,hlb,hcap,HA,HB,HLA,HLB,EA,EB⟩:=askIn hs ha hb
 unfold stepV setsV
 clear hs
 go_enter Tryz.func7,Tryz.ntmps7
 go_wp2
 obtain ⟨w1,hw1,c0,c1,c2,c3,c4,HW⟩:=askMid 52 c fr to n wd many ha hb EA EB
 rw [hw1];clear hw1
 go_quiet (fail)
 go_wp2_with (go_at_call 21;refine (askJ nq hla hlb HA HB HLA HLB HW).out.mono ?_;rintro e w2 ⟨v3,rfl,k0,HC,HK,HA2,HB2⟩;refine Hid.out ?_)
 refine Lib.hid ?_
 clear c0 c1 c2 c3 c4
 obtain ⟨ka,hka⟩:∃k,k=cntN (mOf (ls a)) (ls a).length:=⟨_,rfl⟩
 obtain ⟨kb,hkb⟩:∃k,k=cntN (mOf (ls b)) (ls b).length:=⟨_,rfl⟩
 obtain ⟨ks,hks⟩:∃k,k=shar (ls a) (ls b):=⟨_,rfl⟩
 obtain ⟨bka,bkb,bks1,bks2⟩:ka<=la/\kb<=lb/\ks<=ka/\ks<=kb:=by rw [hka,hkb,hks,HLA.out,HLB.out];exact ⟨cntN_le _ _,cntN_le _ _,(shar_le _ _).1,(shar_le _ _).2⟩
 have CA:=Lib.hid (spCount_c _ _ w2 HA2.out (by have:=HLA.out;omega))
 have CB:=Lib.hid (spCount_c _ _ w2 HB2.out (by have:=HLB.out;omega))
 rw [<- hka]at CA
 rw [<- hkb]at CB
 rw [<- hks]at HC
 have HKA:=Lib.hid hka;have HKB:=Lib.hid hkb;have HKS:=Lib.hid hks;clear hka hkb hks
 go_wp2_with (first|(go_at_call 24;(with_reducible refine HC.out.mono ?_);rintro e w' ⟨rfl,rfl⟩)|(go_at_call 24;(with_reducible refine CA.out.mono ?_);rintro e w' ⟨rfl,rfl⟩)|(go_at_call 24;(with_reducible refine CB.out.mono ?_);rintro e w' ⟨rfl,rfl⟩)|(go_at_call 22;refine (askNum_c _ _).mono ?_;rintro e w3 ⟨rfl,hf3⟩;refine Hid.out ?_))
 refine Lib.hid ?_
 have HK3:=Lib.hid (HK.out.keep hf3)
 obtain ⟨e0,f0,e1,f1,e2,f2,e3,f3,e4,f4,e5,f5⟩:=HK3.out.six
 clear hf3
 go_wp2
 clear e0 e1 e2 e3 e4 e5 f0 f1 f2 f3 f4 f5
 obtain ⟨w4,hw4,e0,e1,e2,e3,e4,e5,HF⟩:=askSix false (((ka:Nat):Int)+(kb:Nat)-2*(ks:Nat)) 0 ByteArray.empty nilV nilV 0 rfl [] [] HK3 (Lst.nil _ 29 1) (Lst.nil _ 5 1) (noOwn _) (noOwn _)
 rw [hw4];clear hw4
 simp [bodyPost,results,Tryz.f7,Tryz.results7,go_sem,e0,e1,e2,e3,e4,e5]
 have hA:=HKA.out;have hB:=HKB.out;have hS:=HKS.out;have hLA:=HLA.out;have hLB:=HLB.out;subst hA hB hS hLA hLB
 exact HF.out
theorem ask_47(a b c fr to n:Nat)(wd:BitVec 64)(many:Value)(vs:Nat->Value)(ls:Nat->List Bool)(w:World)(ha:a<4)(hb:b<4)(hs:SetsV w vs ls):
  Calls Tryz.prog 7 #[stepV 47 a b c fr to n wd many,setsV vs] w (AskP w ((((shar (ls a) (ls b)):Nat):Int)==(((cntN (mOf (ls b)) (ls b).length):Nat):Int)) 0 0 ByteArray.empty [] []):=by
 obtain ⟨la,lb,oa,ca,ob,cb,hla,hlb,hcap,HA,HB,HLA,HLB,EA,EB⟩:=askIn hs ha hb
 unfold stepV setsV
 clear hs
 go_enter Tryz.func7,Tryz.ntmps7
 go_wp2
 obtain ⟨w1,hw1,c0,c1,c2,c3,c4,HW⟩:=askMid 47 c fr to n wd many ha hb EA EB
 rw [hw1];clear hw1
 go_quiet (fail)
 go_wp2_with (go_at_call 21;refine (askJ nq hla hlb HA HB HLA HLB HW).out.mono ?_;rintro e w2 ⟨v3,rfl,k0,HC,HK,HA2,HB2⟩;refine Hid.out ?_)
 refine Lib.hid ?_
 clear c0 c1 c2 c3 c4
 obtain ⟨ka,hka⟩:∃k,k=cntN (mOf (ls a)) (ls a).length:=⟨_,rfl⟩
 obtain ⟨kb,hkb⟩:∃k,k=cntN (mOf (ls b)) (ls b).length:=⟨_,rfl⟩
 obtain ⟨ks,hks⟩:∃k,k=shar (ls a) (ls b):=⟨_,rfl⟩
 obtain ⟨bka,bkb,bks1,bks2⟩:ka<=la/\kb<=lb/\ks<=ka/\ks<=kb:=by rw [hka,hkb,hks,HLA.out,HLB.out];exact ⟨cntN_le _ _,cntN_le _ _,(shar_le _ _).1,(shar_le _ _).2⟩
 have CA:=Lib.hid (spCount_c _ _ w2 HA2.out (by have:=HLA.out;omega))
 have CB:=Lib.hid (spCount_c _ _ w2 HB2.out (by have:=HLB.out;omega))
 rw [<- hka]at CA
 rw [<- hkb]at CB
 rw [<- hks]at HC
 have HKA:=Lib.hid hka;have HKB:=Lib.hid hkb;have HKS:=Lib.hid hks;clear hka hkb hks
 go_wp2_with (first|(go_at_call 24;(with_reducible refine HC.out.mono ?_);rintro e w' ⟨rfl,rfl⟩)|(go_at_call 24;(with_reducible refine CA.out.mono ?_);rintro e w' ⟨rfl,rfl⟩)|(go_at_call 24;(with_reducible refine CB.out.mono ?_);rintro e w' ⟨rfl,rfl⟩)|(go_at_call 23;refine (askIs_c _ _).mono ?_;rintro e w3 ⟨rfl,hf3⟩;refine Hid.out ?_))
 refine Lib.hid ?_
 have HK3:=Lib.hid (HK.out.keep hf3)
 obtain ⟨e0,f0,e1,f1,e2,f2,e3,f3,e4,f4,e5,f5⟩:=HK3.out.six
 clear hf3
 go_wp2
 clear e0 e1 e2 e3 e4 e5 f0 f1 f2 f3 f4 f5
 obtain ⟨w4,hw4,e0,e1,e2,e3,e4,e5,HF⟩:=askSix ((ks:Int)==(kb:Int)) 0 0 ByteArray.empty nilV nilV 0 rfl [] [] HK3 (Lst.nil _ 29 1) (Lst.nil _ 5 1) (noOwn _) (noOwn _)
 rw [hw4];clear hw4
 simp [bodyPost,results,Tryz.f7,Tryz.results7,go_sem,e0,e1,e2,e3,e4,e5]
 have hA:=HKA.out;have hB:=HKB.out;have hS:=HKS.out;have hLA:=HLA.out;have hLB:=HLB.out;subst hA hB hS hLA hLB
 exact HF.out
end Go.Proofs.YtobdfhlmipcjbaaGreatDoor
