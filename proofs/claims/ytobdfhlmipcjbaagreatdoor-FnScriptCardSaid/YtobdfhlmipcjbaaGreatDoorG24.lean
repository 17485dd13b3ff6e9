/- spec.Ask: equal, superset. Conditions: places of four, lengths of at most 6,000. spec.Ask: the next place. Conditions: places of four, lengths of at most 6,000. -/
import Derived.Test.YtobdfhlmipcjbaaGreatDoorG18
import Derived.Test.YtobdfhlmipcjbaaGreatDoorG19
set_option linter.unusedVariables false
set_option linter.unusedSimpArgs false
set_option maxHeartbeats 2000000
set_option maxRecDepth 100000
namespace Go.Proofs.YtobdfhlmipcjbaaGreatDoor
open Go.RowKit
theorem ask_46(a b c fr to n:Nat)(wd:BitVec 64)(many:Value)(vs:Nat->Value)(ls:Nat->List Bool)(w:World)(ha:a<4)(hb:b<4)(hs:SetsV w vs ls):
  Calls Tryz.prog 7 #[stepV 46 a b c fr to n wd many,setsV vs] w (AskP w ((((ls a).length:Nat):Int)==(((ls b).length:Nat):Int)&&(((shar (ls a) (ls b)):Nat):Int)==(((cntN (mOf (ls a)) (ls a).length):Nat):Int)&&(((shar (ls a) (ls b)):Nat):Int)==(((cntN (mOf (ls b)) (ls b).length):Nat):Int)) 0 0 ByteArray.empty [] []):=by
 obtain ⟨la,lb,oa,ca,ob,cb,hla,hlb,hcap,HA,HB,HLA,HLB,EA,EB⟩:=askIn hs ha hb
 unfold stepV setsV
 clear hs
 go_enter Tryz.func7,Tryz.ntmps7
 go_wp2
 obtain ⟨w1,hw1,c0,c1,c2,c3,c4,HW⟩:=askMid 46 c fr to n wd many ha hb EA EB
 rw [hw1];clear hw1
 go_quiet (fail)
 go_wp2_with (go_at_call 21;refine (askJ nq hla hlb HA HB HLA HLB HW).out.mono ?_;rintro e w2 ⟨v3,rfl,k0,HC,HK,HA2,HB2⟩;refine Hid.out ?_)
 refine Lib.hid ?_
 clear c0 c1 c2 c3 c4
 obtain ⟨ka,hka⟩:∃k,k=cntN (mOf (ls a)) (ls a).length:=⟨_,rfl⟩
 obtain ⟨kb,hkb⟩:∃k,k=cntN (mOf (ls b)) (ls b).length:=⟨_,rfl⟩
 obtain ⟨ks,hks⟩:∃k,k=shar (ls a) (ls b):=⟨_,rfl⟩
 obtain ⟨bka,bkb,bks1,bks2⟩:ka<=la/\kb<=lb/\ks<=ka/\ks<=kb:=by rw [hka,hkb,hks,HLA.out,HLB.out];exact ⟨cntN_le _ _,cntN_le _ _,(shar_le _ _).1,(shar_le _ _).2⟩
 have CA:=Lib.hid (spCount_c _ _ w2 HA2.out (by have:=HLA.out;omega))
 have CB:=Lib.hid (spCount_c _ _ w2 HB2.out (by have:=HLB.out;omega))
 rw [<- hka]at CA
 rw [<- hkb]at CB
 rw [<- hks]at HC
 have HKA:=Lib.hid hka;have HKB:=Lib.hid hkb;have HKS:=Lib.hid hks;clear hka hkb hks
 cases h1:((la:Int)==(lb:Int))
 ·go_wp2_with (first|(go_at_call 24;(with_reducible refine HC.out.mono ?_);rintro e w' ⟨rfl,rfl⟩)|(go_at_call 24;(with_reducible refine CA.out.mono ?_);rintro e w' ⟨rfl,rfl⟩)|(go_at_call 24;(with_reducible refine CB.out.mono ?_);rintro e w' ⟨rfl,rfl⟩)|(go_at_call 23;refine (askIs_c _ _).mono ?_;rintro e w3 ⟨rfl,hf3⟩;refine Hid.out ?_))
  refine Lib.hid ?_
  have HK3:=Lib.hid (HK.out.keep hf3)
  obtain ⟨e0,f0,e1,f1,e2,f2,e3,f3,e4,f4,e5,f5⟩:=HK3.out.six
  clear hf3
  go_wp2
  clear e0 e1 e2 e3 e4 e5 f0 f1 f2 f3 f4 f5
  obtain ⟨w4,hw4,e0,e1,e2,e3,e4,e5,HF⟩:=askSix (false) 0 0 ByteArray.empty nilV nilV 0 rfl [] [] HK3 (Lst.nil _ 29 1) (Lst.nil _ 5 1) (noOwn _) (noOwn _)
  rw [hw4];clear hw4
  simp [bodyPost,results,Tryz.f7,Tryz.results7,go_sem,e0,e1,e2,e3,e4,e5]
  have hA:=HKA.out;have hB:=HKB.out;have hS:=HKS.out;have hLA:=HLA.out;have hLB:=HLB.out;subst hA hB hS hLA hLB
  have hF:=HF.out
  exact (by rw [h1];exact hF)
 ·cases h2:((ks:Int)==(ka:Int))
  ·go_wp2_with (first|(go_at_call 24;(with_reducible refine HC.out.mono ?_);rintro e w' ⟨rfl,rfl⟩)|(go_at_call 24;(with_reducible refine CA.out.mono ?_);rintro e w' ⟨rfl,rfl⟩)|(go_at_call 24;(with_reducible refine CB.out.mono ?_);rintro e w' ⟨rfl,rfl⟩)|(go_at_call 23;refine (askIs_c _ _).mono ?_;rintro e w3 ⟨rfl,hf3⟩;refine Hid.out ?_))
   refine Lib.hid ?_
   have HK3:=Lib.hid (HK.out.keep hf3)
   obtain ⟨e0,f0,e1,f1,e2,f2,e3,f3,e4,f4,e5,f5⟩:=HK3.out.six
   clear hf3
   go_wp2
   clear e0 e1 e2 e3 e4 e5 f0 f1 f2 f3 f4 f5
   obtain ⟨w4,hw4,e0,e1,e2,e3,e4,e5,HF⟩:=askSix (false) 0 0 ByteArray.empty nilV nilV 0 rfl [] [] HK3 (Lst.nil _ 29 1) (Lst.nil _ 5 1) (noOwn _) (noOwn _)
   rw [hw4];clear hw4
   simp [bodyPost,results,Tryz.f7,Tryz.results7,go_sem,e0,e1,e2,e3,e4,e5]
   have hA:=HKA.out;have hB:=HKB.out;have hS:=HKS.out;have hLA:=HLA.out;have hLB:=HLB.out;subst hA hB hS hLA hLB
   have hF:=HF.out
   exact (by rw [h1,h2];exact hF)
  ·go_wp2_with (first|(go_at_call 24;(with_reducible refine HC.out.mono ?_);rintro e w' ⟨rfl,rfl⟩)|(go_at_call 24;(with_reducible refine CA.out.mono ?_);rintro e w' ⟨rfl,rfl⟩)|(go_at_call 24;(with_reducible refine CB.out.mono ?_);rintro e w' ⟨rfl,rfl⟩)|(go_at_call 23;refine (askIs_c _ _).mono ?_;rintro e w3 ⟨rfl,hf3⟩;refine Hid.out ?_))
   refine Lib.hid ?_
   have HK3:=Lib.hid (HK.out.keep hf3)
   obtain ⟨e0,f0,e1,f1,e2,f2,e3,f3,e4,f4,e5,f5⟩:=HK3.out.six
   clear hf3
   go_wp2
   clear e0 e1 e2 e3 e4 e5 f0 f1 f2 f3 f4 f5
   obtain ⟨w4,hw4,e0,e1,e2,e3,e4,e5,HF⟩:=askSix ((ks:Int)==(kb:Int)) 0 0 ByteArray.empty nilV nilV 0 rfl [] [] HK3 (Lst.nil _ 29 1) (Lst.nil _ 5 1) (noOwn _) (noOwn _)
   rw [hw4];clear hw4
   simp [bodyPost,results,Tryz.f7,Tryz.results7,go_sem,e0,e1,e2,e3,e4,e5]
   have hA:=HKA.out;have hB:=HKB.out;have hS:=HKS.out;have hLA:=HLA.out;have hLB:=HLB.out;subst hA hB hS hLA hLB
   have hF:=HF.out
   exact (by rw [h1,h2];exact hF)
theorem ask_48(a b c fr to n:Nat)(wd:BitVec 64)(many:Value)(vs:Nat->Value)(ls:Nat->List Bool)(w:World)(ha:a<4)(hb:b<4)(hs:SetsV w vs ls):
  Calls Tryz.prog 7 #[stepV 48 a b c fr to n wd many,setsV vs] w (AskP w ((((shar (ls a) (ls b)):Nat):Int)==(((cntN (mOf (ls b)) (ls b).length):Nat):Int)&&decide ((shar (ls a) (ls b))<(cntN (mOf (ls a)) (ls a).length))) 0 0 ByteArray.empty [] []):=by
 obtain ⟨la,lb,oa,ca,ob,cb,hla,hlb,hcap,HA,HB,HLA,HLB,EA,EB⟩:=askIn hs ha hb
 unfold stepV setsV
 clear hs
 go_enter Tryz.func7,Tryz.ntmps7
 go_wp2
 obtain ⟨w1,hw1,c0,c1,c2,c3,c4,HW⟩:=askMid 48 c fr to n wd many ha hb EA EB
 rw [hw1];clear hw1
 go_quiet (fail)
 go_wp2_with (go_at_call 21;refine (askJ nq hla hlb HA HB HLA HLB HW).out.mono ?_;rintro e w2 ⟨v3,rfl,k0,HC,HK,HA2,HB2⟩;refine Hid.out ?_)
 refine Lib.hid ?_
 clear c0 c1 c2 c3 c4
 obtain ⟨ka,hka⟩:∃k,k=cntN (mOf (ls a)) (ls a).length:=⟨_,rfl⟩
 obtain ⟨kb,hkb⟩:∃k,k=cntN (mOf (ls b)) (ls b).length:=⟨_,rfl⟩
 obtain ⟨ks,hks⟩:∃k,k=shar (ls a) (ls b):=⟨_,rfl⟩
 obtain ⟨bka,bkb,bks1,bks2⟩:ka<=la/\kb<=lb/\ks<=ka/\ks<=kb:=by rw [hka,hkb,hks,HLA.out,HLB.out];exact ⟨cntN_le _ _,cntN_le _ _,(shar_le _ _).1,(shar_le _ _).2⟩
 have CA:=Lib.hid (spCount_c _ _ w2 HA2.out (by have:=HLA.out;omega))
 have CB:=Lib.hid (spCount_c _ _ w2 HB2.out (by have:=HLB.out;omega))
 rw [<- hka]at CA
 rw [<- hkb]at CB
 rw [<- hks]at HC
 have HKA:=Lib.hid hka;have HKB:=Lib.hid hkb;have HKS:=Lib.hid hks;clear hka hkb hks
 cases h1:((ks:Int)==(kb:Int))
 ·go_wp2_with (first|(go_at_call 24;(with_reducible refine HC.out.mono ?_);rintro e w' ⟨rfl,rfl⟩)|(go_at_call 24;(with_reducible refine CA.out.mono ?_);rintro e w' ⟨rfl,rfl⟩)|(go_at_call 24;(with_reducible refine CB.out.mono ?_);rintro e w' ⟨rfl,rfl⟩)|(go_at_call 23;refine (askIs_c _ _).mono ?_;rintro e w3 ⟨rfl,hf3⟩;refine Hid.out ?_))
  refine Lib.hid ?_
  have HK3:=Lib.hid (HK.out.keep hf3)
  obtain ⟨e0,f0,e1,f1,e2,f2,e3,f3,e4,f4,e5,f5⟩:=HK3.out.six
  clear hf3
  go_wp2
  clear e0 e1 e2 e3 e4 e5 f0 f1 f2 f3 f4 f5
  obtain ⟨w4,hw4,e0,e1,e2,e3,e4,e5,HF⟩:=askSix (false) 0 0 ByteArray.empty nilV nilV 0 rfl [] [] HK3 (Lst.nil _ 29 1) (Lst.nil _ 5 1) (noOwn _) (noOwn _)
  rw [hw4];clear hw4
  simp [bodyPost,results,Tryz.f7,Tryz.results7,go_sem,e0,e1,e2,e3,e4,e5]
  have hA:=HKA.out;have hB:=HKB.out;have hS:=HKS.out;have hLA:=HLA.out;have hLB:=HLB.out;subst hA hB hS hLA hLB
  have hF:=HF.out
  exact (by rw [h1];exact hF)
 ·go_wp2_with (first|(go_at_call 24;(with_reducible refine HC.out.mono ?_);rintro e w' ⟨rfl,rfl⟩)|(go_at_call 24;(with_reducible refine CA.out.mono ?_);rintro e w' ⟨rfl,rfl⟩)|(go_at_call 24;(with_reducible refine CB.out.mono ?_);rintro e w' ⟨rfl,rfl⟩)|(go_at_call 23;refine (askIs_c _ _).mono ?_;rintro e w3 ⟨rfl,hf3⟩;refine Hid.out ?_))
  refine Lib.hid ?_
  have HK3:=Lib.hid (HK.out.keep hf3)
  obtain ⟨e0,f0,e1,f1,e2,f2,e3,f3,e4,f4,e5,f5⟩:=HK3.out.six
  clear hf3
  go_wp2
  clear e0 e1 e2 e3 e4 e5 f0 f1 f2 f3 f4 f5
  obtain ⟨w4,hw4,e0,e1,e2,e3,e4,e5,HF⟩:=askSix (decide (ks<ka)) 0 0 ByteArray.empty nilV nilV 0 rfl [] [] HK3 (Lst.nil _ 29 1) (Lst.nil _ 5 1) (noOwn _) (noOwn _)
  rw [hw4];clear hw4
  simp [bodyPost,results,Tryz.f7,Tryz.results7,go_sem,e0,e1,e2,e3,e4,e5]
  have hA:=HKA.out;have hB:=HKB.out;have hS:=HKS.out;have hLA:=HLA.out;have hLB:=HLB.out;subst hA hB hS hLA hLB
  have hF:=HF.out
  exact (by rw [h1];exact hF)
theorem ask_53n(a b c fr to n:Nat)(wd:BitVec 64)(many:Value)(vs:Nat->Value)(ls:Nat->List Bool)(w:World)(ha:a<4)(hb:b<4)(hge:(ls a).length<=n)(hs:SetsV w vs ls):
  Calls Tryz.prog 7 #[stepV 53 a b c fr to n wd many,setsV vs] w (AskN w):=by
 obtain ⟨la,lb,oa,ca,ob,cb,hla,hlb,hcap,HA,HB,HLA,HLB,EA,EB⟩:=askIn hs ha hb
 unfold stepV setsV
 clear hs
 go_enter Tryz.func7,Tryz.ntmps7
 go_wp2
 obtain ⟨w1,hw1,c0,c1,c2,c3,c4,HW⟩:=askMid 53 c fr to n wd many ha hb EA EB
 rw [hw1];clear hw1
 go_quiet (fail)
 go_wp2_with (go_at_call 21;refine (askJ nq hla hlb HA HB HLA HLB HW).out.mono ?_;rintro e w2 ⟨v3,rfl,k0,HC,HK,HA2,HB2⟩;refine Hid.out ?_)
 refine Lib.hid ?_
 clear c0 c1 c2 c3 c4
 have q6:=HK.out.c6
 have d0:la<=n:=by rw [HLA.out];exact hge
 obtain ⟨e0,f0,e1,f1,e2,f2,e3,f3,e4,f4,e5,f5⟩:=HK.out.six
 go_wp2_with (first|(go_at_call 24;(with_reducible refine HC.out.mono ?_);rintro e w' ⟨rfl,hw⟩;obtain rfl:=hw.symm))
 clear e0 e1 e2 e3 e4 e5 f0 f1 f2 f3 f4 f5
 obtain ⟨w4,hw4,e0,e1,e2,e3,e4,e5,HF⟩:=askSixN HK
 rw [hw4];clear hw4
 simp [bodyPost,results,Tryz.f7,Tryz.results7,go_sem,e0,e1,e2,e3,e4,e5]
 exact HF.out
theorem ask_53(a b c fr to n:Nat)(wd:BitVec 64)(many:Value)(vs:Nat->Value)(ls:Nat->List Bool)(w:World)(ha:a<4)(hb:b<4)(hlt:n<(ls a).length)(hs:SetsV w vs ls):
  Calls Tryz.prog 7 #[stepV 53 a b c fr to n wd many,setsV vs] w (AskF w (mOf (ls a)) true n (ls a).length):=by
 obtain ⟨la,lb,oa,ca,ob,cb,hla,hlb,hcap,HA,HB,HLA,HLB,EA,EB⟩:=askIn hs ha hb
 unfold stepV setsV
 clear hs
 go_enter Tryz.func7,Tryz.ntmps7
 go_wp2
 obtain ⟨w1,hw1,c0,c1,c2,c3,c4,HW⟩:=askMid 53 c fr to n wd many ha hb EA EB
 rw [hw1];clear hw1
 go_quiet (fail)
 go_wp2_with (go_at_call 21;refine (askJ nq hla hlb HA HB HLA HLB HW).out.mono ?_;rintro e w2 ⟨v3,rfl,k0,HC,HK,HA2,HB2⟩;refine Hid.out ?_)
 refine Lib.hid ?_
 clear c0 c1 c2 c3 c4
 have q6:=HK.out.c6
 have d0:n<la:=by rw [HLA.out];exact hlt
 go_wp2_with (first|(go_at_call 24;(with_reducible refine HC.out.mono ?_);rintro e w' ⟨rfl,hw⟩;obtain rfl:=hw.symm))
 clear k0 q6 hlt
 go_loopw [11] (fun i wr=>∃k:Nat,n<=k/\k<=la/\i= .int .i64 (k:Int)/\(∀j,n<=j->j<k->mOf (ls a) j= !true)/\AskS wr w w.heap.size 53 fr to n/\BL wr (.slice oa la ca) (ls a)) (fun i _=>la-(intOf i).toNat)
 case atStart=>exact ⟨n,Nat.le_refl _,by omega,rfl,fun j h1 h2=>absurd h1 (by omega),HK.out,HA2.out⟩
 case round=>
  obtain ⟨k,hnk,hk,rfl,hz,hs,hb⟩:=hrel
  clear HK HA2 HC HB2
  have HK:=Lib.hid hs;have HA2:=Lib.hid hb;have HZ:=Lib.hid hz
  clear hs hb hz
  have k0:=HK.out.c0
  have HCL:=askCell HA2 HLA
  by_cases hlt:k<la
  ·obtain ⟨s,c',e1,hc⟩:=HCL.out k hlt
   clear HCL
   cases e1
   cases hb:mOf (ls a) k
   ·rw [hb]at hc
    have HB:=Lib.hid hb;clear hb
    go_wp2
    go_quiet (fail)
    go_wp2
    go_roundw
    case rel=>
     refine ⟨k+1,by omega,by omega,by go_num,fun j h1 h2=>?_,HK.out.drewN _,HA2.out.drewN _⟩
     rcases Nat.lt_or_ge j k with h|h
     ·exact HZ.out j h1 h
     ·rw [show j=k by omega];exact HB.out
    case measure=>simp [intOf];omega
   ·rw [hb]at hc
    have HB:=Lib.hid hb;clear hb
    go_wp2
    go_quiet (fail)
    go_wp2_with ((go_at_call 25;refine (place_t _ _).mono ?_;rintro e w3 ⟨rfl,hf3⟩;refine Hid.out ?_))
    refine Lib.hid ?_
    have HK2:=Lib.hid (HK.out.drewN nq)
    clear HK k0
    have HK:=HK2
    have HK3:=Lib.hid (HK.out.keep hf3)
    obtain ⟨e0,f0,e1,f1,e2,f2,e3,f3,e4,f4,e5,f5⟩:=HK3.out.six
    clear hf3
    go_wp2
    clear e0 e1 e2 e3 e4 e5 f0 f1 f2 f3 f4 f5
    obtain ⟨w4,hw4,e0,e1,e2,e3,e4,e5,HF⟩:=askSix true (k:Nat) 0 ByteArray.empty nilV nilV 0 rfl [] [] HK3 (Lst.nil _ 29 1) (Lst.nil _ 5 1) (noOwn _) (noOwn _)
    rw [hw4];clear hw4
    simp [bodyPost,results,Tryz.f7,Tryz.results7,go_sem,e0,e1,e2,e3,e4,e5]
    exact ⟨true,k,.inl ⟨rfl,hnk,by have:=HLA.out;omega,HB.out,HZ.out⟩,HF.out⟩
  ·have hkk:k=la:=by omega
   have HKK:=Lib.hid hkk;clear hkk HCL
   go_wp2_with ((go_at_call 25;refine (place_f _ _).mono ?_;rintro e w3 ⟨rfl,hf3⟩;refine Hid.out ?_))
   refine Lib.hid ?_
   clear k0
   have HK3:=Lib.hid (HK.out.keep hf3)
   obtain ⟨e0,f0,e1,f1,e2,f2,e3,f3,e4,f4,e5,f5⟩:=HK3.out.six
   clear hf3
   go_wp2
   clear e0 e1 e2 e3 e4 e5 f0 f1 f2 f3 f4 f5
   obtain ⟨w4,hw4,e0,e1,e2,e3,e4,e5,HF⟩:=askSix false 0 0 ByteArray.empty nilV nilV 0 rfl [] [] HK3 (Lst.nil _ 29 1) (Lst.nil _ 5 1) (noOwn _) (noOwn _)
   rw [hw4];clear hw4
   simp [bodyPost,results,Tryz.f7,Tryz.results7,go_sem,e0,e1,e2,e3,e4,e5]
   exact ⟨false,0,.inr ⟨rfl,rfl,fun j h1 h2=>HZ.out j h1 (by rw [HKK.out,HLA.out];exact h2)⟩,HF.out⟩
theorem ask_54n(a b c fr to n:Nat)(wd:BitVec 64)(many:Value)(vs:Nat->Value)(ls:Nat->List Bool)(w:World)(ha:a<4)(hb:b<4)(hge:(ls a).length<=n)(hs:SetsV w vs ls):
  Calls Tryz.prog 7 #[stepV 54 a b c fr to n wd many,setsV vs] w (AskN w):=by
 obtain ⟨la,lb,oa,ca,ob,cb,hla,hlb,hcap,HA,HB,HLA,HLB,EA,EB⟩:=askIn hs ha hb
 unfold stepV setsV
 clear hs
 go_enter Tryz.func7,Tryz.ntmps7
 go_wp2
 obtain ⟨w1,hw1,c0,c1,c2,c3,c4,HW⟩:=askMid 54 c fr to n wd many ha hb EA EB
 rw [hw1];clear hw1
 go_quiet (fail)
 go_wp2_with (go_at_call 21;refine (askJ nq hla hlb HA HB HLA HLB HW).out.mono ?_;rintro e w2 ⟨v3,rfl,k0,HC,HK,HA2,HB2⟩;refine Hid.out ?_)
 refine Lib.hid ?_
 clear c0 c1 c2 c3 c4
 have q6:=HK.out.c6
 have d0:la<=n:=by rw [HLA.out];exact hge
 obtain ⟨e0,f0,e1,f1,e2,f2,e3,f3,e4,f4,e5,f5⟩:=HK.out.six
 go_wp2_with (first|(go_at_call 24;(with_reducible refine HC.out.mono ?_);rintro e w' ⟨rfl,hw⟩;obtain rfl:=hw.symm))
 clear e0 e1 e2 e3 e4 e5 f0 f1 f2 f3 f4 f5
 obtain ⟨w4,hw4,e0,e1,e2,e3,e4,e5,HF⟩:=askSixN HK
 rw [hw4];clear hw4
 simp [bodyPost,results,Tryz.f7,Tryz.results7,go_sem,e0,e1,e2,e3,e4,e5]
 exact HF.out
theorem ask_54(a b c fr to n:Nat)(wd:BitVec 64)(many:Value)(vs:Nat->Value)(ls:Nat->List Bool)(w:World)(ha:a<4)(hb:b<4)(hlt:n<(ls a).length)(hs:SetsV w vs ls):
  Calls Tryz.prog 7 #[stepV 54 a b c fr to n wd many,setsV vs] w (AskF w (mOf (ls a)) false n (ls a).length):=by
 obtain ⟨la,lb,oa,ca,ob,cb,hla,hlb,hcap,HA,HB,HLA,HLB,EA,EB⟩:=askIn hs ha hb
 unfold stepV setsV
 clear hs
 go_enter Tryz.func7,Tryz.ntmps7
 go_wp2
 obtain ⟨w1,hw1,c0,c1,c2,c3,c4,HW⟩:=askMid 54 c fr to n wd many ha hb EA EB
 rw [hw1];clear hw1
 go_quiet (fail)
 go_wp2_with (go_at_call 21;refine (askJ nq hla hlb HA HB HLA HLB HW).out.mono ?_;rintro e w2 ⟨v3,rfl,k0,HC,HK,HA2,HB2⟩;refine Hid.out ?_)
 refine Lib.hid ?_
 clear c0 c1 c2 c3 c4
 have q6:=HK.out.c6
 have d0:n<la:=by rw [HLA.out];exact hlt
 go_wp2_with (first|(go_at_call 24;(with_reducible refine HC.out.mono ?_);rintro e w' ⟨rfl,hw⟩;obtain rfl:=hw.symm))
 clear k0 q6 hlt
 go_loopw [11] (fun i wr=>∃k:Nat,n<=k/\k<=la/\i= .int .i64 (k:Int)/\(∀j,n<=j->j<k->mOf (ls a) j= !false)/\AskS wr w w.heap.size 54 fr to n/\BL wr (.slice oa la ca) (ls a)) (fun i _=>la-(intOf i).toNat)
 case atStart=>exact ⟨n,Nat.le_refl _,by omega,rfl,fun j h1 h2=>absurd h1 (by omega),HK.out,HA2.out⟩
 case round=>
  obtain ⟨k,hnk,hk,rfl,hz,hs,hb⟩:=hrel
  clear HK HA2 HC HB2
  have HK:=Lib.hid hs;have HA2:=Lib.hid hb;have HZ:=Lib.hid hz
  clear hs hb hz
  have k0:=HK.out.c0
  have HCL:=askCell HA2 HLA
  by_cases hlt:k<la
  ·obtain ⟨s,c',e1,hc⟩:=HCL.out k hlt
   clear HCL
   cases e1
   cases hb:mOf (ls a) k
   ·rw [hb]at hc
    have HB:=Lib.hid hb;clear hb
    go_wp2
    go_quiet (fail)
    go_wp2_with ((go_at_call 25;refine (place_t _ _).mono ?_;rintro e w3 ⟨rfl,hf3⟩;refine Hid.out ?_))
    refine Lib.hid ?_
    have HK2:=Lib.hid (HK.out.drewN nq)
    clear HK k0
    have HK:=HK2
    have HK3:=Lib.hid (HK.out.keep hf3)
    obtain ⟨e0,f0,e1,f1,e2,f2,e3,f3,e4,f4,e5,f5⟩:=HK3.out.six
    clear hf3
    go_wp2
    clear e0 e1 e2 e3 e4 e5 f0 f1 f2 f3 f4 f5
    obtain ⟨w4,hw4,e0,e1,e2,e3,e4,e5,HF⟩:=askSix true (k:Nat) 0 ByteArray.empty nilV nilV 0 rfl [] [] HK3 (Lst.nil _ 29 1) (Lst.nil _ 5 1) (noOwn _) (noOwn _)
    rw [hw4];clear hw4
    simp [bodyPost,results,Tryz.f7,Tryz.results7,go_sem,e0,e1,e2,e3,e4,e5]
    exact ⟨true,k,.inl ⟨rfl,hnk,by have:=HLA.out;omega,HB.out,HZ.out⟩,HF.out⟩
   ·rw [hb]at hc
    have HB:=Lib.hid hb;clear hb
    go_wp2
    go_quiet (fail)
    go_wp2
    go_roundw
    case rel=>
     refine ⟨k+1,by omega,by omega,by go_num,fun j h1 h2=>?_,HK.out.drewN _,HA2.out.drewN _⟩
     rcases Nat.lt_or_ge j k with h|h
     ·exact HZ.out j h1 h
     ·rw [show j=k by omega];exact HB.out
    case measure=>simp [intOf];omega
  ·have hkk:k=la:=by omega
   have HKK:=Lib.hid hkk;clear hkk HCL
   go_wp2_with ((go_at_call 25;refine (place_f _ _).mono ?_;rintro e w3 ⟨rfl,hf3⟩;refine Hid.out ?_))
   refine Lib.hid ?_
   clear k0
   have HK3:=Lib.hid (HK.out.keep hf3)
   obtain ⟨e0,f0,e1,f1,e2,f2,e3,f3,e4,f4,e5,f5⟩:=HK3.out.six
   clear hf3
   go_wp2
   clear e0 e1 e2 e3 e4 e5 f0 f1 f2 f3 f4 f5
   obtain ⟨w4,hw4,e0,e1,e2,e3,e4,e5,HF⟩:=askSix false 0 0 ByteArray.empty nilV nilV 0 rfl [] [] HK3 (Lst.nil _ 29 1) (Lst.nil _ 5 1) (noOwn _) (noOwn _)
   rw [hw4];clear hw4
   simp [bodyPost,results,Tryz.f7,Tryz.results7,go_sem,e0,e1,e2,e3,e4,e5]
   exact ⟨false,0,.inr ⟨rfl,rfl,fun j h1 h2=>HZ.out j h1 (by rw [HKK.out,HLA.out];exact h2)⟩,HF.out⟩
end Go.Proofs.YtobdfhlmipcjbaaGreatDoor
