/- spec.Ask: the place before. Conditions: places of four, lengths of at most 6,000. spec.Ask: a word at a place. Conditions: places of four, lengths of at most 6,000. spec.Ask: the text. Conditions: places of four, lengths of at most 6,000. spec.Ask: the bytes. Conditions: places of four, lengths of at most 6,000. New: an empty set of a length, in new memory (its deferred closure finds no panic). Conditions: the length is at most 50,000. -/
import Derived.Defers
import Derived.Recover
import Derived.Laws.Pointers
import Derived.Test.YtobdfhlmipcjbaaGreatDoorG03
import Derived.Test.YtobdfhlmipcjbaaGreatDoorG05
import Derived.Test.YtobdfhlmipcjbaaGreatDoorG06
import Derived.Test.YtobdfhlmipcjbaaGreatDoorG18
import Derived.Test.YtobdfhlmipcjbaaGreatDoorG19
import Derived.Test.YtobdfhlmipcjbaaGreatDoorG21
set_option linter.unusedVariables false
set_option linter.unusedSimpArgs false
set_option maxHeartbeats 2000000
set_option maxRecDepth 100000
namespace Go.Proofs.YtobdfhlmipcjbaaGreatDoor
open Go.RowKit
theorem ask_55n(a b c fr to n:Nat)(wd:BitVec 64)(many:Value)(vs:Nat->Value)(ls:Nat->List Bool)(w:World)(ha:a<4)(hb:b<4)(hge:(ls a).length<=n)(hs:SetsV w vs ls):
  Calls Tryz.prog 7 #[stepV 55 a b c fr to n wd many,setsV vs] w (AskN w):=by
 obtain ⟨la,lb,oa,ca,ob,cb,hla,hlb,hcap,HA,HB,HLA,HLB,EA,EB⟩:=askIn hs ha hb
 unfold stepV setsV
 clear hs
 go_enter Tryz.func7,Tryz.ntmps7
 go_wp2
 obtain ⟨w1,hw1,c0,c1,c2,c3,c4,HW⟩:=askMid 55 c fr to n wd many ha hb EA EB
 rw [hw1];clear hw1
 go_quiet (fail)
 go_wp2_with (go_at_call 21;refine (askJ nq hla hlb HA HB HLA HLB HW).out.mono ?_;rintro e w2 ⟨v3,rfl,k0,HC,HK,HA2,HB2⟩;refine Hid.out ?_)
 refine Lib.hid ?_
 clear c0 c1 c2 c3 c4
 have q6:=HK.out.c6
 have d0:la<=n:=by rw [HLA.out];exact hge
 obtain ⟨e0,f0,e1,f1,e2,f2,e3,f3,e4,f4,e5,f5⟩:=HK.out.six
 go_wp2_with (first|(go_at_call 24;(with_reducible refine HC.out.mono ?_);rintro e w' ⟨rfl,hw⟩;obtain rfl:=hw.symm))
 clear e0 e1 e2 e3 e4 e5 f0 f1 f2 f3 f4 f5
 obtain ⟨w4,hw4,e0,e1,e2,e3,e4,e5,HF⟩:=askSixN HK
 rw [hw4];clear hw4
 simp [bodyPost,results,Tryz.f7,Tryz.results7,go_sem,e0,e1,e2,e3,e4,e5]
 exact HF.out
theorem ask_55(a b c fr to n:Nat)(wd:BitVec 64)(many:Value)(vs:Nat->Value)(ls:Nat->List Bool)(w:World)(ha:a<4)(hb:b<4)(hlt:n<(ls a).length)(hs:SetsV w vs ls):
  Calls Tryz.prog 7 #[stepV 55 a b c fr to n wd many,setsV vs] w (AskL w (mOf (ls a)) true n):=by
 obtain ⟨la,lb,oa,ca,ob,cb,hla,hlb,hcap,HA,HB,HLA,HLB,EA,EB⟩:=askIn hs ha hb
 unfold stepV setsV
 clear hs
 go_enter Tryz.func7,Tryz.ntmps7
 go_wp2
 obtain ⟨w1,hw1,c0,c1,c2,c3,c4,HW⟩:=askMid 55 c fr to n wd many ha hb EA EB
 rw [hw1];clear hw1
 go_quiet (fail)
 go_wp2_with (go_at_call 21;refine (askJ nq hla hlb HA HB HLA HLB HW).out.mono ?_;rintro e w2 ⟨v3,rfl,k0,HC,HK,HA2,HB2⟩;refine Hid.out ?_)
 refine Lib.hid ?_
 clear c0 c1 c2 c3 c4
 have q6:=HK.out.c6
 have d0:n<la:=by rw [HLA.out];exact hlt
 go_wp2_with (first|(go_at_call 24;(with_reducible refine HC.out.mono ?_);rintro e w' ⟨rfl,hw⟩;obtain rfl:=hw.symm))
 clear k0 q6 hlt
 go_loopw [12] (fun i wr=>∃k:Nat,k<=n+1/\i= .int .i64 ((k:Int)-1)/\(∀j,k<=j->j<=n->mOf (ls a) j= !true)/\AskS wr w w.heap.size 55 fr to n/\BL wr (.slice oa la ca) (ls a)) (fun i _=>(intOf i+1).toNat)
 case atStart=>exact ⟨n+1,Nat.le_refl _,by go_num,fun j h1 h2=>absurd h1 (by omega),HK.out,HA2.out⟩
 case round=>
  obtain ⟨k,hk,rfl,hz,hs,hb⟩:=hrel
  clear HK HA2 HC HB2
  have HK:=Lib.hid hs;have HA2:=Lib.hid hb;have HZ:=Lib.hid hz
  clear hs hb hz
  have k0:=HK.out.c0
  have HCL:=askCell HA2 HLA
  rcases Nat.eq_zero_or_pos k with rfl|hlt
  ·go_wp2_with ((go_at_call 25;refine (place_f _ _).mono ?_;rintro e w3 ⟨rfl,hf3⟩;refine Hid.out ?_))
   refine Lib.hid ?_
   clear k0 HCL
   have HK3:=Lib.hid (HK.out.keep hf3)
   obtain ⟨e0,f0,e1,f1,e2,f2,e3,f3,e4,f4,e5,f5⟩:=HK3.out.six
   clear hf3
   go_wp2
   clear e0 e1 e2 e3 e4 e5 f0 f1 f2 f3 f4 f5
   obtain ⟨w4,hw4,e0,e1,e2,e3,e4,e5,HF⟩:=askSix false 0 0 ByteArray.empty nilV nilV 0 rfl [] [] HK3 (Lst.nil _ 29 1) (Lst.nil _ 5 1) (noOwn _) (noOwn _)
   rw [hw4];clear hw4
   simp [bodyPost,results,Tryz.f7,Tryz.results7,go_sem,e0,e1,e2,e3,e4,e5]
   exact ⟨false,0,.inr ⟨rfl,rfl,fun j h1=>HZ.out j (Nat.zero_le _) h1⟩,HF.out⟩
  ·obtain ⟨j,rfl⟩:∃j,k=j+1:=⟨k-1,by omega⟩
   obtain ⟨s,c',e1,hc⟩:=HCL.out j (by omega)
   clear HCL
   cases e1
   have ej:((j+1:Nat):Int)-1=(j:Int):=by omega
   rw [ej]
   cases hb:mOf (ls a) j
   ·rw [hb]at hc
    have HB:=Lib.hid hb;have EJ:=Lib.hid ej;clear hb ej
    go_wp2
    go_quiet (fail)
    go_wp2
    go_roundw
    case rel=>
     refine ⟨j,by omega,rfl,fun q h1 h2=>?_,HK.out.drewN _,HA2.out.drewN _⟩
     rcases Nat.lt_or_ge j q with h|h
     ·exact HZ.out q h h2
     ·rw [show q=j by omega];exact HB.out
    case measure=>simp [intOf]
   ·rw [hb]at hc
    have HB:=Lib.hid hb;have EJ:=Lib.hid ej;clear hb ej
    go_wp2
    go_quiet (fail)
    go_wp2_with ((go_at_call 25;refine (place_t _ _).mono ?_;rintro e w3 ⟨rfl,hf3⟩;refine Hid.out ?_))
    refine Lib.hid ?_
    have HK2:=Lib.hid (HK.out.drewN nq)
    clear HK k0
    have HK:=HK2
    have HK3:=Lib.hid (HK.out.keep hf3)
    obtain ⟨e0,f0,e1,f1,e2,f2,e3,f3,e4,f4,e5,f5⟩:=HK3.out.six
    clear hf3
    go_wp2
    clear e0 e1 e2 e3 e4 e5 f0 f1 f2 f3 f4 f5
    obtain ⟨w4,hw4,e0,e1,e2,e3,e4,e5,HF⟩:=askSix true (j:Nat) 0 ByteArray.empty nilV nilV 0 rfl [] [] HK3 (Lst.nil _ 29 1) (Lst.nil _ 5 1) (noOwn _) (noOwn _)
    rw [hw4];clear hw4
    simp [bodyPost,results,Tryz.f7,Tryz.results7,go_sem,e0,e1,e2,e3,e4,e5]
    exact ⟨true,j,.inl ⟨rfl,by omega,HB.out,fun q h1 h2=>HZ.out q h1 h2⟩,HF.out⟩
theorem ask_56n(a b c fr to n:Nat)(wd:BitVec 64)(many:Value)(vs:Nat->Value)(ls:Nat->List Bool)(w:World)(ha:a<4)(hb:b<4)(hge:(ls a).length<=n)(hs:SetsV w vs ls):
  Calls Tryz.prog 7 #[stepV 56 a b c fr to n wd many,setsV vs] w (AskN w):=by
 obtain ⟨la,lb,oa,ca,ob,cb,hla,hlb,hcap,HA,HB,HLA,HLB,EA,EB⟩:=askIn hs ha hb
 unfold stepV setsV
 clear hs
 go_enter Tryz.func7,Tryz.ntmps7
 go_wp2
 obtain ⟨w1,hw1,c0,c1,c2,c3,c4,HW⟩:=askMid 56 c fr to n wd many ha hb EA EB
 rw [hw1];clear hw1
 go_quiet (fail)
 go_wp2_with (go_at_call 21;refine (askJ nq hla hlb HA HB HLA HLB HW).out.mono ?_;rintro e w2 ⟨v3,rfl,k0,HC,HK,HA2,HB2⟩;refine Hid.out ?_)
 refine Lib.hid ?_
 clear c0 c1 c2 c3 c4
 have q6:=HK.out.c6
 have d0:la<=n:=by rw [HLA.out];exact hge
 obtain ⟨e0,f0,e1,f1,e2,f2,e3,f3,e4,f4,e5,f5⟩:=HK.out.six
 go_wp2_with (first|(go_at_call 24;(with_reducible refine HC.out.mono ?_);rintro e w' ⟨rfl,hw⟩;obtain rfl:=hw.symm))
 clear e0 e1 e2 e3 e4 e5 f0 f1 f2 f3 f4 f5
 obtain ⟨w4,hw4,e0,e1,e2,e3,e4,e5,HF⟩:=askSixN HK
 rw [hw4];clear hw4
 simp [bodyPost,results,Tryz.f7,Tryz.results7,go_sem,e0,e1,e2,e3,e4,e5]
 exact HF.out
theorem ask_56(a b c fr to n:Nat)(wd:BitVec 64)(many:Value)(vs:Nat->Value)(ls:Nat->List Bool)(w:World)(ha:a<4)(hb:b<4)(hlt:n<(ls a).length)(hs:SetsV w vs ls):
  Calls Tryz.prog 7 #[stepV 56 a b c fr to n wd many,setsV vs] w (AskL w (mOf (ls a)) false n):=by
 obtain ⟨la,lb,oa,ca,ob,cb,hla,hlb,hcap,HA,HB,HLA,HLB,EA,EB⟩:=askIn hs ha hb
 unfold stepV setsV
 clear hs
 go_enter Tryz.func7,Tryz.ntmps7
 go_wp2
 obtain ⟨w1,hw1,c0,c1,c2,c3,c4,HW⟩:=askMid 56 c fr to n wd many ha hb EA EB
 rw [hw1];clear hw1
 go_quiet (fail)
 go_wp2_with (go_at_call 21;refine (askJ nq hla hlb HA HB HLA HLB HW).out.mono ?_;rintro e w2 ⟨v3,rfl,k0,HC,HK,HA2,HB2⟩;refine Hid.out ?_)
 refine Lib.hid ?_
 clear c0 c1 c2 c3 c4
 have q6:=HK.out.c6
 have d0:n<la:=by rw [HLA.out];exact hlt
 go_wp2_with (first|(go_at_call 24;(with_reducible refine HC.out.mono ?_);rintro e w' ⟨rfl,hw⟩;obtain rfl:=hw.symm))
 clear k0 q6 hlt
 go_loopw [12] (fun i wr=>∃k:Nat,k<=n+1/\i= .int .i64 ((k:Int)-1)/\(∀j,k<=j->j<=n->mOf (ls a) j= !false)/\AskS wr w w.heap.size 56 fr to n/\BL wr (.slice oa la ca) (ls a)) (fun i _=>(intOf i+1).toNat)
 case atStart=>exact ⟨n+1,Nat.le_refl _,by go_num,fun j h1 h2=>absurd h1 (by omega),HK.out,HA2.out⟩
 case round=>
  obtain ⟨k,hk,rfl,hz,hs,hb⟩:=hrel
  clear HK HA2 HC HB2
  have HK:=Lib.hid hs;have HA2:=Lib.hid hb;have HZ:=Lib.hid hz
  clear hs hb hz
  have k0:=HK.out.c0
  have HCL:=askCell HA2 HLA
  rcases Nat.eq_zero_or_pos k with rfl|hlt
  ·go_wp2_with ((go_at_call 25;refine (place_f _ _).mono ?_;rintro e w3 ⟨rfl,hf3⟩;refine Hid.out ?_))
   refine Lib.hid ?_
   clear k0 HCL
   have HK3:=Lib.hid (HK.out.keep hf3)
   obtain ⟨e0,f0,e1,f1,e2,f2,e3,f3,e4,f4,e5,f5⟩:=HK3.out.six
   clear hf3
   go_wp2
   clear e0 e1 e2 e3 e4 e5 f0 f1 f2 f3 f4 f5
   obtain ⟨w4,hw4,e0,e1,e2,e3,e4,e5,HF⟩:=askSix false 0 0 ByteArray.empty nilV nilV 0 rfl [] [] HK3 (Lst.nil _ 29 1) (Lst.nil _ 5 1) (noOwn _) (noOwn _)
   rw [hw4];clear hw4
   simp [bodyPost,results,Tryz.f7,Tryz.results7,go_sem,e0,e1,e2,e3,e4,e5]
   exact ⟨false,0,.inr ⟨rfl,rfl,fun j h1=>HZ.out j (Nat.zero_le _) h1⟩,HF.out⟩
  ·obtain ⟨j,rfl⟩:∃j,k=j+1:=⟨k-1,by omega⟩
   obtain ⟨s,c',e1,hc⟩:=HCL.out j (by omega)
   clear HCL
   cases e1
   have ej:((j+1:Nat):Int)-1=(j:Int):=by omega
   rw [ej]
   cases hb:mOf (ls a) j
   ·rw [hb]at hc
    have HB:=Lib.hid hb;have EJ:=Lib.hid ej;clear hb ej
    go_wp2
    go_quiet (fail)
    go_wp2_with ((go_at_call 25;refine (place_t _ _).mono ?_;rintro e w3 ⟨rfl,hf3⟩;refine Hid.out ?_))
    refine Lib.hid ?_
    have HK2:=Lib.hid (HK.out.drewN nq)
    clear HK k0
    have HK:=HK2
    have HK3:=Lib.hid (HK.out.keep hf3)
    obtain ⟨e0,f0,e1,f1,e2,f2,e3,f3,e4,f4,e5,f5⟩:=HK3.out.six
    clear hf3
    go_wp2
    clear e0 e1 e2 e3 e4 e5 f0 f1 f2 f3 f4 f5
    obtain ⟨w4,hw4,e0,e1,e2,e3,e4,e5,HF⟩:=askSix true (j:Nat) 0 ByteArray.empty nilV nilV 0 rfl [] [] HK3 (Lst.nil _ 29 1) (Lst.nil _ 5 1) (noOwn _) (noOwn _)
    rw [hw4];clear hw4
    simp [bodyPost,results,Tryz.f7,Tryz.results7,go_sem,e0,e1,e2,e3,e4,e5]
    exact ⟨true,j,.inl ⟨rfl,by omega,HB.out,fun q h1 h2=>HZ.out q h1 h2⟩,HF.out⟩
   ·rw [hb]at hc
    have HB:=Lib.hid hb;have EJ:=Lib.hid ej;clear hb ej
    go_wp2
    go_quiet (fail)
    go_wp2
    go_roundw
    case rel=>
     refine ⟨j,by omega,rfl,fun q h1 h2=>?_,HK.out.drewN _,HA2.out.drewN _⟩
     rcases Nat.lt_or_ge j q with h|h
     ·exact HZ.out q h h2
     ·rw [show q=j by omega];exact HB.out
    case measure=>simp [intOf]
theorem ask_61(a b c fr to n:Nat)(wd:BitVec 64)(many:Value)(vs:Nat->Value)(ls:Nat->List Bool)(w:World)(ha:a<4)(hb:b<4)(hn:n<=2000)(hs:SetsV w vs ls):
  Calls Tryz.prog 7 #[stepV 61 a b c fr to n wd many,setsV vs] w (AskP w false 0 (pkAt (mOf (ls a)) n) ByteArray.empty [] []):=by
 obtain ⟨la,lb,oa,ca,ob,cb,hla,hlb,hcap,HA,HB,HLA,HLB,EA,EB⟩:=askIn hs ha hb
 unfold stepV setsV
 clear hs
 go_enter Tryz.func7,Tryz.ntmps7
 go_wp2
 obtain ⟨w1,hw1,c0,c1,c2,c3,c4,HW⟩:=askMid 61 c fr to n wd many ha hb EA EB
 rw [hw1];clear hw1
 go_quiet (fail)
 go_wp2_with (go_at_call 21;refine (askJ nq hla hlb HA HB HLA HLB HW).out.mono ?_;rintro e w2 ⟨v3,rfl,k0,HC,HK,HA2,HB2⟩;refine Hid.out ?_)
 refine Lib.hid ?_
 clear c0 c1 c2 c3 c4
 have q6:=HK.out.c6
 go_wp2_with (first|(go_at_call 24;(with_reducible refine HC.out.mono ?_);rintro e w' ⟨rfl,hw⟩;obtain rfl:=hw.symm))
 go_loopw [20,363] (fun x i wr=>∃(k:Nat) (y:BitVec 64),k<=64/\i= .int .i64 (k:Int)/\x= .int .u64 (wn y)/\y=(pk (fun i=>decide (i<k)&&mOf (ls a) (n+i)) 0)/\wr=w2) (fun x i _=>64-(intOf i).toNat)
 case atStart=>exact ⟨0,_,by omega,rfl,by rw [show (pk (fun i=>decide (i<0)&&mOf (ls a) (n+i)) 0)=0 from (pk_ext (fun j hj=>by simp)).symm];rfl,rfl,rfl⟩
 case round=>
  obtain ⟨k,y,hk,rfl,rfl,hy,rfl⟩:=hrel
  have HY:=Lib.hid hy;clear hy
  by_cases hlt:k<64
  ·have CH:∀b,mOf (ls a) (n+k)=b->Calls Tryz.prog 18 #[.slice oa la ca,.int .i64 ((n:Int)+(k:Int))] wr (fun e w'=>e= .returned (.bool b)/\w'=wr):=fun b hb=>by
    rw [show (n:Int)+(k:Int)=((n+k:Nat):Int) by omega]
    exact has_m _ (ls a) (n+k) b hb wr HA2.out
   cases hb:mOf (ls a) (n+k)
   ·have HCH:=Lib.hid (CH _ hb)
    have HB:=Lib.hid hb;clear CH hb
    go_wp2_with (go_at_call 18;refine HCH.out.mono ?_;rintro e w' ⟨rfl,hw⟩;obtain rfl:=hw.symm)
    go_roundw
    case rel=>
     refine ⟨k+1,y,by omega,by go_num,rfl,?_,by simp⟩
     rw [HY.out]
     exact pk_same fun j _=>by
      by_cases e:j=k
      ·subst e;simp [HB.out]
      ·have:decide (j<k+1)=decide (j<k):=by simp;omega
       simp only [Nat.mul_zero,Nat.zero_add,this]
    case measure=>simp [intOf];omega
   ·have HCH:=Lib.hid (CH _ hb)
    have HB:=Lib.hid hb;clear CH hb
    have hk63:k%64=k:=Nat.mod_eq_of_lt hlt
    have HK63:=Lib.hid hk63;clear hk63
    go_wp2_with (go_at_call 18;refine HCH.out.mono ?_;rintro e w' ⟨rfl,hw⟩;obtain rfl:=hw.symm)
    go_roundw
    case rel=>
     refine ⟨k+1,y|||((1:BitVec 64)<<<k),by omega,by go_num,by rw [wn_one_shl,wn_or],?_,by simp⟩
     rw [HY.out]
     have h:=pk_add (fun i=>mOf (ls a) (n+i)) k HB.out
     rw [HK63.out,Nat.div_eq_of_lt hlt]at h
     exact h
    case measure=>simp [intOf];omega
  ·have hkk:k=64:=by omega
   have HKK:=Lib.hid hkk;clear hkk
   obtain ⟨e0,f0,e1,f1,e2,f2,e3,f3,e4,f4,e5,f5⟩:=HK.out.six
   go_wp2
   clear e0 e1 e2 e3 e4 e5 f0 f1 f2 f3 f4 f5
   obtain ⟨w4,hw4,e0,e1,e2,e3,e4,e5,HF⟩:=askSix false 0 (wn y) { data:= #[] } nilV nilV y rfl [] [] HK (Lst.nil _ 29 1) (Lst.nil _ 5 1) (noOwn _) (noOwn _)
   rw [hw4];clear hw4
   simp [bodyPost,results,Tryz.f7,Tryz.results7,go_sem,e0,e1,e2,e3,e4,e5]
   have hF:=HF.out
   have e:y=pkAt (mOf (ls a)) n:=by
    rw [HY.out,HKK.out]
    exact pk_same fun j hj=>by simp [hj]
   rw [e]at hF
   rw [e]
   exact hF
theorem ask_62(a b c fr to n:Nat)(wd:BitVec 64)(many:Value)(vs:Nat->Value)(ls:Nat->List Bool)(w:World)(ha:a<4)(hb:b<4)(hs:SetsV w vs ls):
  Calls Tryz.prog 7 #[stepV 62 a b c fr to n wd many,setsV vs] w (AskP w false 0 0 (setT (mOf (ls a)) (ls a).length) [] []):=by
 obtain ⟨la,lb,oa,ca,ob,cb,hla,hlb,hcap,HA,HB,HLA,HLB,EA,EB⟩:=askIn hs ha hb
 unfold stepV setsV
 clear hs
 go_enter Tryz.func7,Tryz.ntmps7
 go_wp2
 obtain ⟨w1,hw1,c0,c1,c2,c3,c4,HW⟩:=askMid 62 c fr to n wd many ha hb EA EB
 rw [hw1];clear hw1
 go_quiet (fail)
 go_wp2_with (go_at_call 21;refine (askJ nq hla hlb HA HB HLA HLB HW).out.mono ?_;rintro e w2 ⟨v3,rfl,k0,HC,HK,HA2,HB2⟩;refine Hid.out ?_)
 refine Lib.hid ?_
 clear c0 c1 c2 c3 c4
 obtain ⟨c,hc⟩:∃c,c=cntN (mOf (ls a)) (ls a).length:=⟨_,rfl⟩
 have hcb:c<=6000:=by have:=cntN_le (mOf (ls a)) (ls a).length;have:=HLA.out;omega
 have CN:=spNumbers_c _ (ls a) w2 HA2.out (by have:=HLA.out;omega)
 rw [<- hc]at CN
 obtain ⟨L,hL⟩:∃L,L=(numsN (mOf (ls a)) (ls a).length):=⟨_,rfl⟩
 rw [<- hL]at CN
 have hLl:L.length=c:=by rw [hL,numsN_length,hc]
 have hLb:∀z∈L,z<10000:=fun z hz=>by rw [hL]at hz;have:=numsN_lt _ _ z hz;have:=HLA.out;omega
 have HC_:=Lib.hid hc;have HCN:=Lib.hid CN;have HL:=Lib.hid hL;have HLL:=Lib.hid hLl;have HLB:=Lib.hid hLb;clear hc CN hL hLl hLb
 go_wp2_with (first|(go_at_call 24;(with_reducible refine HC.out.mono ?_);rintro e w' ⟨rfl,hw⟩;obtain rfl:=hw.symm)|(go_at_call 12;refine HCN.out.mono ?_;rintro e w3 ⟨v4,rfl,hv4,hf3,ho4⟩;refine Hid.out ?_))
 refine Lib.hid ?_
 have HK3:=Lib.hid (HK.out.keep hf3)
 obtain ⟨ov,cv,rfl⟩:=hv4.sl
 have HV4:=Lib.hid hv4
 clear hv4 hf3 ho4 k0 HK HC HA2 HB2
 go_wp2
 go_loopw [22,384] (fun t i wr=>∃(k:Nat) (T:ByteArray),k<=c/\i= .int .i64 (k:Int)/\t= .string T/\T=⟨(123::jnT (L.take k)).toArray⟩/\AskS wr w w.heap.size 62 fr to n/\Lst wr 29 1 (.slice ov c cv) c (L.map (fun n:Nat=>Value.int .u64 (n:Int)))) (fun t i _=>c-(intOf i).toNat)
 case atStart=>exact ⟨0,⟨#[123]⟩,by omega,rfl,rfl,by simp [jnT],HK3.out,HV4.out⟩
 case round=>
  obtain ⟨k,T,hk,rfl,rfl,hT,hs,hv⟩:=hrel
  have HK:=Lib.hid hs;have HV:=Lib.hid hv;have HT:=Lib.hid hT
  have hT8:(T.size:Int)<=8388608:=by
   have h1:=jnT_len (L.take k) (fun z hz=>HLB.out z (List.mem_of_mem_take hz))
   have h2:=List.length_take_le k L
   rw [hT];show (((123::jnT (L.take k)).toArray.size:Nat):Int)<=_
   simp;omega
  clear hs hT
  by_cases hlt:k<c
  ·obtain ⟨s,c4,e1,y,hy,hcell⟩:=hv.at hlt
   cases e1
   clear hv
   have hlen:k<L.length:=by rw [HLL.out];exact hlt
   obtain ⟨z,hz⟩:∃z,L[k]? =some z:=⟨_,List.getElem?_eq_getElem hlen⟩
   have hy2:y=Value.int .u64 (z:Int):=by rw [List.getElem?_map,hz]at hy;simpa using hy.symm
   subst hy2
   have hzb:z<10000:=HLB.out z (List.mem_of_getElem? hz)
   obtain ⟨D,hD⟩:∃D:ByteArray,D=⟨(Lib.decDigits z).toArray⟩:=⟨_,rfl⟩
   have hD8:(D.size:Int)<=8388608:=by
    have:=dec4 hzb
    rw [hD];show (((Lib.decDigits z).toArray.size:Nat):Int)<=_;simp;omega
   have htk:L.take (k+1)=L.take k++ [z]:=(take_succ_get L k z hz).symm
   have HD:=Lib.hid hD;have HTK:=Lib.hid htk;clear hD htk hy hz hlen
   have HZB:=Lib.hid hzb
   rcases Nat.eq_zero_or_pos k with rfl|hpos
   ·go_wp2_with (go_at_call 26;refine (figures_c z _ (by omega)).mono ?_;rintro e w3 ⟨he,hf3⟩;rw [<- HD.out]at he;subst he;refine Hid.out ?_)
    refine Lib.hid ?_
    have HF3:=Lib.hid hf3;clear hf3
    go_wp2
    go_roundw
    case rel=>
     refine ⟨1,_,by omega,rfl,rfl,?_,HK.out.keep HF3.out,HV.out.keep HF3.out (fun _ _ h=>h)⟩
     have h:=HTK.out
     rw [Nat.zero_add]at h
     rw [h,HT.out,HD.out,ByteArray.mk_append_mk,List.take_zero,List.nil_append,jnT_one]
     simp [jnT]
    case measure=>simp [intOf];omega
   ·have hpi:decide ((0:Int)<(k:Int))=true:=by simp;omega
    have hT9:((T++(⟨#[44]⟩:ByteArray)).size:Int)<=8388608:=by
     have h1:=jnT_len (L.take k) (fun z hz=>HLB.out z (List.mem_of_mem_take hz))
     have h2:=List.length_take_le k L
     rw [HT.out,show ((⟨#[44]⟩:ByteArray))=⟨[44].toArray⟩ from rfl,ByteArray.mk_append_mk,bsz_l]
     simp;omega
    have h44:((⟨#[44]⟩:ByteArray).size:Int)<=8388608:=by show ((1:Nat):Int)<=_;omega
    go_wp2_with (go_at_call 26;refine (figures_c z _ (by omega)).mono ?_;rintro e w3 ⟨he,hf3⟩;rw [<- HD.out]at he;subst he;refine Hid.out ?_)
    refine Lib.hid ?_
    have HF3:=Lib.hid hf3;clear hf3
    go_wp2
    go_roundw
    case rel=>
     refine ⟨k+1,_,by omega,by go_num,rfl,?_,HK.out.keep HF3.out,HV.out.keep HF3.out (fun _ _ h=>h)⟩
     have hne:L.take k≠ []:=by
      intro e
      have:=congrArg List.length e
      rw [List.length_take,HLL.out]at this
      simp at this;omega
     rw [HTK.out,jnT_add hne,HT.out,HD.out,show ((⟨#[44]⟩:ByteArray))=⟨[44].toArray⟩ from rfl,ByteArray.mk_append_mk,ByteArray.mk_append_mk]
     simp
    case measure=>simp [intOf];omega
  ·have hkk:k=c:=by omega
   have HKK:=Lib.hid hkk;clear hkk hv
   have h125:((⟨#[125]⟩:ByteArray).size:Int)<=8388608:=by show ((1:Nat):Int)<=_;omega
   obtain ⟨e0,f0,e1,f1,e2,f2,e3,f3,e4,f4,e5,f5⟩:=HK.out.six
   go_wp2
   clear e0 e1 e2 e3 e4 e5 f0 f1 f2 f3 f4 f5
   obtain ⟨w4,hw4,e0,e1,e2,e3,e4,e5,HF⟩:=askSix false 0 0 (T++(⟨#[125]⟩:ByteArray)) nilV nilV 0 rfl [] [] HK (Lst.nil _ 29 1) (Lst.nil _ 5 1) (noOwn _) (noOwn _)
   rw [hw4];clear hw4
   simp [bodyPost,results,Tryz.f7,Tryz.results7,go_sem,e0,e1,e2,e3,e4,e5]
   have hF:=HF.out
   have e:T++(⟨#[125]⟩:ByteArray)=setT (mOf (ls a)) (ls a).length:=by
    rw [HT.out,HKK.out,<- HLL.out,List.take_length,HL.out,show ((⟨#[125]⟩:ByteArray))=⟨[125].toArray⟩ from rfl,ByteArray.mk_append_mk]
    rfl
   rw [e]at hF ⊢
   exact hF
theorem ask_63(a b c fr to n:Nat)(wd:BitVec 64)(many:Value)(vs:Nat->Value)(ls:Nat->List Bool)(w:World)(ha:a<4)(hb:b<4)(hs:SetsV w vs ls):
  Calls Tryz.prog 7 #[stepV 63 a b c fr to n wd many,setsV vs] w (AskP w true 0 0 ByteArray.empty [] ((bytesN (mOf (ls a)) (ls a).length) (nw (ls a).length))):=by
 obtain ⟨la,lb,oa,ca,ob,cb,hla,hlb,hcap,HA,HB,HLA,HLB,EA,EB⟩:=askIn hs ha hb
 unfold stepV setsV
 clear hs
 go_enter Tryz.func7,Tryz.ntmps7
 go_wp2
 obtain ⟨w1,hw1,c0,c1,c2,c3,c4,HW⟩:=askMid 63 c fr to n wd many ha hb EA EB
 rw [hw1];clear hw1
 go_quiet (fail)
 go_wp2_with (go_at_call 21;refine (askJ nq hla hlb HA HB HLA HLB HW).out.mono ?_;rintro e w2 ⟨v3,rfl,k0,HC,HK,HA2,HB2⟩;refine Hid.out ?_)
 refine Lib.hid ?_
 clear c0 c1 c2 c3 c4
 obtain ⟨i0,hi0,hz0,hz1,hz2⟩:=info_parts info5
 obtain ⟨q,hq⟩:∃q,q=nw (ls a).length:=⟨_,rfl⟩
 have hqb:q<=100:=by rw [hq];unfold nw;have:=HLA.out;omega
 have CB:∀w',Calls Tryz.prog 27 #[.int .u64 (la:Int)] w' (NewLst w' 5 1 8 ((bytesN (mOf (ls a)) (ls a).length) 0)):=fun w'=>by
  have h:=spBig_c (BitVec.ofNat 64 (ls a).length) w'
  rw [WV,<- wn_nat _ (by have:=HLA.out;omega),<- HLA.out]at h
  unfold bytesN
  rw [<- HLA.out];exact h
 have HQ:=Lib.hid hq;have HCB:=Lib.hid CB;clear hq CB
 go_wp2_with (first|(go_at_call 24;(with_reducible refine HC.out.mono ?_);rintro e w' ⟨rfl,hw⟩;obtain rfl:=hw.symm)|(go_at_call 27;refine (HCB.out _).mono ?_;rintro e w3 ⟨vb,rfl,hvb,hf3,hob⟩;refine Hid.out ?_))
 refine Lib.hid ?_
 have HK3:=Lib.hid (HK.out.keep hf3)
 have hA3:=HA2.out.keep hf3 (fun _ _ h=>h)
 have CW:=spWords_c _ (ls a) w3 hA3 (by have:=HLA.out;omega)
 rw [<- HQ.out]at CW
 have HVB:=Lib.hid hvb;have HCW:=Lib.hid CW
 have HOB:=Lib.hid (fun r hr=>Nat.le_trans HK.out.size (hob r hr):∀r,vb.ownBlock=some r->w.heap.size+3<=r)
 have HOB2:=Lib.hid hvb.own_lt
 clear hf3 hob hA3 CW hvb HK HC HA2 HB2 k0
 go_wp2_with (go_at_call 28;refine HCW.out.mono ?_;rintro e w5 ⟨v5,rfl,hv5,hf5,ho5⟩;refine Hid.out ?_)
 refine Lib.hid ?_
 have hvb5:=HVB.out.keep hf5 (fun _ _ h=>h)
 have hK5:=HK3.out.keep hf5
 obtain ⟨ov,cv,rfl⟩:=hv5.sl
 have H5:=Lib.hid hv5;have HVB5:=Lib.hid hvb5;have HK5:=Lib.hid hK5
 have HNE:=Lib.hid (fun r hr hr2=>by have:=HOB2.out r hr;have:=ho5 r hr2;omega:∀r,vb.ownBlock=some r->(Value.slice ov q cv).ownBlock=some r->False)
 clear hv5 hf5 ho5 hvb5 hK5 HVB HK3 HOB2
 go_wp2
 go_loopw [25,410] (fun x i wr=>∃k:Nat,k<=q/\i= .int .i64 (k:Int)/\Lst wr 5 1 x (8+8*k) ((bytesN (mOf (ls a)) (ls a).length) k)/\AskS wr w w.heap.size 63 fr to n/\Lst wr 29 1 (.slice ov q cv) q ((List.range q).map (fun j=>WV (pk (mOf (ls a)) j)))/\(∀r,x.ownBlock=some r->w.heap.size+3<=r)/\(∀r,x.ownBlock=some r->(Value.slice ov q cv).ownBlock=some r->False)) (fun x i _=>q-(intOf i).toNat)
 case atStart=>exact ⟨0,by omega,rfl,HVB5.out,HK5.out,H5.out,HOB.out,HNE.out⟩
 case round=>
  obtain ⟨k,hk,rfl,hx,hs,hv,ho,hn⟩:=hrel
  have HK:=Lib.hid hs;have HV:=Lib.hid hv;have HX:=Lib.hid hx;have HO:=Lib.hid ho;have HN:=Lib.hid hn
  clear hs hx ho hn
  by_cases hlt:k<q
  ·obtain ⟨s,c4,e1,y,hy,hcell⟩:=hv.at hlt
   cases e1
   clear hv
   have hy2:y=WV (pk (mOf (ls a)) k):=by
    rw [List.getElem?_map,List.getElem?_range hlt]at hy;simpa using hy.symm
   subst hy2
   clear hy
   go_wp2_with (go_at_call 27;refine (spBig_c (pk (mOf (ls a)) k) _).mono ?_;rintro e w6 ⟨v6,rfl,hv6,hf6,ho6⟩;refine Hid.out ?_)
   refine Lib.hid ?_
   have HX6:=Lib.hid (HX.out.keep hf6 (fun _ _ h=>h))
   have HV6:=Lib.hid hv6.src;have HF6:=Lib.hid hf6
   obtain ⟨o6,c6,rfl⟩:=hv6.sl
   clear hv6 hf6 ho6 hcell
   go_wp2_with (at_builtin;refine wpList_app 38 5 i0 _ 1 1 Tryz.underlying38 hi0 hz0 hz1 hz2 rfl (by omega) (by omega) (.tmp 414) (.tmp 416) rfl rfl _ _ _ _ HX6.out _ _ _ HV6.out (beL_one _) (by omega) rfl rfl ?_;intro v7 w7 hv7 hf7 hat7)
   go_roundw
   case rel=>
    have hfT:Fr (fun r=>w.heap.size+3<=r) wr w7:=(HF6.out.mono (fun r (hr:False)=>hr.elim)).trans' hf7 (fun r hr=> .inl (HO.out r hr))
    have hfV:Fr (fun r=>(Value.slice (some ⟨s,0,none⟩) q cv).ownBlock≠some r) wr w7:=(HF6.out.mono (fun r (hr:False)=>hr.elim)).trans' hf7 (fun r hr=> .inl (fun h=>HN.out r hr h))
    refine ⟨k+1,by omega,by go_num,?_,HK.out.keepT hfT (fun r hr=>hr),HV.out.keep hfV (fun r hr h=>h hr),?_,?_⟩
    ·rw [show 8+8*(k+1)=8+8*k+8 by omega];exact hv7
    ·intro r hr
     rcases hat7 with e|e
     ·exact HO.out r (e ▸ hr)
     ·rw [e]at hr;cases hr;have:=HF6.out.size;have:=HK.out.size;omega
    ·intro r hr h2
     rcases hat7 with e|e
     ·exact HN.out r (e ▸ hr) h2
     ·rw [e]at hr;cases hr;have:=HV.out.own_lt _ h2;have:=HF6.out.size;omega
   case measure=>simp [intOf];omega
  ·have hkk:k=q:=by omega
   have HKK:=Lib.hid hkk;clear hkk hv
   obtain ⟨o7,c7,e7⟩:=HX.out.sl
   subst e7
   have hfin:Hid (∀w',Lst w' 5 1 (.slice o7 (8+8*k) c7) (8+8*k) ((bytesN (mOf (ls a)) (ls a).length) k)->Lst w' 5 1 (.slice o7 (8+8*k) c7) ((bytesN (mOf (ls a)) (ls a).length) (nw (ls a).length)).length ((bytesN (mOf (ls a)) (ls a).length) (nw (ls a).length))):=fun w' h=>by rw [<- HQ.out,<- HKK.out,bytesN_length];exact h
   obtain ⟨e0,f0,e1,f1,e2,f2,e3,f3,e4,f4,e5,f5⟩:=HK.out.six
   go_wp2
   clear e0 e1 e2 e3 e4 e5 f0 f1 f2 f3 f4 f5
   obtain ⟨w4,hw4,e0,e1,e2,e3,e4,e5,HF⟩:=askSix true 0 0 { data:= #[] } nilV (.slice o7 (8+8*k) c7) 0 rfl [] ((bytesN (mOf (ls a)) (ls a).length) (nw (ls a).length)) HK (Lst.nil _ 29 1) (hfin.out _ HX.out) (noOwn _) HO.out
   rw [hw4];clear hw4
   simp [bodyPost,results,Tryz.f7,Tryz.results7,go_sem,e0,e1,e2,e3,e4,e5]
   exact HF.out
def MadeR(w:World)(L:Nat)(f:Nat->BitVec 64)(e:Ending)(w':World):Prop:=
 ∃b s c g,e= .returned (.pointer (some ⟨b,0,none⟩))/\RS w' b s L c g/\(∀i,i<nw L->g i=f i)/\Fr (fun _=>False) w w'/\w.heap.size<=b/\w.heap.size<=s
def MadeA(w:World)(L:Nat)(m:Nat->Bool)(e:Ending)(w':World):Prop:=
 ∃b v,e= .returned (.pointer (some ⟨b,0,none⟩))/\BA w' b v L m/\Fr (fun _=>False) w w'/\∀r,Own b v r->w.heap.size<=r
theorem MadeR.ma{w w':World}{L:Nat}{m:Nat->Bool}{e:Ending}(h:MadeR w L (pk m) e w')(hm:∀i,L<=i->m i=false):MadeA w L m e w':=by
 obtain ⟨b,s,c,g,he,r,hg,hf,hb,hs⟩:=h
 refine ⟨b,_,he,r.ba hg hm,hf,?_⟩
 rintro r (rfl|hr)
 ·exact hb
 ·simp [Value.ownBlock]at hr;omega
theorem newCatch_idle(p:Addr)(w:World):
  CallsD Tryz.prog 114 #[.pointer (some p)] .returning w fun e u' w'=>e= .returned (.tuple #[])/\u'= .returning/\w'=w:=by
 refine callsD_of_wpS Tryz.func114 rfl fun c₀ cs hu=>?_
 apply wpS_seq
 apply wpS_region
 simp [wpOpsS,go_sem,recoverD,hu,Tryz.ntmps114,Exit.thenS]
 apply wpS_seq
 apply wpS_region
 simp [wpOpsS,go_sem,Exit.thenS]
 refine wpS_cond (t:=false) (by simp [Act.eval,Array.replicate]) ?_
 simp only [Bool.false_eq_true,if_false]
 refine wpS_of_wp (wp_skip ?_)
 cases c₀
 simp_all [bodyPostS,results,Tryz.results114]
theorem new_c(L:Nat)(w:World)(hL:L<=50000):Calls Tryz.prog 71 #[.int .u64 L] w (MadeR w L (fun _=>0)):=by
 have hmf:∀(fn:Fn) (first cap:Array Value) (w:World),(Instr.makeFunc fn first cap).run Tryz.prog w= .ok (.func fn first cap) w:=fun _ _ _ _=>rfl
 obtain ⟨n,hn⟩:∃n,n=nw L:=⟨_,rfl⟩
 have hnb:n<=1000:=by subst hn;unfold nw;omega
 have hwn:∀w,Calls Tryz.prog 102 #[.int .u64 (L:Int)] w fun e w'=>e= .returned (.int .i64 (n:Int))/\w'=w:=fun w=>by rw [hn];exact wordsNeeded_c L w (by omega)
 have hmk:=make33 (n:Int) (n:Int) (by omega) (by omega) (by omega)
 rw [Int.toNat_natCast]at hmk
 have HW:=Lib.hid hwn;have HN:=Lib.hid hn;clear hwn hn
 go_enter_defers Tryz.func71,Tryz.ntmps71
 go_wp2_with (go_at_call 102;refine (HW.out _).mono ?_;rintro e w' ⟨rfl,rfl⟩)
 refine leaves_cons (f:=114) (args:= #[.pointer (some ⟨w.heap.size,0,none⟩)]) (by simp) (by simp [go_sem]) ?_
 refine (newCatch_idle ⟨w.heap.size,0,none⟩ _).mono ?_
 rintro e u' w'' ⟨rfl,rfl,rfl⟩
 simp [Leaves,settle,results,Tryz.results71,go_sem]
 have hN:=HN.out
 subst hN
 refine ⟨w.heap.size+1+1,w.heap.size+1,nw L,fun _=>0,rfl,⟨by omega,Nat.le_refl _,by unfold nw;omega,hL,?_,?_⟩,fun _ _=>rfl,(((Fr.refl _ w).alloc _).alloc _).alloc _,by omega,by omega⟩
 ·have:=hp_new ((w.alloc (Obj.cells #[Value.pointer (some ⟨w.heap.size+1+1,0,none⟩)] 73)).alloc (Obj.cells (madeCells #[Value.int IntKind.u64 0] (nw L)) 29)) (Obj.cells #[Value.int IntKind.u64 ↑L,Value.slice (some ⟨w.heap.size+1,0,none⟩) (nw L) (nw L)] 75)
  simpa using this
 ·have:=row_made (w.alloc (Obj.cells #[Value.pointer (some ⟨w.heap.size+1+1,0,none⟩)] 73)) (nw L)
  simp only [World.size_alloc]at this
  exact this.alloc _
end Go.Proofs.YtobdfhlmipcjbaaGreatDoor
