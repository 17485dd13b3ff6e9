/- spec.Ask: numbers counted up to a place, and between two. Conditions: places of four, lengths of at most 6,000. spec.Ask: what is not told; places sought, said. No condition. -/
import Derived.Test.YtobdfhlmipcjbaaGreatDoorG03
import Derived.Test.YtobdfhlmipcjbaaGreatDoorG06
import Derived.Test.YtobdfhlmipcjbaaGreatDoorG07
set_option linter.unusedVariables false
set_option linter.unusedSimpArgs false
set_option maxHeartbeats 2000000
set_option maxRecDepth 100000
namespace Go.Proofs.YtobdfhlmipcjbaaGreatDoor
open Go.RowKit
theorem cntN_flat(m:Nat->Bool){n k:Nat}(h:n<=k)(hz:∀i,n<=i->i<k->m i=false):cntN m k=cntN m n:=by
 obtain ⟨d,rfl⟩:=Nat.exists_eq_add_of_le h
 rw [cntN_add]
 have:(List.range d).countP (fun j=>m (n+j))=0:=by
  rw [List.countP_eq_zero]
  intro j hj
  have:=List.mem_range.1 hj
  simp [hz (n+j) (by omega) (by omega)]
 omega
theorem win_fin(m:Nat->Bool)(fr to k L:Nat)(hm:∀i,L<=i->m i=false)(hk:fr<=k)(h:min L to<=k):cntN (win m fr to) k=cntN (win m fr to) L:=by
 have hz:∀i,min L to<=i->win m fr to i=false:=fun i hi=>by
  unfold win
  by_cases h1:L<=i
  ·rw [hm i h1];rfl
  ·have:decide (i<to)=false:=by simp;omega
   rw [this];simp
 by_cases hL:k<=L
 ·exact (cntN_flat _ hL (fun i h1 _=>hz i (by omega))).symm
 ·rw [cntN_flat _ (show L<=k by omega) (fun i h1 _=>hz i (by omega))]
theorem ask_58(a b c fr to n:Nat)(wd:BitVec 64)(many:Value)(vs:Nat->Value)(ls:Nat->List Bool)(w:World)(ha:a<4)(hb:b<4)(hn:n<=2000)(hs:SetsV w vs ls):
  Calls Tryz.prog 7 #[stepV 58 a b c fr to n wd many,setsV vs] w (AskP w false ((cntN (mOf (ls a)) (min (ls a).length (n+1)):Nat):Int) 0 ByteArray.empty [] []):=by
 obtain ⟨la,lb,oa,ca,ob,cb,hla,hlb,hcap,HA,HB,HLA,HLB,EA,EB⟩:=askIn hs ha hb
 unfold stepV setsV
 clear hs
 go_enter Tryz.func7,Tryz.ntmps7
 go_wp2
 obtain ⟨w1,hw1,c0,c1,c2,c3,c4,HW⟩:=askMid 58 c fr to n wd many ha hb EA EB
 rw [hw1];clear hw1
 go_quiet (fail)
 go_wp2_with (go_at_call 21;refine (askJ nq hla hlb HA HB HLA HLB HW).out.mono ?_;rintro e w2 ⟨v3,rfl,k0,HC,HK,HA2,HB2⟩;refine Hid.out ?_)
 refine Lib.hid ?_
 clear c0 c1 c2 c3 c4
 have HCL:=askCell HA2 HLA
 have q6:=HK.out.c6
 go_wp2_with (first|(go_at_call 24;(with_reducible refine HC.out.mono ?_);rintro e w' ⟨rfl,hw⟩;obtain rfl:=hw.symm))
 obtain ⟨q,hq⟩:∃q:Nat,(q:Int)=min (la:Int) ((n:Int)+1):=⟨min la (n+1),by omega⟩
 have hq2:q=min la (n+1):=by omega
 rw [<- hq]
 have HQ:=Lib.hid hq2;clear hq hq2
 go_loopw [15,297] (fun x i wr=>∃k:Nat,k<=q/\i= .int .i64 (k:Int)/\x= .int .i64 ((cntN (mOf (ls a)) k:Nat):Int)/\wr=w2) (fun x i _=>q-(intOf i).toNat)
 case atStart=>exact ⟨0,by omega,rfl,rfl,rfl⟩
 case round=>
  obtain ⟨k,hk,rfl,rfl,rfl⟩:=hrel
  have hql:=HQ.out
  have hcb:=cntN_le (mOf (ls a)) k
  obtain ⟨y,hy⟩:∃y,y=cntN (mOf (ls a)) k:=⟨_,rfl⟩
  rw [<- hy]at hcb ⊢
  by_cases hlt:k<q
  ·have hkl:k<la:=by omega
   obtain ⟨s,c',e1,hc⟩:=HCL.out k hkl
   clear hql
   cases e1
   cases hb:mOf (ls a) k
   ·simp only [hb]at hc
    have HY:=Lib.hid hy;have HB:=Lib.hid hb;clear hy hb
    go_wp2
    go_roundw
    case rel=>exact ⟨k+1,by omega,by go_num,by simp [cntN,HB.out,HY.out],by simp⟩
    case measure=>simp [intOf];omega
   ·simp only [hb]at hc
    have HY:=Lib.hid hy;have HB:=Lib.hid hb;clear hy hb
    go_wp2
    go_roundw
    case rel=>exact ⟨k+1,by omega,by go_num,by simp [cntN,HB.out,HY.out],by simp⟩
    case measure=>simp [intOf];omega
  ·have hkk:k=q:=by omega
   have HY:=Lib.hid hy;clear hy hql
   have HKK:=Lib.hid hkk;clear hkk
   go_wp2_with ((go_at_call 22;refine (askNum_c _ _).mono ?_;rintro e w3 ⟨rfl,hf3⟩;refine Hid.out ?_))
   refine Lib.hid ?_
   have HK3:=Lib.hid (HK.out.keep hf3)
   obtain ⟨e0,f0,e1,f1,e2,f2,e3,f3,e4,f4,e5,f5⟩:=HK3.out.six
   clear hf3
   go_wp2
   clear e0 e1 e2 e3 e4 e5 f0 f1 f2 f3 f4 f5
   obtain ⟨w4,hw4,e0,e1,e2,e3,e4,e5,HF⟩:=askSix false (y:Nat) 0 ByteArray.empty nilV nilV 0 rfl [] [] HK3 (Lst.nil _ 29 1) (Lst.nil _ 5 1) (noOwn _) (noOwn _)
   rw [hw4];clear hw4
   simp [bodyPost,results,Tryz.f7,Tryz.results7,go_sem,e0,e1,e2,e3,e4,e5]
   have hY:=HY.out;rw [HKK.out,HQ.out,HLA.out]at hY;subst hY
   exact HF.out
theorem ask_60(a b c fr to n:Nat)(wd:BitVec 64)(many:Value)(vs:Nat->Value)(ls:Nat->List Bool)(w:World)(ha:a<4)(hb:b<4)(hf:fr<=2000)(ht:to<=2000)(hs:SetsV w vs ls):
  Calls Tryz.prog 7 #[stepV 60 a b c fr to n wd many,setsV vs] w (AskP w false ((cntN (win (mOf (ls a)) fr to) (ls a).length:Nat):Int) 0 ByteArray.empty [] []):=by
 obtain ⟨la,lb,oa,ca,ob,cb,hla,hlb,hcap,HA,HB,HLA,HLB,EA,EB⟩:=askIn hs ha hb
 unfold stepV setsV
 clear hs
 go_enter Tryz.func7,Tryz.ntmps7
 go_wp2
 obtain ⟨w1,hw1,c0,c1,c2,c3,c4,HW⟩:=askMid 60 c fr to n wd many ha hb EA EB
 rw [hw1];clear hw1
 go_quiet (fail)
 go_wp2_with (go_at_call 21;refine (askJ nq hla hlb HA HB HLA HLB HW).out.mono ?_;rintro e w2 ⟨v3,rfl,k0,HC,HK,HA2,HB2⟩;refine Hid.out ?_)
 refine Lib.hid ?_
 clear c0 c1 c2 c3 c4
 have HCL:=askCell HA2 HLA
 have q4:=HK.out.c4
 have q5:=HK.out.c5
 obtain ⟨q,hq⟩:∃q:Nat,(q:Int)=min (la:Int) (to:Int):=⟨min la to,by omega⟩
 have hq2:q=min la to:=by omega
 have HQ:=Lib.hid hq2;clear hq hq2
 go_wp2_with (first|(go_at_call 24;(with_reducible refine HC.out.mono ?_);rintro e w' ⟨rfl,hw⟩;obtain rfl:=hw.symm))
 go_loopw [18,19] (fun x i wr=>∃k:Nat,fr<=k/\(k<=fr\/k<=q)/\i= .int .i64 (k:Int)/\x= .int .i64 ((cntN (win (mOf (ls a)) fr to) k:Nat):Int)/\wr=w2) (fun x i _=>q-(intOf i).toNat)
 case atStart=>exact ⟨fr,Nat.le_refl _,.inl (Nat.le_refl _),rfl,by rw [win_low _ _ _ (Nat.le_refl _)];rfl,rfl⟩
 case round=>
  obtain ⟨k,hk,hk2,rfl,rfl,rfl⟩:=hrel
  have hql:=HQ.out
  have hcb:=cntN_le (win (mOf (ls a)) fr to) k
  obtain ⟨y,hy⟩:∃y,y=cntN (win (mOf (ls a)) fr to) k:=⟨_,rfl⟩
  rw [<- hy]at hcb ⊢
  by_cases hlt:k<q
  ·have hkl:k<la:=by omega
   have d0:decide ((k:Int)<min (la:Int) (to:Int))=true:=by simp;omega
   have hw:win (mOf (ls a)) fr to k=mOf (ls a) k:=by
    have h1:decide (fr<=k)=true:=by simp;omega
    have h2:decide (k<to)=true:=by simp;omega
    simp [win,h1,h2]
   obtain ⟨s,c',e1,hc⟩:=HCL.out k hkl
   clear hql
   cases e1
   cases hb:mOf (ls a) k
   ·simp only [hb]at hc hw
    have HY:=Lib.hid hy;have HB:=Lib.hid hw;clear hy hb hw
    go_wp2
    go_roundw
    case rel=>exact ⟨k+1,by omega,by omega,by go_num,by simp [cntN,HB.out,HY.out],by simp⟩
    case measure=>simp [intOf];omega
   ·simp only [hb]at hc hw
    have HY:=Lib.hid hy;have HB:=Lib.hid hw;clear hy hb hw
    go_wp2
    go_roundw
    case rel=>exact ⟨k+1,by omega,by omega,by go_num,by simp [cntN,HB.out,HY.out],by simp⟩
    case measure=>simp [intOf];omega
  ·have d0:decide ((k:Int)<min (la:Int) (to:Int))=false:=by simp;omega
   have hfin:y=cntN (win (mOf (ls a)) fr to) (ls a).length:=by
    rw [hy]
    have hL:=HLA.out
    exact win_fin (mOf (ls a)) fr to k (ls a).length (fun i hi=>mOf_out _ hi) hk (by omega)
   have HY:=Lib.hid hfin;clear hy hql hfin
   go_wp2_with ((go_at_call 22;refine (askNum_c _ _).mono ?_;rintro e w3 ⟨rfl,hf3⟩;refine Hid.out ?_))
   refine Lib.hid ?_
   have HK3:=Lib.hid (HK.out.keep hf3)
   obtain ⟨e0,f0,e1,f1,e2,f2,e3,f3,e4,f4,e5,f5⟩:=HK3.out.six
   clear hf3
   go_wp2
   clear e0 e1 e2 e3 e4 e5 f0 f1 f2 f3 f4 f5
   obtain ⟨w4,hw4,e0,e1,e2,e3,e4,e5,HF⟩:=askSix false (y:Nat) 0 ByteArray.empty nilV nilV 0 rfl [] [] HK3 (Lst.nil _ 29 1) (Lst.nil _ 5 1) (noOwn _) (noOwn _)
   rw [hw4];clear hw4
   simp [bodyPost,results,Tryz.f7,Tryz.results7,go_sem,e0,e1,e2,e3,e4,e5]
   have hY:=HY.out;subst hY
   exact HF.out
theorem askSixN{w w3:World}{p:Nat}{op:Int}{fr to n:Nat}(HS:Hid (AskS w3 w p op fr to n)):
  ∃w4,(((((w3.setCell ⟨p+1+1,0,none⟩ (.bool false)).setCell ⟨p+1+1,1,none⟩ (.int .i64 0)).setCell ⟨p+1+1,2,none⟩ (.int .u64 0)).setCell ⟨p+1+1,3,none⟩ (.string { data:= #[] })).setCell ⟨p+1+1,4,none⟩ nilV).setCell ⟨p+1+1,5,none⟩ nilV=w4/\
   w4.cell? ⟨p+1+1,0,none⟩=some (.bool false)/\w4.cell? ⟨p+1+1,1,none⟩=some (.int .i64 0)/\w4.cell? ⟨p+1+1,2,none⟩=some (.int .u64 0)/\w4.cell? ⟨p+1+1,3,none⟩=some (.string { data:= #[] })/\w4.cell? ⟨p+1+1,4,none⟩=some nilV/\w4.cell? ⟨p+1+1,5,none⟩=some nilV/\
   Hid (AskN w (.returned (.tuple #[.agg #[.bool false,.int .i64 0,.int .u64 0,.string { data:= #[] },nilV,nilV],.bool false])) w4):=by
 have h:=HS.out
 have hp4:=set6 (.bool false) (.int .i64 0) (.int .u64 0) (.string { data:= #[] }) nilV nilV h.p2
 have hf4:=fr6 (w:=w3) (p:=p+1+1) (.bool false) (.int .i64 0) (.int .u64 0) (.string { data:= #[] }) nilV nilV
 have hp:=h.hp
 exact ⟨_,rfl,hp_cell hp4 0 rfl,hp_cell hp4 1 rfl,hp_cell hp4 2 rfl,hp_cell hp4 3 rfl,hp_cell hp4 4 rfl,hp_cell hp4 5 rfl,⟨_,rfl,h.fr_.trans' hf4 (fun r hr=> .inr (by omega))⟩⟩
theorem place_t(n:Int)(w:World):
  Calls Tryz.prog 25 #[.int .i64 n,.bool true] w (fun e w'=>e= .returned (.tuple #[.agg #[.bool true,.int .i64 n,.int .u64 0,.string ByteArray.empty,nilV,nilV],.bool true])/\Fr (fun _=>False) w w'):=place_c n true w
theorem place_f(n:Int)(w:World):
  Calls Tryz.prog 25 #[.int .i64 n,.bool false] w (fun e w'=>e= .returned (.tuple #[.agg #[.bool false,.int .i64 0,.int .u64 0,.string ByteArray.empty,nilV,nilV],.bool true])/\Fr (fun _=>False) w w'):=place_c n false w
def FirstP(m:Nat->Bool)(t:Bool)(i L:Nat)(is:Bool)(nn:Nat):Prop:=
 (is=true/\i<=nn/\nn<L/\m nn=t/\∀j,i<=j->j<nn->m j= !t)\/(is=false/\nn=0/\∀j,i<=j->j<L->m j= !t)
def LastP(m:Nat->Bool)(t:Bool)(i:Nat)(is:Bool)(nn:Nat):Prop:=
 (is=true/\nn<=i/\m nn=t/\∀j,nn<j->j<=i->m j= !t)\/(is=false/\nn=0/\∀j,j<=i->m j= !t)
def AskF(w:World)(m:Nat->Bool)(t:Bool)(i L:Nat)(e:Ending)(w':World):Prop:=∃is nn,FirstP m t i L is nn/\AskP w is ((nn:Nat):Int) 0 ByteArray.empty [] [] e w'
def AskL(w:World)(m:Nat->Bool)(t:Bool)(i:Nat)(e:Ending)(w':World):Prop:=∃is nn,LastP m t i is nn/\AskP w is ((nn:Nat):Int) 0 ByteArray.empty [] [] e w'
theorem AskS.drewN{w w2:World}{p:Nat}{op:Int}{fr to n:Nat}(h:AskS w2 w p op fr to n)(k:Nat):AskS (w2.drewN k) w p op fr to n:=h.keep ((Fr.refl _ w2).drewN k)
theorem AskS.keepT{w w2 w3:World}{p:Nat}{op:Int}{fr to n:Nat}{T:Nat->Prop}(h:AskS w2 w p op fr to n)(hf:Fr T w2 w3)(hT:∀r,T r->w.heap.size+3<=r):AskS w3 w p op fr to n:=by
 have h0:p<w2.heap.size:=by have:=h.size;have:=h.hp;omega
 have hp:=h.hp
 have hb:∀i,w3.cell? ⟨p,i,none⟩=w2.cell? ⟨p,i,none⟩:=fun i=>hf.cell (a:=⟨p,i,none⟩) h0 (fun h=>by have:=hT _ h;simp at this;omega)
 exact ⟨(hb 0).trans h.c0,(hb 4).trans h.c4,(hb 5).trans h.c5,(hb 6).trans h.c6,(hf.keep _ (hp_lt h.p2) (fun h=>by have:=hT _ h;omega)).trans h.p2,h.fr_.trans' hf (fun r hr=> .inr (by have:=hT r hr;omega)),hp,Nat.le_trans h.size hf.size⟩
end Go.Proofs.YtobdfhlmipcjbaaGreatDoor
