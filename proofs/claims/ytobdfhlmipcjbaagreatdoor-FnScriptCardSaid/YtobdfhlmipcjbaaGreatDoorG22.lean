/- A set that has another one's numbers: IsSuperSet, IsStrictSuperSet. No condition beyond the sets' own. spec.Ask: has, length, none, all. Conditions: places of four, lengths of at most 6,000. -/
import Derived.Test.YtobdfhlmipcjbaaGreatDoorG04
import Derived.Test.YtobdfhlmipcjbaaGreatDoorG06
import Derived.Test.YtobdfhlmipcjbaaGreatDoorG18
set_option linter.unusedVariables false
set_option linter.unusedSimpArgs false
set_option maxHeartbeats 4000000
set_option maxRecDepth 100000
namespace Go.Proofs.YtobdfhlmipcjbaaGreatDoor
open Go.RowKit Pop
def SupP(m k:Nat->Bool)(e:Ending):Prop:=∃r:Bool,e= .returned (.bool r)/\(r=true↔∀i,k i=true->m i=true)
theorem pk_sub{m k:Nat->Bool}{q:Nat}(h:pk m q&&&pk k q=pk k q):∀i,i/64=q->k i=true->m i=true:=by
 intro i hi hk
 have h1:=congrArg (fun x=>x.getLsbD (i%64)) h
 simp only [BitVec.getLsbD_and,getLsbD_pk]at h1
 rw [show 64*q+i%64=i by omega,hk]at h1
 have d:decide (i%64<64)=true:=by simp;omega
 rw [d]at h1;simpa using h1
theorem pk_sub_ex{m k:Nat->Bool}{q:Nat}(h:¬pk m q&&&pk k q=pk k q):∃i,k i=true/\m i=false:=by
 apply Classical.byContradiction
 intro hne
 apply h
 refine pk_ext fun j hj=>?_
 rw [BitVec.getLsbD_and,getLsbD_pk,getLsbD_pk]
 cases hk:k (64*q+j)
 ·simp
 ·cases hm:m (64*q+j)
  ·exact absurd ⟨_,hk,hm⟩ hne
  ·simp [hj]
theorem tail_zero{k:Nat->Bool}{l n:Nat}(h:cntW (fun i=>pk k (l+i)) n=0):∀i,64*l<=i->i<64*(l+n)->k i=false:=by
 intro i h1 h2
 have e:cntN k (64*(l+n))=cntN k (64*l):=by rw [<- cntW_pk,cntW_add,h,Nat.add_zero,cntW_pk]
 rw [show 64*(l+n)=64*l+64*n by omega,cntN_add]at e
 have e2:(List.range (64*n)).countP (fun j=>k (64*l+j))=0:=by omega
 rw [List.countP_eq_zero]at e2
 have:=e2 (i-64*l) (List.mem_range.2 (by omega))
 rw [show 64*l+(i-64*l)=i by omega]at this
 simpa using this
theorem super_raw(x y n n2 c c2 s s2:Nat)(A B:Option Addr)(m k:Nat->Bool)(w:World)(hn:n<=1000)(hn2:n2<=1000)
  (x0:Calls Tryz.prog 101 #[.pointer (some ⟨x,0,none⟩)] w fun e w'=>e= .returned (.int .i64 (n:Int))/\w'=w) (y0:Calls Tryz.prog 101 #[.pointer (some ⟨y,0,none⟩)] w fun e w'=>e= .returned (.int .i64 (n2:Int))/\w'=w)
  (x1:w.cell? ⟨x,1,none⟩=some (.slice A n c)) (hA:0<n->A=some ⟨s,0,none⟩) (hf:∀i,i<n->w.cell? ⟨s,i,none⟩=some (WV (pk m i)))
  (y1:w.cell? ⟨y,1,none⟩=some (.slice B n2 c2)) (hc2:n2<=c2) (hB:(B=none/\n2=0/\c2=0)\/B=some ⟨s2,0,none⟩) (hg:∀i,i<n2->w.cell? ⟨s2,i,none⟩=some (WV (pk k i)))
  (hm:∀i,64*n<=i->m i=false) (hk:∀i,64*n2<=i->k i=false):
  Calls Tryz.prog 82 #[.pointer (some ⟨x,0,none⟩),.pointer (some ⟨y,0,none⟩)] w fun e w'=>SupP m k e/\w'=w:=by
 have HX0:=Lib.hid x0;have HY0:=Lib.hid y0;have HF:=Lib.hid hf;have HG:=Lib.hid hg;have HM:=Lib.hid hm;have HK:=Lib.hid hk;have HA:=Lib.hid hA
 clear x0 y0 hf hg hm hk hA
 rcases hB with ⟨rfl,hn20,rfl⟩|rfl
 ·subst hn20
  have d:decide ((n:Int)<((0:Nat):Int))=false:=by simp
  go_enter Tryz.func82,Tryz.ntmps82
  go_wp2_with (go_at_call 101;first|(refine HY0.out.mono ?_;rintro e w' ⟨rfl,rfl⟩)|(refine HX0.out.mono ?_;rintro e w' ⟨rfl,rfl⟩))
  refine wp_loop_once ?_
  go_wp2_with (go_at_call 115;refine (popcnt_zero _ _ _).mono ?_;rintro e w' ⟨rfl,rfl⟩)
  go_ret
  exact ⟨⟨true,rfl,by simp;intro i h;rw [HK.out i (by omega)]at h;cases h⟩,rfl⟩
 ·rcases Nat.lt_or_ge n n2 with hcs|hcs
  ·obtain ⟨l,hl⟩:∃l,l=n:=⟨_,rfl⟩
   subst hl
   have d:decide ((l:Int)<(n2:Int))=true:=by simp;omega
   have hne0:¬l=c2:=by omega
   have b1:(0:Int)<=(l:Int)/\(l:Int)<=c2:=by omega
   obtain ⟨r2,hr2⟩:∃r2,r2=cntW (fun i=>pk k (l+i)) (n2-l):=⟨_,rfl⟩
   have hrb:=cntW_le (fun i=>pk k (l+i)) (n2-l)
   rw [<- hr2]at hrb
   have hP:∀d,Calls Tryz.prog 115 #[.slice (some ⟨s2,l,none⟩) (n2-l) d] w fun e w''=>e= .returned (.int .u64 (r2:Int))/\w''=w:=fun d=>by
    have h:=popcnt_tail (some ⟨s2,l,none⟩) s2 n2 l d (pk k) w (fun _=>rfl) (by omega) HG.out
    rwa [<- hr2]at h
   have HP:=Lib.hid hP;have HR2:=Lib.hid hr2;clear hP hr2 hrb
   go_enter Tryz.func82,Tryz.ntmps82
   go_wp2_with (go_at_call 101;first|(refine HY0.out.mono ?_;rintro e w' ⟨rfl,rfl⟩)|(refine HX0.out.mono ?_;rintro e w' ⟨rfl,rfl⟩))
   clear d b1
   go_loopw [23] (fun t wr=>∃q:Nat,q<=l/\t= .int .i64 (q:Int)/\(∀i,i/64<q->k i=true->m i=true)/\wr=w') (fun t _=>l-(intOf t).toNat)
   case atStart=>exact ⟨0,by omega,rfl,fun i hi=>by omega,rfl⟩
   case round=>
    obtain ⟨q,hq,rfl,hz,rfl⟩:=hrel
    have HZ:=Lib.hid hz;clear hz
    by_cases hlt:q<l
    ·have hcf:=HF.out q (by omega)
     have hcg:=HG.out q (by omega)
     have hqn:q<l:=by omega
     have hAs:=HA.out (by omega)
     subst hAs
     have hand:bits .and .u64 (wn (pk m q)) (wn (pk k q))=wn (pk m q&&&pk k q):=wn_and _ _
     by_cases he:pk m q&&&pk k q=pk k q
     ·rw [he]at hand
      have HE:=Lib.hid he;clear he
      go_wp2
      go_roundw
      case rel=>
       refine ⟨q+1,by omega,by go_num,fun i hi=>?_,by first|rfl|trivial⟩
       rcases Nat.lt_or_ge (i/64) q with h|h
       ·exact HZ.out i h
       ·exact pk_sub HE.out i (by omega)
      case measure=>simp [intOf];omega
     ·have hne:¬wn (pk m q&&&pk k q)=wn (pk k q):=fun h=>he (wn_inj h)
      have HE:=Lib.hid he;clear he
      go_wp2
      go_ret
      refine ⟨⟨false,rfl,?_⟩,rfl⟩
      simp
      exact pk_sub_ex HE.out
    ·have hql:q=l:=by omega
     subst hql
     by_cases hr0:r2=0
     ·subst hr0
      go_wp2_with (go_at_call 115;refine (HP.out _).mono ?_;rintro e w' ⟨rfl,rfl⟩)
      go_ret
      refine ⟨⟨true,rfl,?_⟩,rfl⟩
      simp
      intro i hi
      rcases Nat.lt_or_ge (i/64) q with h|h
      ·exact HZ.out i h hi
      ·exfalso
       rcases Nat.lt_or_ge i (64*n2) with h2|h2
       ·rw [tail_zero HR2.out.symm i (by omega) (by omega)]at hi;cases hi
       ·rw [HK.out i h2]at hi;cases hi
     ·have hr1:((r2:Int)==0)=false:=by simp;omega
      go_wp2_with (go_at_call 115;refine (HP.out _).mono ?_;rintro e w' ⟨rfl,rfl⟩)
      go_ret
      refine ⟨⟨false,?_,?_⟩,rfl⟩
      ·first|rfl|(rw [hr1])|simp [hr1]
      ·simp
       apply Classical.byContradiction
       intro hne
       apply hr0
       rw [HR2.out]
       have e1:=cntW_tail (m:=k) (L:=64*n2) HK.out q (by unfold nw;omega)
       rw [show nw (64*n2)=n2 by unfold nw;omega]at e1
       have e2:cntN k (64*n2)=cntN k (64*q):=cntN_past (fun i hi=>by
        cases hki:k i
        ·rfl
        ·exact absurd ⟨i,hki,HM.out i hi⟩ hne) (by omega)
       omega
  ·obtain ⟨l,hl⟩:∃l,l=n2:=⟨_,rfl⟩
   subst hl
   have d:decide ((n:Int)<(l:Int))=false:=by simp;omega
   have b1:(0:Int)<=(l:Int)/\(l:Int)<=c2:=by omega
   go_enter Tryz.func82,Tryz.ntmps82
   go_wp2_with (go_at_call 101;first|(refine HY0.out.mono ?_;rintro e w' ⟨rfl,rfl⟩)|(refine HX0.out.mono ?_;rintro e w' ⟨rfl,rfl⟩))
   clear d b1
   go_loopw [23] (fun t wr=>∃q:Nat,q<=l/\t= .int .i64 (q:Int)/\(∀i,i/64<q->k i=true->m i=true)/\wr=w') (fun t _=>l-(intOf t).toNat)
   case atStart=>exact ⟨0,by omega,rfl,fun i hi=>by omega,rfl⟩
   case round=>
    obtain ⟨q,hq,rfl,hz,rfl⟩:=hrel
    have HZ:=Lib.hid hz;clear hz
    by_cases hlt:q<l
    ·have hcf:=HF.out q (by omega)
     have hcg:=HG.out q (by omega)
     have hqn:q<n:=by omega
     have hAs:=HA.out (by omega)
     subst hAs
     have hand:bits .and .u64 (wn (pk m q)) (wn (pk k q))=wn (pk m q&&&pk k q):=wn_and _ _
     by_cases he:pk m q&&&pk k q=pk k q
     ·rw [he]at hand
      have HE:=Lib.hid he;clear he
      go_wp2
      go_roundw
      case rel=>
       refine ⟨q+1,by omega,by go_num,fun i hi=>?_,by first|rfl|trivial⟩
       rcases Nat.lt_or_ge (i/64) q with h|h
       ·exact HZ.out i h
       ·exact pk_sub HE.out i (by omega)
      case measure=>simp [intOf];omega
     ·have hne:¬wn (pk m q&&&pk k q)=wn (pk k q):=fun h=>he (wn_inj h)
      have HE:=Lib.hid he;clear he
      go_wp2
      go_ret
      refine ⟨⟨false,rfl,?_⟩,rfl⟩
      simp
      exact pk_sub_ex HE.out
    ·have hql:q=l:=by omega
     subst hql
     rcases Nat.lt_or_eq_of_le hc2 with hcc|hcc
     ·have hne:¬q=c2:=by omega
      go_wp2_with (go_at_call 115;refine (popcnt_zero _ _ _).mono ?_;rintro e w' ⟨rfl,rfl⟩)
      go_ret
      refine ⟨⟨true,rfl,?_⟩,rfl⟩
      simp
      intro i hi
      rcases Nat.lt_or_ge (i/64) q with h|h
      ·exact HZ.out i h hi
      ·rw [HK.out i (by omega)]at hi;cases hi
     ·subst hcc
      go_wp2_with (go_at_call 115;refine (popcnt_zero _ _ _).mono ?_;rintro e w' ⟨rfl,rfl⟩)
      go_ret
      refine ⟨⟨true,rfl,?_⟩,rfl⟩
      simp
      intro i hi
      rcases Nat.lt_or_ge (i/64) q with h|h
      ·exact HZ.out i h hi
      ·rw [HK.out i (by omega)]at hi;cases hi
theorem super_c(p q L M:Nat)(v u:Value)(m k:Nat->Bool)(w:World)(hx:BA w p v L m)(hy:BA w q u M k):
  Calls Tryz.prog 82 #[.pointer (some ⟨p,0,none⟩),.pointer (some ⟨q,0,none⟩)] w fun e w'=>SupP m k e/\w'=w:=by
 obtain ⟨x0,hlx,hmx,A,s,c,x1,hc,hA,hf⟩:=hx.view2
 obtain ⟨y0,hly,hmy,_⟩:=hy.view
 obtain ⟨B,s2,c2,y1,hc2,hB,hg⟩:=hy.view3
 exact super_raw p q (nw L) (nw M) c c2 s s2 A B m k w (nw_bound hlx) (nw_bound hly) (wordCount_n p L w _ rfl hlx x0) (wordCount_n q M w _ rfl hly y0) x1 hA hf y1 hc2 hB hg
  (fun i hi=>hmx i (by unfold nw at hi;omega)) (fun i hi=>hmy i (by unfold nw at hi;omega))
theorem strict_c(p q L M:Nat)(v u:Value)(m k:Nat->Bool)(w:World)(hx:BA w p v L m)(hy:BA w q u M k):
  Calls Tryz.prog 83 #[.pointer (some ⟨p,0,none⟩),.pointer (some ⟨q,0,none⟩)] w fun e w'=>(∃r:Bool,e= .returned (.bool r)/\(r=true↔cntN k M<cntN m L/\∀i,k i=true->m i=true))/\w'=w:=by
 have HX:=Lib.hid hx;have HY:=Lib.hid hy;clear hx hy
 obtain ⟨a,ha⟩:∃a,a=cntN m L:=⟨_,rfl⟩
 obtain ⟨b,hb⟩:∃b,b=cntN k M:=⟨_,rfl⟩
 have hca:Calls Tryz.prog 73 #[.pointer (some ⟨p,0,none⟩)] w fun e w'=>e= .returned (.int .u64 (a:Int))/\w'=w:=by rw [ha];exact count_c p L v m w HX.out
 have hcb:Calls Tryz.prog 73 #[.pointer (some ⟨q,0,none⟩)] w fun e w'=>e= .returned (.int .u64 (b:Int))/\w'=w:=by rw [hb];exact count_c q M u k w HY.out
 rw [<- ha,<- hb]
 have HCA:=Lib.hid hca;have HCB:=Lib.hid hcb;clear hca hcb ha hb
 by_cases hlt:b<a
 ·have d:decide ((b:Int)<(a:Int))=true:=by simp;omega
  go_enter Tryz.func83,Tryz.ntmps83
  go_wp2_with (fail)
  refine (HCA.out).mono ?_
  rintro e w' ⟨rfl,rfl⟩
  go_wp2_with (fail)
  refine (HCB.out).mono ?_
  rintro e w' ⟨rfl,rfl⟩
  go_wp2_with (go_at_call 82;refine (super_c p q L M v u m k _ HX.out HY.out).mono ?_;rintro e w' ⟨⟨r,rfl,hr⟩,rfl⟩)
  go_ret
  exact ⟨⟨r,rfl,by rw [hr];exact ⟨fun h=>⟨hlt,h⟩,fun h=>h.2⟩⟩,rfl⟩
 ·have d:decide ((b:Int)<(a:Int))=false:=by simp;omega
  go_enter Tryz.func83,Tryz.ntmps83
  go_wp2_with (fail)
  refine (HCA.out).mono ?_
  rintro e w' ⟨rfl,rfl⟩
  go_wp2_with (fail)
  refine (HCB.out).mono ?_
  rintro e w' ⟨rfl,rfl⟩
  go_wp2
  go_ret
  exact ⟨⟨false,rfl,by simp;intro h;exact absurd h hlt⟩,rfl⟩
end Go.Proofs.YtobdfhlmipcjbaaGreatDoor
namespace Go.Proofs.YtobdfhlmipcjbaaGreatDoor
open Go.RowKit
theorem ask_40(a b c fr to n:Nat)(wd:BitVec 64)(many:Value)(vs:Nat->Value)(ls:Nat->List Bool)(w:World)(ha:a<4)(hb:b<4)(hs:SetsV w vs ls):
  Calls Tryz.prog 7 #[stepV 40 a b c fr to n wd many,setsV vs] w (AskP w (mOf (ls a) n) 0 0 ByteArray.empty [] []):=by
 obtain ⟨la,lb,oa,ca,ob,cb,hla,hlb,hcap,HA,HB,HLA,HLB,EA,EB⟩:=askIn hs ha hb
 unfold stepV setsV
 clear hs
 go_enter Tryz.func7,Tryz.ntmps7
 go_wp2
 obtain ⟨w1,hw1,c0,c1,c2,c3,c4,HW⟩:=askMid 40 c fr to n wd many ha hb EA EB
 rw [hw1];clear hw1
 go_quiet (fail)
 go_wp2_with (go_at_call 21;refine (askJ nq hla hlb HA HB HLA HLB HW).out.mono ?_;rintro e w2 ⟨v3,rfl,k0,HC,HK,HA2,HB2⟩;refine Hid.out ?_)
 refine Lib.hid ?_
 clear c0 c1 c2 c3 c4
 obtain ⟨x,hx⟩:∃x,mOf (ls a) n=x:=⟨_,rfl⟩
 have CH:=Lib.hid (has_m _ (ls a) n x hx w2 HA2.out)
 have q6:=HK.out.c6
 have HX:=Lib.hid hx;clear hx
 go_wp2_with (first|(go_at_call 24;(with_reducible refine HC.out.mono ?_);rintro e w' ⟨rfl,rfl⟩)|(go_at_call 18;(with_reducible refine CH.out.mono ?_);rintro e w' ⟨rfl,rfl⟩)|(go_at_call 23;refine (askIs_c _ _).mono ?_;rintro e w3 ⟨rfl,hf3⟩;refine Hid.out ?_))
 refine Lib.hid ?_
 have HK3:=Lib.hid (HK.out.keep hf3)
 obtain ⟨e0,f0,e1,f1,e2,f2,e3,f3,e4,f4,e5,f5⟩:=HK3.out.six
 clear hf3
 go_wp2
 clear e0 e1 e2 e3 e4 e5 f0 f1 f2 f3 f4 f5
 obtain ⟨w4,hw4,e0,e1,e2,e3,e4,e5,HF⟩:=askSix x 0 0 ByteArray.empty nilV nilV 0 rfl [] [] HK3 (Lst.nil _ 29 1) (Lst.nil _ 5 1) (noOwn _) (noOwn _)
 rw [hw4];clear hw4
 simp [bodyPost,results,Tryz.f7,Tryz.results7,go_sem,e0,e1,e2,e3,e4,e5]
 have hX:=HX.out;subst hX
 exact HF.out
theorem ask_42(a b c fr to n:Nat)(wd:BitVec 64)(many:Value)(vs:Nat->Value)(ls:Nat->List Bool)(w:World)(ha:a<4)(hb:b<4)(hs:SetsV w vs ls):
  Calls Tryz.prog 7 #[stepV 42 a b c fr to n wd many,setsV vs] w (AskP w false ((((ls a).length:Nat):Int)) 0 ByteArray.empty [] []):=by
 obtain ⟨la,lb,oa,ca,ob,cb,hla,hlb,hcap,HA,HB,HLA,HLB,EA,EB⟩:=askIn hs ha hb
 unfold stepV setsV
 clear hs
 go_enter Tryz.func7,Tryz.ntmps7
 go_wp2
 obtain ⟨w1,hw1,c0,c1,c2,c3,c4,HW⟩:=askMid 42 c fr to n wd many ha hb EA EB
 rw [hw1];clear hw1
 go_quiet (fail)
 go_wp2_with (go_at_call 21;refine (askJ nq hla hlb HA HB HLA HLB HW).out.mono ?_;rintro e w2 ⟨v3,rfl,k0,HC,HK,HA2,HB2⟩;refine Hid.out ?_)
 refine Lib.hid ?_
 clear c0 c1 c2 c3 c4
 obtain ⟨ka,hka⟩:∃k,k=cntN (mOf (ls a)) (ls a).length:=⟨_,rfl⟩
 obtain ⟨kb,hkb⟩:∃k,k=cntN (mOf (ls b)) (ls b).length:=⟨_,rfl⟩
 obtain ⟨ks,hks⟩:∃k,k=shar (ls a) (ls b):=⟨_,rfl⟩
 obtain ⟨bka,bkb,bks1,bks2⟩:ka<=la/\kb<=lb/\ks<=ka/\ks<=kb:=by rw [hka,hkb,hks,HLA.out,HLB.out];exact ⟨cntN_le _ _,cntN_le _ _,(shar_le _ _).1,(shar_le _ _).2⟩
 have CA:=Lib.hid (spCount_c _ _ w2 HA2.out (by have:=HLA.out;omega))
 have CB:=Lib.hid (spCount_c _ _ w2 HB2.out (by have:=HLB.out;omega))
 rw [<- hka]at CA
 rw [<- hkb]at CB
 rw [<- hks]at HC
 have HKA:=Lib.hid hka;have HKB:=Lib.hid hkb;have HKS:=Lib.hid hks;clear hka hkb hks
 go_wp2_with (first|(go_at_call 24;(with_reducible refine HC.out.mono ?_);rintro e w' ⟨rfl,rfl⟩)|(go_at_call 24;(with_reducible refine CA.out.mono ?_);rintro e w' ⟨rfl,rfl⟩)|(go_at_call 24;(with_reducible refine CB.out.mono ?_);rintro e w' ⟨rfl,rfl⟩)|(go_at_call 22;refine (askNum_c _ _).mono ?_;rintro e w3 ⟨rfl,hf3⟩;refine Hid.out ?_))
 refine Lib.hid ?_
 have HK3:=Lib.hid (HK.out.keep hf3)
 obtain ⟨e0,f0,e1,f1,e2,f2,e3,f3,e4,f4,e5,f5⟩:=HK3.out.six
 clear hf3
 go_wp2
 clear e0 e1 e2 e3 e4 e5 f0 f1 f2 f3 f4 f5
 obtain ⟨w4,hw4,e0,e1,e2,e3,e4,e5,HF⟩:=askSix false ((la:Nat)) 0 ByteArray.empty nilV nilV 0 rfl [] [] HK3 (Lst.nil _ 29 1) (Lst.nil _ 5 1) (noOwn _) (noOwn _)
 rw [hw4];clear hw4
 simp [bodyPost,results,Tryz.f7,Tryz.results7,go_sem,e0,e1,e2,e3,e4,e5]
 have hA:=HKA.out;have hB:=HKB.out;have hS:=HKS.out;have hLA:=HLA.out;have hLB:=HLB.out;subst hA hB hS hLA hLB
 exact HF.out
theorem ask_44(a b c fr to n:Nat)(wd:BitVec 64)(many:Value)(vs:Nat->Value)(ls:Nat->List Bool)(w:World)(ha:a<4)(hb:b<4)(hs:SetsV w vs ls):
  Calls Tryz.prog 7 #[stepV 44 a b c fr to n wd many,setsV vs] w (AskP w ((((cntN (mOf (ls a)) (ls a).length):Nat):Int)==0) 0 0 ByteArray.empty [] []):=by
 obtain ⟨la,lb,oa,ca,ob,cb,hla,hlb,hcap,HA,HB,HLA,HLB,EA,EB⟩:=askIn hs ha hb
 unfold stepV setsV
 clear hs
 go_enter Tryz.func7,Tryz.ntmps7
 go_wp2
 obtain ⟨w1,hw1,c0,c1,c2,c3,c4,HW⟩:=askMid 44 c fr to n wd many ha hb EA EB
 rw [hw1];clear hw1
 go_quiet (fail)
 go_wp2_with (go_at_call 21;refine (askJ nq hla hlb HA HB HLA HLB HW).out.mono ?_;rintro e w2 ⟨v3,rfl,k0,HC,HK,HA2,HB2⟩;refine Hid.out ?_)
 refine Lib.hid ?_
 clear c0 c1 c2 c3 c4
 obtain ⟨ka,hka⟩:∃k,k=cntN (mOf (ls a)) (ls a).length:=⟨_,rfl⟩
 obtain ⟨kb,hkb⟩:∃k,k=cntN (mOf (ls b)) (ls b).length:=⟨_,rfl⟩
 obtain ⟨ks,hks⟩:∃k,k=shar (ls a) (ls b):=⟨_,rfl⟩
 obtain ⟨bka,bkb,bks1,bks2⟩:ka<=la/\kb<=lb/\ks<=ka/\ks<=kb:=by rw [hka,hkb,hks,HLA.out,HLB.out];exact ⟨cntN_le _ _,cntN_le _ _,(shar_le _ _).1,(shar_le _ _).2⟩
 have CA:=Lib.hid (spCount_c _ _ w2 HA2.out (by have:=HLA.out;omega))
 have CB:=Lib.hid (spCount_c _ _ w2 HB2.out (by have:=HLB.out;omega))
 rw [<- hka]at CA
 rw [<- hkb]at CB
 rw [<- hks]at HC
 have HKA:=Lib.hid hka;have HKB:=Lib.hid hkb;have HKS:=Lib.hid hks;clear hka hkb hks
 go_wp2_with (first|(go_at_call 24;(with_reducible refine HC.out.mono ?_);rintro e w' ⟨rfl,rfl⟩)|(go_at_call 24;(with_reducible refine CA.out.mono ?_);rintro e w' ⟨rfl,rfl⟩)|(go_at_call 24;(with_reducible refine CB.out.mono ?_);rintro e w' ⟨rfl,rfl⟩)|(go_at_call 23;refine (askIs_c _ _).mono ?_;rintro e w3 ⟨rfl,hf3⟩;refine Hid.out ?_))
 refine Lib.hid ?_
 have HK3:=Lib.hid (HK.out.keep hf3)
 obtain ⟨e0,f0,e1,f1,e2,f2,e3,f3,e4,f4,e5,f5⟩:=HK3.out.six
 clear hf3
 go_wp2
 clear e0 e1 e2 e3 e4 e5 f0 f1 f2 f3 f4 f5
 obtain ⟨w4,hw4,e0,e1,e2,e3,e4,e5,HF⟩:=askSix ((ka:Int)==0) 0 0 ByteArray.empty nilV nilV 0 rfl [] [] HK3 (Lst.nil _ 29 1) (Lst.nil _ 5 1) (noOwn _) (noOwn _)
 rw [hw4];clear hw4
 simp [bodyPost,results,Tryz.f7,Tryz.results7,go_sem,e0,e1,e2,e3,e4,e5]
 have hA:=HKA.out;have hB:=HKB.out;have hS:=HKS.out;have hLA:=HLA.out;have hLB:=HLB.out;subst hA hB hS hLA hLB
 exact HF.out
theorem ask_45(a b c fr to n:Nat)(wd:BitVec 64)(many:Value)(vs:Nat->Value)(ls:Nat->List Bool)(w:World)(ha:a<4)(hb:b<4)(hs:SetsV w vs ls):
  Calls Tryz.prog 7 #[stepV 45 a b c fr to n wd many,setsV vs] w (AskP w ((((cntN (mOf (ls a)) (ls a).length):Nat):Int)==(((ls a).length:Nat):Int)) 0 0 ByteArray.empty [] []):=by
 obtain ⟨la,lb,oa,ca,ob,cb,hla,hlb,hcap,HA,HB,HLA,HLB,EA,EB⟩:=askIn hs ha hb
 unfold stepV setsV
 clear hs
 go_enter Tryz.func7,Tryz.ntmps7
 go_wp2
 obtain ⟨w1,hw1,c0,c1,c2,c3,c4,HW⟩:=askMid 45 c fr to n wd many ha hb EA EB
 rw [hw1];clear hw1
 go_quiet (fail)
 go_wp2_with (go_at_call 21;refine (askJ nq hla hlb HA HB HLA HLB HW).out.mono ?_;rintro e w2 ⟨v3,rfl,k0,HC,HK,HA2,HB2⟩;refine Hid.out ?_)
 refine Lib.hid ?_
 clear c0 c1 c2 c3 c4
 obtain ⟨ka,hka⟩:∃k,k=cntN (mOf (ls a)) (ls a).length:=⟨_,rfl⟩
 obtain ⟨kb,hkb⟩:∃k,k=cntN (mOf (ls b)) (ls b).length:=⟨_,rfl⟩
 obtain ⟨ks,hks⟩:∃k,k=shar (ls a) (ls b):=⟨_,rfl⟩
 obtain ⟨bka,bkb,bks1,bks2⟩:ka<=la/\kb<=lb/\ks<=ka/\ks<=kb:=by rw [hka,hkb,hks,HLA.out,HLB.out];exact ⟨cntN_le _ _,cntN_le _ _,(shar_le _ _).1,(shar_le _ _).2⟩
 have CA:=Lib.hid (spCount_c _ _ w2 HA2.out (by have:=HLA.out;omega))
 have CB:=Lib.hid (spCount_c _ _ w2 HB2.out (by have:=HLB.out;omega))
 rw [<- hka]at CA
 rw [<- hkb]at CB
 rw [<- hks]at HC
 have HKA:=Lib.hid hka;have HKB:=Lib.hid hkb;have HKS:=Lib.hid hks;clear hka hkb hks
 go_wp2_with (first|(go_at_call 24;(with_reducible refine HC.out.mono ?_);rintro e w' ⟨rfl,rfl⟩)|(go_at_call 24;(with_reducible refine CA.out.mono ?_);rintro e w' ⟨rfl,rfl⟩)|(go_at_call 24;(with_reducible refine CB.out.mono ?_);rintro e w' ⟨rfl,rfl⟩)|(go_at_call 23;refine (askIs_c _ _).mono ?_;rintro e w3 ⟨rfl,hf3⟩;refine Hid.out ?_))
 refine Lib.hid ?_
 have HK3:=Lib.hid (HK.out.keep hf3)
 obtain ⟨e0,f0,e1,f1,e2,f2,e3,f3,e4,f4,e5,f5⟩:=HK3.out.six
 clear hf3
 go_wp2
 clear e0 e1 e2 e3 e4 e5 f0 f1 f2 f3 f4 f5
 obtain ⟨w4,hw4,e0,e1,e2,e3,e4,e5,HF⟩:=askSix ((ka:Int)==(la:Int)) 0 0 ByteArray.empty nilV nilV 0 rfl [] [] HK3 (Lst.nil _ 29 1) (Lst.nil _ 5 1) (noOwn _) (noOwn _)
 rw [hw4];clear hw4
 simp [bodyPost,results,Tryz.f7,Tryz.results7,go_sem,e0,e1,e2,e3,e4,e5]
 have hA:=HKA.out;have hB:=HKB.out;have hS:=HKS.out;have hLA:=HLA.out;have hLB:=HLB.out;subst hA hB hS hLA hLB
 exact HF.out
end Go.Proofs.YtobdfhlmipcjbaaGreatDoor
