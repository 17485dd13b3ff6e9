/- InPlaceIntersection. Conditions: the two sets are one or share no block. spec.Do: shifts. Conditions: places of four, numbers of at most 2,000. ShiftRight, at every set. Conditions: at most 50,000 down. The number at a place: Select. All numbers in order: AppendTo. Conditions: the table of the first bit lies as laid. -/
import Derived.Test.YtobdfhlmipcjbaaGreatDoorG02
import Derived.Test.YtobdfhlmipcjbaaGreatDoorG05
import Derived.Test.YtobdfhlmipcjbaaGreatDoorG06
import Derived.Test.YtobdfhlmipcjbaaGreatDoorG13
import Derived.Test.YtobdfhlmipcjbaaGreatDoorG17
set_option linter.unusedVariables false
set_option linter.unusedSimpArgs false
set_option maxHeartbeats 4000000
set_option maxRecDepth 100000
namespace Go.Proofs.YtobdfhlmipcjbaaGreatDoor
open Go.RowKit
theorem ipInt_le(b b2 L L2:Nat)(v v2:Value)(m m2:Nat->Bool)(w:World)(hL:0<L)(hL2:0<L2)(hcs:nw L2<=nw L)(hLL:L2<=L)(h:BA w b v L m)(k2:BA w b2 v2 L2 m2)(hs:(b2=b/\m2=m)\/Sep b v b2 v2):
  Calls Tryz.prog 55 #[.pointer (some ⟨b,0,none⟩),.pointer (some ⟨b2,0,none⟩)] w (MutA w b v L (fun i=>m i&&m2 i) (.tuple #[])):=by
 have hsl:b2=b->L2=L:=fun e=>by subst e;exact (h.same k2).2
 obtain ⟨s,c,g,rfl,r,hg,hm⟩:=h.rs hL
 obtain ⟨s2,c2,g2,rfl,r2,hg2,hm2⟩:=k2.rs hL2
 have hsame:s2=s->b2=b/\m2=m:=by
  intro e;subst e
  rcases hs with hs|hs
  ·exact hs
  ·exact absurd (.inr rfl) (hs s2 (.inr rfl))
 have hbs:s≠b2:=by
  rcases hs with ⟨rfl,_⟩|hs
  ·exact r.ne
  ·intro e;subst e;exact hs s (.inr rfl) (.inl rfl)
 have hg2s:s2=s->∀j,j<nw L2->g2 j=g j:=fun e j hj=>by
  obtain ⟨h1,rfl⟩:=hsame e
  have:=hsl h1
  rw [hg2 j hj,hg j (by rw [<- this];exact hj)]
 have HKK:=Lib.hid k2
 have hkeep:=True.intro
 clear h k2 hs hsl
 have a0:=r.h0
 have a1:=r.h1
 have b0:=r2.h0
 have b1:=r2.h1
 have hl:=r.hl
 have hl2:=r2.hl
 obtain ⟨n,hn⟩:∃n,n=nw L:=⟨_,rfl⟩
 obtain ⟨n2,hn2⟩:∃n,n=nw L2:=⟨_,rfl⟩
 have hnb:n<=1000:=by subst hn;unfold nw;omega
 have hn2b:n2<=1000:=by subst hn2;unfold nw;omega
 have hn1:1<=n2:=by subst hn2;unfold nw;omega
 have hn0:1<=n:=by subst hn;unfold nw;omega
 rw [<- hn,<- hn2]at hcs
 have hln:n2<=n/\n2<=n2/\1<=n2:=by omega
 have hw1:∀w:World,w.cell? ⟨b,0,none⟩=some (.int .u64 (L:Int))->Calls Tryz.prog 101 #[.pointer (some ⟨b,0,none⟩)] w fun e w'=>e= .returned (.int .i64 (n:Int))/\w'=w:=fun w h=>by rw [hn];exact wordCount_c b L w (by omega) h
 have hw2:∀w:World,w.cell? ⟨b2,0,none⟩=some (.int .u64 (L2:Int))->Calls Tryz.prog 101 #[.pointer (some ⟨b2,0,none⟩)] w fun e w'=>e= .returned (.int .i64 (n2:Int))/\w'=w:=fun w h=>by rw [hn2];exact wordCount_c b2 L2 w (by omega) h
 have HW1:=Lib.hid hw1;have HW2:=Lib.hid hw2
 have A0:=Lib.hid a0;have B0:=Lib.hid b0
 have z0:=r.at (i:=n2-1) (by omega)
 have z2:=r2.at (i:=n2-1) (by omega)
 rw [<- hn]at a1
 rw [<- hn2]at b1
 have HN:=Lib.hid hn;have HN2:=Lib.hid hn2
 have R:=Lib.hid r;have R2:=Lib.hid r2;have HG:=Lib.hid hg;have HG2:=Lib.hid hg2;have HM:=Lib.hid hm;have HM2:=Lib.hid hm2;have HS:=Lib.hid hsame;have HGS:=Lib.hid hg2s
 clear hw1 hw2 r r2 hg hg2 hm hm2 hsame hg2s hn hn2
 have d1:decide (n<n2)=false:=by simp;omega
 have d4:decide ((0:Int)<(n2:Int))=true:=by simp;omega
 have d4':0<n2:=by omega
 have d6:decide ((0:Int)<(L2:Int))=true:=by simp;omega
 have d7:decide ((L:Int)<=(L2:Int)-1)=false:=by simp;omega
 have p1:(1:Int)<=(L2:Int):=by omega
 have i1:(0:Int)<=(n2:Int)-1/\(n2:Int)-1<n/\(n2:Int)-1<n2:=by omega
 have i2:((n2:Int)-1).toNat=n2-1:=by omega
 go_enter Tryz.func55,Tryz.ntmps55
 go_wp2_with (go_at_call 103;refine (panicIfNull_c _ _).mono ?_;rintro e w' ⟨rfl,rfl⟩)
 refine (HW2.out _ B0.out).mono ?_
 rintro e w' ⟨rfl,rfl⟩
 go_wp2_with (fail)
 refine (HW1.out _ A0.out).mono ?_
 rintro e w' ⟨rfl,rfl⟩
 go_wp2
 go_quiet (fail)
 go_wp2
 go_loopw [7] (fun i wr=>∃k:Nat,k<=n2/\i= .int .i64 (k:Int)/\RS wr b s L c (fun j=>if j<k then g j&&&g2 j else g j)/\∃nd,Fr (· =s) (w'.drewN nd) wr) (fun i _=>n2-(intOf i).toNat)
 case atStart=>exact ⟨0,by omega,rfl,(R.out.drewN _).congr (fun j _=>by simp),_,Fr.refl _ _⟩
 case round=>
  obtain ⟨k,hk,rfl,hr,nd,hfr⟩:=hrel
  have HF:=Lib.hid hfr
  have HR:=Lib.hid hr
  by_cases hlt:k<n2
  ·have c0:=hr.at (i:=k) (by rw [<- HN.out];omega)
   have f0:=hr.fr k
   rw [if_neg (Nat.lt_irrefl k)]at c0
   have c1:=other_at (k:=k) (rowIs_drewN R2.out.hs nd) (by have:=R2.out.hn;rw [<- HN2.out]at this;omega) hfr (fun e=>by rw [c0,HGS.out e k (by rw [<- HN2.out];omega)])
   clear hr hfr
   go_wp2
   refine wp_region_quiet_tail 9 (by kernel_rfl) (by kernel_rfl) ?_
   simp only [List.take_succ_cons,List.take_zero,List.drop_succ_cons,List.drop_zero]
   repeat (go_big_quiet_step (fail))
   refine wpQuiet_nil ?_
   intro _ ⟨nq,hw'⟩
   subst hw'
   go_wp2
   go_roundw
   case rel=>
    refine ⟨k+1,by omega,by go_num,?_,nd,(HF.out.drewN nq).setCell (.inl rfl) _⟩
    rw [wn_and]
    refine ((HR.out.drewN nq).set k _).congr (fun j _=>?_)
    by_cases e:j=k
    ·subst e;rw [if_pos rfl,if_pos (Nat.lt_succ_self j)]
    ·rw [if_neg e]
     by_cases e2:j<k
     ·rw [if_pos e2,if_pos (show j<k+1 by omega)]
     ·rw [if_neg e2,if_neg (show ¬j<k+1 by omega)]
   case measure=>simp [intOf];omega
  ·have hkn:k=n2:=by omega
   subst hkn
   have x1:=hr.h1
   rw [<- HN.out]at x1
   clear hr hfr
   generalize hK0:k=K0 at*
   clear hK0
   go_wp2
   obtain ⟨wo,rfl⟩:∃wo:World,wo=wr:=⟨_,rfl⟩
   go_loopw [8] (fun i wr2=>∃t:Nat,K0<=t/\t<=n/\i= .int .i64 (t:Int)/\RS wr2 b s L c (fun j=>if K0<=j/\j<t then 0 else if j<K0 then g j&&&g2 j else g j)/\Fr (· =s) wo wr2) (fun i _=>n-(intOf i).toNat)
   case atStart=>exact ⟨K0,Nat.le_refl _,by omega,rfl,HR.out.congr (fun j _=>(if_neg (show ¬(K0<=j/\j<K0) by omega)).symm),Fr.refl _ _⟩
   case round=>
    obtain ⟨t,hKt,ht,rfl,hr2,hfr2⟩:=hrel
    have HF2:=Lib.hid hfr2
    have HR2:=Lib.hid hr2
    have x0:=hr2.h0
    have x1:=hr2.h1
    rw [<- HN.out]at x1
    have y0:=(hfr2.cell (a:=⟨b2,0,none⟩) (Nat.lt_of_lt_of_le (hp_lt R2.out.hb) HF.out.size) (fun e=>hbs e.symm)).trans ((HF.out.cell (a:=⟨b2,0,none⟩) (hp_lt R2.out.hb) (fun e=>hbs e.symm)).trans B0.out)
    by_cases hlt:t<n
    ·have c0:=hr2.at (i:=t) (by rw [<- HN.out];exact hlt)
     have f0:=hr2.fr t
     clear hr2 hfr2
     go_wp2
     go_roundw
     case rel=>
      refine ⟨t+1,by omega,by omega,by go_num,?_,HF2.out.setCell (.inl rfl) _⟩
      refine (HR2.out.set t 0).congr (fun j _=>?_)
      by_cases e:j=t
      ·rw [if_pos e,if_pos (show K0<=j/\j<t+1 by omega)]
      ·rw [if_neg e]
       by_cases e2:K0<=j/\j<t
       ·rw [if_pos e2,if_pos (show K0<=j/\j<t+1 by omega)]
       ·rw [if_neg e2,if_neg (show ¬(K0<=j/\j<t+1) by omega)]
     case measure=>simp [intOf];omega
    ·have htn:t=n:=by omega
     subst htn
     clear hr2 hfr2
     have hba:BA wr b (.slice (some ⟨s,0,none⟩) (nw L) c) L (fun i=>m i&&m2 i):=by
      refine HR2.out.ba (fun j hj=>?_) (fun i hi=>?_)
      ·by_cases e:j<K0
       ·rw [if_neg (show ¬(K0<=j/\j<t) by omega),if_pos e,HG.out j hj,HG2.out j (by rw [<- HN2.out];omega),pk_and]
       ·rw [if_pos (show K0<=j/\j<t by rw [<- HN.out]at hj;omega),<- pk_and,pk_out HM2.out (by rw [<- HN.out]at hj;rw [<- HN2.out];omega)]
        simp
      ·rw [HM.out i hi];rfl
     have hfw:Fr (Own b (.slice (some ⟨s,0,none⟩) (nw L) c)) w' wr:=(((Fr.refl _ _).drewN nd).trans (HF.out.mono (fun r hr=> .inr (by subst hr;rfl)))).trans (HF2.out.mono (fun r hr=> .inr (by subst hr;rfl)))
     have HBA:=Lib.hid hba;have HFW:=Lib.hid hfw
     clear hba hfw
     go_wp2
     go_quiet (fail)
     go_wp2
     go_end0
     exact ⟨rfl,_,HBA.out.drewN _,⟨HFW.out.drewN _,.inl rfl⟩⟩
theorem ipInt_ge(b b2 L L2:Nat)(v v2:Value)(m m2:Nat->Bool)(w:World)(hL:0<L)(hL2:0<L2)(hcs:nw L2<=nw L)(hLL:L<L2)(h:BA w b v L m)(k2:BA w b2 v2 L2 m2)(hs:(b2=b/\m2=m)\/Sep b v b2 v2):
  Calls Tryz.prog 55 #[.pointer (some ⟨b,0,none⟩),.pointer (some ⟨b2,0,none⟩)] w (MutA w b v L2 (fun i=>m i&&m2 i) (.tuple #[])):=by
 have hsl:b2=b->L2=L:=fun e=>by subst e;exact (h.same k2).2
 obtain ⟨s,c,g,rfl,r,hg,hm⟩:=h.rs hL
 obtain ⟨s2,c2,g2,rfl,r2,hg2,hm2⟩:=k2.rs hL2
 have hsame:s2=s->b2=b/\m2=m:=by
  intro e;subst e
  rcases hs with hs|hs
  ·exact hs
  ·exact absurd (.inr rfl) (hs s2 (.inr rfl))
 have hbs:s≠b2:=by
  rcases hs with ⟨rfl,_⟩|hs
  ·exact r.ne
  ·intro e;subst e;exact hs s (.inr rfl) (.inl rfl)
 have hg2s:s2=s->∀j,j<nw L2->g2 j=g j:=fun e j hj=>by
  obtain ⟨h1,rfl⟩:=hsame e
  have:=hsl h1
  rw [hg2 j hj,hg j (by rw [<- this];exact hj)]
 have HKK:=Lib.hid k2
 have hkeep:=True.intro
 clear h k2 hs hsl
 have a0:=r.h0
 have a1:=r.h1
 have b0:=r2.h0
 have b1:=r2.h1
 have hl:=r.hl
 have hl2:=r2.hl
 obtain ⟨n,hn⟩:∃n,n=nw L:=⟨_,rfl⟩
 obtain ⟨n2,hn2⟩:∃n,n=nw L2:=⟨_,rfl⟩
 have hnb:n<=1000:=by subst hn;unfold nw;omega
 have hn2b:n2<=1000:=by subst hn2;unfold nw;omega
 have hn1:1<=n2:=by subst hn2;unfold nw;omega
 have hn0:1<=n:=by subst hn;unfold nw;omega
 rw [<- hn,<- hn2]at hcs
 have hln:n2<=n/\n2<=n2/\1<=n2:=by omega
 have hw1:∀w:World,w.cell? ⟨b,0,none⟩=some (.int .u64 (L:Int))->Calls Tryz.prog 101 #[.pointer (some ⟨b,0,none⟩)] w fun e w'=>e= .returned (.int .i64 (n:Int))/\w'=w:=fun w h=>by rw [hn];exact wordCount_c b L w (by omega) h
 have hw2:∀w:World,w.cell? ⟨b2,0,none⟩=some (.int .u64 (L2:Int))->Calls Tryz.prog 101 #[.pointer (some ⟨b2,0,none⟩)] w fun e w'=>e= .returned (.int .i64 (n2:Int))/\w'=w:=fun w h=>by rw [hn2];exact wordCount_c b2 L2 w (by omega) h
 have HW1:=Lib.hid hw1;have HW2:=Lib.hid hw2
 have A0:=Lib.hid a0;have B0:=Lib.hid b0
 have z0:=r.at (i:=n2-1) (by omega)
 have z2:=r2.at (i:=n2-1) (by omega)
 rw [<- hn]at a1
 rw [<- hn2]at b1
 have HN:=Lib.hid hn;have HN2:=Lib.hid hn2
 have R:=Lib.hid r;have R2:=Lib.hid r2;have HG:=Lib.hid hg;have HG2:=Lib.hid hg2;have HM:=Lib.hid hm;have HM2:=Lib.hid hm2;have HS:=Lib.hid hsame;have HGS:=Lib.hid hg2s
 clear hw1 hw2 r r2 hg hg2 hm hm2 hsame hg2s hn hn2
 have d1:decide (n<n2)=false:=by simp;omega
 have d4:decide ((0:Int)<(n2:Int))=true:=by simp;omega
 have d4':0<n2:=by omega
 have d6:decide ((0:Int)<(L2:Int))=true:=by simp;omega
 have d7:decide ((L:Int)<=(L2:Int)-1)=true:=by simp;omega
 have p1:(1:Int)<=(L2:Int):=by omega
 have i1:(0:Int)<=(n2:Int)-1/\(n2:Int)-1<n/\(n2:Int)-1<n2:=by omega
 have i2:((n2:Int)-1).toNat=n2-1:=by omega
 go_enter Tryz.func55,Tryz.ntmps55
 go_wp2_with (go_at_call 103;refine (panicIfNull_c _ _).mono ?_;rintro e w' ⟨rfl,rfl⟩)
 refine (HW2.out _ B0.out).mono ?_
 rintro e w' ⟨rfl,rfl⟩
 go_wp2_with (fail)
 refine (HW1.out _ A0.out).mono ?_
 rintro e w' ⟨rfl,rfl⟩
 go_wp2
 go_quiet (fail)
 go_wp2
 go_loopw [7] (fun i wr=>∃k:Nat,k<=n2/\i= .int .i64 (k:Int)/\RS wr b s L c (fun j=>if j<k then g j&&&g2 j else g j)/\∃nd,Fr (· =s) (w'.drewN nd) wr) (fun i _=>n2-(intOf i).toNat)
 case atStart=>exact ⟨0,by omega,rfl,(R.out.drewN _).congr (fun j _=>by simp),_,Fr.refl _ _⟩
 case round=>
  obtain ⟨k,hk,rfl,hr,nd,hfr⟩:=hrel
  have HF:=Lib.hid hfr
  have HR:=Lib.hid hr
  by_cases hlt:k<n2
  ·have c0:=hr.at (i:=k) (by rw [<- HN.out];omega)
   have f0:=hr.fr k
   rw [if_neg (Nat.lt_irrefl k)]at c0
   have c1:=other_at (k:=k) (rowIs_drewN R2.out.hs nd) (by have:=R2.out.hn;rw [<- HN2.out]at this;omega) hfr (fun e=>by rw [c0,HGS.out e k (by rw [<- HN2.out];omega)])
   clear hr hfr
   go_wp2
   refine wp_region_quiet_tail 9 (by kernel_rfl) (by kernel_rfl) ?_
   simp only [List.take_succ_cons,List.take_zero,List.drop_succ_cons,List.drop_zero]
   repeat (go_big_quiet_step (fail))
   refine wpQuiet_nil ?_
   intro _ ⟨nq,hw'⟩
   subst hw'
   go_wp2
   go_roundw
   case rel=>
    refine ⟨k+1,by omega,by go_num,?_,nd,(HF.out.drewN nq).setCell (.inl rfl) _⟩
    rw [wn_and]
    refine ((HR.out.drewN nq).set k _).congr (fun j _=>?_)
    by_cases e:j=k
    ·subst e;rw [if_pos rfl,if_pos (Nat.lt_succ_self j)]
    ·rw [if_neg e]
     by_cases e2:j<k
     ·rw [if_pos e2,if_pos (show j<k+1 by omega)]
     ·rw [if_neg e2,if_neg (show ¬j<k+1 by omega)]
   case measure=>simp [intOf];omega
  ·have hkn:k=n2:=by omega
   subst hkn
   have x1:=hr.h1
   rw [<- HN.out]at x1
   clear hr hfr
   generalize hK0:k=K0 at*
   clear hK0
   go_wp2
   obtain ⟨wo,rfl⟩:∃wo:World,wo=wr:=⟨_,rfl⟩
   go_loopw [8] (fun i wr2=>∃t:Nat,K0<=t/\t<=n/\i= .int .i64 (t:Int)/\RS wr2 b s L c (fun j=>if K0<=j/\j<t then 0 else if j<K0 then g j&&&g2 j else g j)/\Fr (· =s) wo wr2) (fun i _=>n-(intOf i).toNat)
   case atStart=>exact ⟨K0,Nat.le_refl _,by omega,rfl,HR.out.congr (fun j _=>(if_neg (show ¬(K0<=j/\j<K0) by omega)).symm),Fr.refl _ _⟩
   case round=>
    obtain ⟨t,hKt,ht,rfl,hr2,hfr2⟩:=hrel
    have HF2:=Lib.hid hfr2
    have HR2:=Lib.hid hr2
    have x0:=hr2.h0
    have x1:=hr2.h1
    rw [<- HN.out]at x1
    have y0:=(hfr2.cell (a:=⟨b2,0,none⟩) (Nat.lt_of_lt_of_le (hp_lt R2.out.hb) HF.out.size) (fun e=>hbs e.symm)).trans ((HF.out.cell (a:=⟨b2,0,none⟩) (hp_lt R2.out.hb) (fun e=>hbs e.symm)).trans B0.out)
    by_cases hlt:t<n
    ·have c0:=hr2.at (i:=t) (by rw [<- HN.out];exact hlt)
     have f0:=hr2.fr t
     clear hr2 hfr2
     go_wp2
     go_roundw
     case rel=>
      refine ⟨t+1,by omega,by omega,by go_num,?_,HF2.out.setCell (.inl rfl) _⟩
      refine (HR2.out.set t 0).congr (fun j _=>?_)
      by_cases e:j=t
      ·rw [if_pos e,if_pos (show K0<=j/\j<t+1 by omega)]
      ·rw [if_neg e]
       by_cases e2:K0<=j/\j<t
       ·rw [if_pos e2,if_pos (show K0<=j/\j<t+1 by omega)]
       ·rw [if_neg e2,if_neg (show ¬(K0<=j/\j<t+1) by omega)]
     case measure=>simp [intOf];omega
    ·have htn:t=n:=by omega
     subst htn
     clear hr2 hfr2
     have hba:BA wr b (.slice (some ⟨s,0,none⟩) (nw L) c) L (fun i=>m i&&m2 i):=by
      refine HR2.out.ba (fun j hj=>?_) (fun i hi=>?_)
      ·by_cases e:j<K0
       ·rw [if_neg (show ¬(K0<=j/\j<t) by omega),if_pos e,HG.out j hj,HG2.out j (by rw [<- HN2.out];omega),pk_and]
       ·rw [if_pos (show K0<=j/\j<t by rw [<- HN.out]at hj;omega),<- pk_and,pk_out HM2.out (by rw [<- HN.out]at hj;rw [<- HN2.out];omega)]
        simp
      ·rw [HM.out i hi];rfl
     have hfw:Fr (Own b (.slice (some ⟨s,0,none⟩) (nw L) c)) w' wr:=(((Fr.refl _ _).drewN nd).trans (HF.out.mono (fun r hr=> .inr (by subst hr;rfl)))).trans (HF2.out.mono (fun r hr=> .inr (by subst hr;rfl)))
     have HBA:=Lib.hid hba;have HFW:=Lib.hid hfw
     clear hba hfw
     go_wp2
     go_quiet (fail)
     go_wp2_with (go_at_call 100;refine (extA_e b L2 L _ _ _ hLL hl2 (HBA.out.drewN _)).mono ?_;rintro e w1 ⟨rfl,v1,hba,hch0⟩)
     go_end0
     exact ⟨rfl,v1,hba,(⟨HFW.out.drewN _,.inl rfl⟩:Ch w' (wr.drewN nq) b _ _).trans hch0⟩
theorem ipInt_gt(b b2 L L2:Nat)(v v2:Value)(m m2:Nat->Bool)(w:World)(hL:0<L)(hL2:0<L2)(hcs:nw L<nw L2)(hLL:L<L2)(h:BA w b v L m)(k2:BA w b2 v2 L2 m2)(hs:(b2=b/\m2=m)\/Sep b v b2 v2):
  Calls Tryz.prog 55 #[.pointer (some ⟨b,0,none⟩),.pointer (some ⟨b2,0,none⟩)] w (MutA w b v L2 (fun i=>m i&&m2 i) (.tuple #[])):=by
 have hsl:b2=b->L2=L:=fun e=>by subst e;exact (h.same k2).2
 obtain ⟨s,c,g,rfl,r,hg,hm⟩:=h.rs hL
 obtain ⟨s2,c2,g2,rfl,r2,hg2,hm2⟩:=k2.rs hL2
 have hsame:s2=s->b2=b/\m2=m:=by
  intro e;subst e
  rcases hs with hs|hs
  ·exact hs
  ·exact absurd (.inr rfl) (hs s2 (.inr rfl))
 have hbs:s≠b2:=by
  rcases hs with ⟨rfl,_⟩|hs
  ·exact r.ne
  ·intro e;subst e;exact hs s (.inr rfl) (.inl rfl)
 have hg2s:s2=s->∀j,j<nw L2->g2 j=g j:=fun e j hj=>by
  obtain ⟨h1,rfl⟩:=hsame e
  have:=hsl h1
  rw [hg2 j hj,hg j (by rw [<- this];exact hj)]
 have HKK:=Lib.hid k2
 have hkeep:=True.intro
 clear h k2 hs hsl
 have a0:=r.h0
 have a1:=r.h1
 have b0:=r2.h0
 have b1:=r2.h1
 have hl:=r.hl
 have hl2:=r2.hl
 obtain ⟨n,hn⟩:∃n,n=nw L:=⟨_,rfl⟩
 obtain ⟨n2,hn2⟩:∃n,n=nw L2:=⟨_,rfl⟩
 have hnb:n<=1000:=by subst hn;unfold nw;omega
 have hn2b:n2<=1000:=by subst hn2;unfold nw;omega
 have hn1:1<=n2:=by subst hn2;unfold nw;omega
 have hn0:1<=n:=by subst hn;unfold nw;omega
 rw [<- hn,<- hn2]at hcs
 have hln:n<=n/\n<=n2/\1<=n:=by omega
 have hw1:∀w:World,w.cell? ⟨b,0,none⟩=some (.int .u64 (L:Int))->Calls Tryz.prog 101 #[.pointer (some ⟨b,0,none⟩)] w fun e w'=>e= .returned (.int .i64 (n:Int))/\w'=w:=fun w h=>by rw [hn];exact wordCount_c b L w (by omega) h
 have hw2:∀w:World,w.cell? ⟨b2,0,none⟩=some (.int .u64 (L2:Int))->Calls Tryz.prog 101 #[.pointer (some ⟨b2,0,none⟩)] w fun e w'=>e= .returned (.int .i64 (n2:Int))/\w'=w:=fun w h=>by rw [hn2];exact wordCount_c b2 L2 w (by omega) h
 have HW1:=Lib.hid hw1;have HW2:=Lib.hid hw2
 have A0:=Lib.hid a0;have B0:=Lib.hid b0
 have z0:=r.at (i:=n-1) (by omega)
 have z2:=r2.at (i:=n-1) (by omega)
 rw [<- hn]at a1
 rw [<- hn2]at b1
 have HN:=Lib.hid hn;have HN2:=Lib.hid hn2
 have R:=Lib.hid r;have R2:=Lib.hid r2;have HG:=Lib.hid hg;have HG2:=Lib.hid hg2;have HM:=Lib.hid hm;have HM2:=Lib.hid hm2;have HS:=Lib.hid hsame;have HGS:=Lib.hid hg2s
 clear hw1 hw2 r r2 hg hg2 hm hm2 hsame hg2s hn hn2
 have d1:decide (n<n2)=true:=by simp;omega
 have d4:decide ((0:Int)<(n:Int))=true:=by simp;omega
 have d4':0<n:=by omega
 have d6:decide ((0:Int)<(L2:Int))=true:=by simp;omega
 have d7:decide ((L:Int)<=(L2:Int)-1)=true:=by simp;omega
 have p1:(1:Int)<=(L2:Int):=by omega
 have i1:(0:Int)<=(n:Int)-1/\(n:Int)-1<n/\(n:Int)-1<n2:=by omega
 have i2:((n:Int)-1).toNat=n-1:=by omega
 go_enter Tryz.func55,Tryz.ntmps55
 go_wp2_with (go_at_call 103;refine (panicIfNull_c _ _).mono ?_;rintro e w' ⟨rfl,rfl⟩)
 refine (HW2.out _ B0.out).mono ?_
 rintro e w' ⟨rfl,rfl⟩
 go_wp2_with (fail)
 refine (HW1.out _ A0.out).mono ?_
 rintro e w' ⟨rfl,rfl⟩
 go_wp2_with (fail)
 refine (HW1.out _ A0.out).mono ?_
 rintro e w' ⟨rfl,rfl⟩
 go_wp2
 go_quiet (fail)
 go_wp2
 go_loopw [7] (fun i wr=>∃k:Nat,k<=n/\i= .int .i64 (k:Int)/\RS wr b s L c (fun j=>if j<k then g j&&&g2 j else g j)/\∃nd,Fr (· =s) (w'.drewN nd) wr) (fun i _=>n-(intOf i).toNat)
 case atStart=>exact ⟨0,by omega,rfl,(R.out.drewN _).congr (fun j _=>by simp),_,Fr.refl _ _⟩
 case round=>
  obtain ⟨k,hk,rfl,hr,nd,hfr⟩:=hrel
  have HF:=Lib.hid hfr
  have HR:=Lib.hid hr
  by_cases hlt:k<n
  ·have c0:=hr.at (i:=k) (by rw [<- HN.out];omega)
   have f0:=hr.fr k
   rw [if_neg (Nat.lt_irrefl k)]at c0
   have c1:=other_at (k:=k) (rowIs_drewN R2.out.hs nd) (by have:=R2.out.hn;rw [<- HN2.out]at this;omega) hfr (fun e=>by rw [c0,HGS.out e k (by rw [<- HN2.out];omega)])
   clear hr hfr
   go_wp2
   refine wp_region_quiet_tail 9 (by kernel_rfl) (by kernel_rfl) ?_
   simp only [List.take_succ_cons,List.take_zero,List.drop_succ_cons,List.drop_zero]
   repeat (go_big_quiet_step (fail))
   refine wpQuiet_nil ?_
   intro _ ⟨nq,hw'⟩
   subst hw'
   go_wp2
   go_roundw
   case rel=>
    refine ⟨k+1,by omega,by go_num,?_,nd,(HF.out.drewN nq).setCell (.inl rfl) _⟩
    rw [wn_and]
    refine ((HR.out.drewN nq).set k _).congr (fun j _=>?_)
    by_cases e:j=k
    ·subst e;rw [if_pos rfl,if_pos (Nat.lt_succ_self j)]
    ·rw [if_neg e]
     by_cases e2:j<k
     ·rw [if_pos e2,if_pos (show j<k+1 by omega)]
     ·rw [if_neg e2,if_neg (show ¬j<k+1 by omega)]
   case measure=>simp [intOf];omega
  ·have hkn:k=n:=by omega
   subst hkn
   have x1:=hr.h1
   rw [<- HN.out]at x1
   clear hr hfr
   generalize hK0:k=K0 at*
   clear hK0
   go_wp2
   obtain ⟨wo,rfl⟩:∃wo:World,wo=wr:=⟨_,rfl⟩
   go_loopw [8] (fun i wr2=>∃t:Nat,K0<=t/\t<=K0/\i= .int .i64 (t:Int)/\RS wr2 b s L c (fun j=>if K0<=j/\j<t then 0 else if j<K0 then g j&&&g2 j else g j)/\Fr (· =s) wo wr2) (fun i _=>K0-(intOf i).toNat)
   case atStart=>exact ⟨K0,Nat.le_refl _,by omega,rfl,HR.out.congr (fun j _=>(if_neg (show ¬(K0<=j/\j<K0) by omega)).symm),Fr.refl _ _⟩
   case round=>
    obtain ⟨t,hKt,ht,rfl,hr2,hfr2⟩:=hrel
    have HF2:=Lib.hid hfr2
    have HR2:=Lib.hid hr2
    have x0:=hr2.h0
    have x1:=hr2.h1
    rw [<- HN.out]at x1
    have y0:=(hfr2.cell (a:=⟨b2,0,none⟩) (Nat.lt_of_lt_of_le (hp_lt R2.out.hb) HF.out.size) (fun e=>hbs e.symm)).trans ((HF.out.cell (a:=⟨b2,0,none⟩) (hp_lt R2.out.hb) (fun e=>hbs e.symm)).trans B0.out)
    by_cases hlt:t<K0
    ·exfalso;omega
    ·have htn:t=K0:=by omega
     subst htn
     clear hr2 hfr2
     have hba:BA wr b (.slice (some ⟨s,0,none⟩) (nw L) c) L (fun i=>m i&&m2 i):=by
      refine HR2.out.ba (fun j hj=>?_) (fun i hi=>?_)
      ·by_cases e:j<t
       ·rw [if_neg (show ¬(t<=j/\j<t) by omega),if_pos e,HG.out j hj,HG2.out j (by rw [<- HN2.out];omega),pk_and]
       ·rw [if_pos (show t<=j/\j<t by rw [<- HN.out]at hj;omega),<- pk_and,pk_out HM2.out (by rw [<- HN.out]at hj;rw [<- HN2.out];omega)]
        simp
      ·rw [HM.out i hi];rfl
     have hfw:Fr (Own b (.slice (some ⟨s,0,none⟩) (nw L) c)) w' wr:=(((Fr.refl _ _).drewN nd).trans (HF.out.mono (fun r hr=> .inr (by subst hr;rfl)))).trans (HF2.out.mono (fun r hr=> .inr (by subst hr;rfl)))
     have HBA:=Lib.hid hba;have HFW:=Lib.hid hfw
     clear hba hfw
     go_wp2
     go_quiet (fail)
     go_wp2_with (go_at_call 100;refine (extA_e b L2 L _ _ _ hLL hl2 (HBA.out.drewN _)).mono ?_;rintro e w1 ⟨rfl,v1,hba,hch0⟩)
     go_end0
     exact ⟨rfl,v1,hba,(⟨HFW.out.drewN _,.inl rfl⟩:Ch w' (wr.drewN nq) b _ _).trans hch0⟩
theorem ipInt_z2(b b2 L:Nat)(v v2:Value)(m m2:Nat->Bool)(w:World)(h:BA w b v L m)(k2:BA w b2 v2 0 m2)(hs:(b2=b/\m2=m)\/Sep b v b2 v2):
  Calls Tryz.prog 55 #[.pointer (some ⟨b,0,none⟩),.pointer (some ⟨b2,0,none⟩)] w (MutA w b v L (fun i=>m i&&m2 i) (.tuple #[])):=by
 have he:(fun i=>m i&&m2 i)=fun _=>false:=by funext i;rw [k2.1 i (Nat.zero_le _)];simp
 rw [he]
 have hl:=h.2.lim
 have a0:=hp_cell h.2.blk 0 (v:= .int .u64 L) rfl
 have b0:=hp_cell k2.2.blk 0 (v:= .int .u64 ((0:Nat):Int)) rfl
 have hb2:=hp_lt k2.2.blk
 obtain ⟨n,hn⟩:∃n,n=nw L:=⟨_,rfl⟩
 have hnb:n<=1000:=by subst hn;unfold nw;omega
 have hw1:∀w:World,w.cell? ⟨b,0,none⟩=some (.int .u64 (L:Int))->Calls Tryz.prog 101 #[.pointer (some ⟨b,0,none⟩)] w fun e w'=>e= .returned (.int .i64 (n:Int))/\w'=w:=fun w h=>by rw [hn];exact wordCount_c b L w (by omega) h
 have hw2:∀w:World,w.cell? ⟨b2,0,none⟩=some (.int .u64 ((0:Nat):Int))->Calls Tryz.prog 101 #[.pointer (some ⟨b2,0,none⟩)] w fun e w'=>e= .returned (.int .i64 0)/\w'=w:=fun w h=>wordCount_c b2 0 w (by omega) h
 have HH:=Lib.hid h
 have HW1:=Lib.hid hw1;have HW2:=Lib.hid hw2
 have A0:=Lib.hid a0;have B0:=Lib.hid b0
 clear hw1 hw2 he
 by_cases hL:L=0
 ·subst hL
  obtain rfl:n=0:=hn.trans (by rfl)
  have hv:∃a c,v= .slice a 0 c:=by
   rcases h.2.arr with ⟨_,rfl⟩|⟨s,c,rfl,_⟩
   ·exact ⟨_,_,rfl⟩
   ·exact ⟨_,_,rfl⟩
  obtain ⟨a2,c2,rfl⟩:=hv
  have a1:=hp_cell h.2.blk 1 (v:= .slice a2 0 c2) rfl
  have hz:BA w b (.slice a2 0 c2) 0 (fun _=>false):=⟨fun _ _=>rfl,h.2.congr (fun i hi=>by simp [nw]at hi)⟩
  have HZ:=Lib.hid hz
  clear h k2 hs hn hz
  go_enter Tryz.func55,Tryz.ntmps55
  go_wp2_with (go_at_call 103;refine (panicIfNull_c _ _).mono ?_;rintro e w' ⟨rfl,rfl⟩)
  refine (HW2.out _ B0.out).mono ?_
  rintro e w' ⟨rfl,rfl⟩
  go_wp2_with (fail)
  refine (HW1.out _ A0.out).mono ?_
  rintro e w' ⟨rfl,rfl⟩
  go_wp2
  refine wp_loop_once ?_
  go_wp2
  go_end0
  exact ⟨rfl,_,HZ.out,Ch.refl _ _ _⟩
 ·obtain ⟨s,c,g,rfl,r,hg,hm⟩:=h.rs (by omega)
  have hbs:s≠b2:=by
   rcases hs with ⟨rfl,_⟩|hs
   ·exact r.ne
   ·intro e;subst e;exact hs s (.inr rfl) (.inl rfl)
  have a1:=r.h1
  rw [<- hn]at a1
  have HN:=Lib.hid hn;have R:=Lib.hid r
  clear h k2 hs hn r hg hm
  have d1:decide ((n:Int)<0)=false:=by simp
  go_enter Tryz.func55,Tryz.ntmps55
  go_wp2_with (go_at_call 103;refine (panicIfNull_c _ _).mono ?_;rintro e w' ⟨rfl,rfl⟩)
  refine (HW2.out _ B0.out).mono ?_
  rintro e w' ⟨rfl,rfl⟩
  go_wp2_with (fail)
  refine (HW1.out _ A0.out).mono ?_
  rintro e w' ⟨rfl,rfl⟩
  go_wp2
  go_loopw [8] (fun i wr2=>∃t:Nat,t<=n/\i= .int .i64 (t:Int)/\RS wr2 b s L c (fun j=>if j<t then 0 else g j)/\Fr (· =s) w' wr2) (fun i _=>n-(intOf i).toNat)
  case atStart=>exact ⟨0,by omega,rfl,R.out.congr (fun j _=>by simp),Fr.refl _ _⟩
  case round=>
   obtain ⟨t,ht,rfl,hr2,hfr2⟩:=hrel
   have HF2:=Lib.hid hfr2
   have HR2:=Lib.hid hr2
   have x0:=hr2.h0
   have x1:=hr2.h1
   rw [<- HN.out]at x1
   have y0:=(hfr2.cell (a:=⟨b2,0,none⟩) hb2 (fun e=>hbs e.symm)).trans B0.out
   by_cases hlt:t<n
   ·have c0:=hr2.at (i:=t) (by rw [<- HN.out];exact hlt)
    have f0:=hr2.fr t
    clear hr2 hfr2
    go_wp2
    go_roundw
    case rel=>
     refine ⟨t+1,by omega,by go_num,?_,HF2.out.setCell (.inl rfl) _⟩
     refine (HR2.out.set t 0).congr (fun j _=>?_)
     by_cases e:j=t
     ·rw [if_pos e,if_pos (show j<t+1 by omega)]
     ·rw [if_neg e]
      by_cases e2:j<t
      ·rw [if_pos e2,if_pos (show j<t+1 by omega)]
      ·rw [if_neg e2,if_neg (show ¬j<t+1 by omega)]
    case measure=>simp [intOf];omega
   ·have htn:t=n:=by omega
    subst htn
    clear hr2 hfr2
    go_wp2
    go_end0
    refine ⟨rfl,_,HR2.out.ba (fun j hj=>?_) (fun _ _=>rfl),⟨HF2.out.mono (fun r hr=> .inr (by subst hr;rfl)),.inl rfl⟩⟩
    rw [if_pos (by rw [HN.out];exact hj)]
    exact pk_ext (fun _ _=>by simp)
theorem ipInt_z1(b b2 L2:Nat)(v v2:Value)(m m2:Nat->Bool)(w:World)(hL:0<L2)(h:BA w b v 0 m)(k2:BA w b2 v2 L2 m2):
  Calls Tryz.prog 55 #[.pointer (some ⟨b,0,none⟩),.pointer (some ⟨b2,0,none⟩)] w (MutA w b v L2 (fun i=>m i&&m2 i) (.tuple #[])):=by
 have he:(fun i=>m i&&m2 i)=m:=by funext i;rw [h.1 i (Nat.zero_le _)];rfl
 rw [he]
 have hl2:=k2.2.lim
 have a0:=hp_cell h.2.blk 0 (v:= .int .u64 ((0:Nat):Int)) rfl
 have b0:=hp_cell k2.2.blk 0 (v:= .int .u64 L2) rfl
 have hv:∃a c,v= .slice a 0 c:=by
  rcases h.2.arr with ⟨_,rfl⟩|⟨s,c,rfl,_⟩
  ·exact ⟨_,_,rfl⟩
  ·exact ⟨_,_,rfl⟩
 obtain ⟨a2,c2,rfl⟩:=hv
 have a1:=hp_cell h.2.blk 1 (v:= .slice a2 0 c2) rfl
 obtain ⟨n2,hn2⟩:∃n,n=nw L2:=⟨_,rfl⟩
 have hnb:n2<=1000:=by subst hn2;unfold nw;omega
 have hn1:1<=n2:=by subst hn2;unfold nw;omega
 have hw1:∀w:World,w.cell? ⟨b,0,none⟩=some (.int .u64 ((0:Nat):Int))->Calls Tryz.prog 101 #[.pointer (some ⟨b,0,none⟩)] w fun e w'=>e= .returned (.int .i64 0)/\w'=w:=fun w h=>wordCount_c b 0 w (by omega) h
 have hw2:∀w:World,w.cell? ⟨b2,0,none⟩=some (.int .u64 (L2:Int))->Calls Tryz.prog 101 #[.pointer (some ⟨b2,0,none⟩)] w fun e w'=>e= .returned (.int .i64 (n2:Int))/\w'=w:=fun w h=>by rw [hn2];exact wordCount_c b2 L2 w (by omega) h
 have HH:=Lib.hid h
 have HW1:=Lib.hid hw1;have HW2:=Lib.hid hw2
 have A0:=Lib.hid a0;have B0:=Lib.hid b0
 clear hw1 hw2 he h k2 hn2
 have d1':0<n2:=hn1
 have d6:decide ((0:Int)<(L2:Int))=true:=by simp;omega
 have d7:decide ((0:Int)<=(L2:Int)-1)=true:=by simp;omega
 have p1:(1:Int)<=(L2:Int):=by omega
 go_enter Tryz.func55,Tryz.ntmps55
 go_wp2_with (go_at_call 103;refine (panicIfNull_c _ _).mono ?_;rintro e w' ⟨rfl,rfl⟩)
 refine (HW2.out _ B0.out).mono ?_
 rintro e w' ⟨rfl,rfl⟩
 go_wp2_with (fail)
 refine (HW1.out _ A0.out).mono ?_
 rintro e w' ⟨rfl,rfl⟩
 go_wp2_with (fail)
 refine (HW1.out _ A0.out).mono ?_
 rintro e w' ⟨rfl,rfl⟩
 go_wp2
 refine wp_loop_once ?_
 go_wp2
 go_quiet (fail)
 go_wp2_with (go_at_call 100;refine (extA_e b L2 0 _ _ _ hL hl2 (HH.out.drewN _)).mono ?_;rintro e w1 ⟨rfl,v1,hba,hch0⟩)
 go_end0
 exact ⟨rfl,v1,hba,(⟨(Fr.refl _ _).drewN _,.inl rfl⟩:Ch w' (w'.drewN nq) b _ _).trans hch0⟩
theorem ipInt_c(b b2 L L2:Nat)(v v2:Value)(m m2:Nat->Bool)(w:World)(h:BA w b v L m)(k2:BA w b2 v2 L2 m2)(hs:(b2=b/\m2=m)\/Sep b v b2 v2):
  Calls Tryz.prog 55 #[.pointer (some ⟨b,0,none⟩),.pointer (some ⟨b2,0,none⟩)] w (MutA w b v (max L L2) (fun i=>m i&&m2 i) (.tuple #[])):=by
 by_cases h2:L2=0
 ·subst h2;rw [Nat.max_eq_left (by omega)];exact ipInt_z2 b b2 L v v2 m m2 w h k2 hs
 ·by_cases h1:L=0
  ·subst h1;rw [Nat.max_eq_right (by omega)];exact ipInt_z1 b b2 L2 v v2 m m2 w (by omega) h k2
  ·by_cases hL:L2<=L
   ·rw [Nat.max_eq_left hL];exact ipInt_le b b2 L L2 v v2 m m2 w (by omega) (by omega) (by unfold nw;omega) hL h k2 hs
   ·rw [Nat.max_eq_right (by omega)]
    by_cases e:nw L2<=nw L
    ·exact ipInt_ge b b2 L L2 v v2 m m2 w (by omega) (by omega) e (by omega) h k2 hs
    ·exact ipInt_gt b b2 L L2 v v2 m m2 w (by omega) (by omega) (by omega) (by omega) h k2 hs
def mixL(N:Nat)(f g:Nat->Bool)(k:Nat):List Bool:=(List.range N).map (fun i=>if i<k then f i else g i)
theorem mixL_length(N:Nat)(f g:Nat->Bool)(k:Nat):(mixL N f g k).length=N:=by simp [mixL]
theorem mixL_zero(N:Nat)(f g:Nat->Bool):mixL N f g 0=(List.range N).map g:=by simp [mixL]
theorem mixL_full(N:Nat)(f g:Nat->Bool):mixL N f g N=(List.range N).map f:=by
 unfold mixL
 apply List.map_congr_left
 intro i hi
 rw [if_pos (List.mem_range.1 hi)]
theorem mixL_set(N:Nat)(f g:Nat->Bool)(k:Nat):((mixL N f g k).map Value.bool).set k (.bool (f k))=(mixL N f g (k+1)).map Value.bool:=by
 unfold mixL
 rw [<- List.map_set,range_set]
 congr 1
 apply List.map_congr_left
 intro i _
 by_cases e:i=k
 ·subst e;rw [if_pos rfl,if_pos (by omega)]
 ·rw [if_neg e]
  by_cases e2:i<k
  ·rw [if_pos e2,if_pos (by omega)]
  ·rw [if_neg e2,if_neg (by omega)]
theorem mixL_skip(N:Nat)(f g:Nat->Bool)(k:Nat)(h:f k=g k):mixL N f g k=mixL N f g (k+1):=by
 unfold mixL
 apply List.map_congr_left
 intro i _
 by_cases e:i=k
 ·subst e;rw [if_neg (by omega),if_pos (by omega),h]
 ·by_cases e2:i<k
  ·rw [if_pos e2,if_pos (by omega)]
  ·rw [if_neg e2,if_neg (by omega)]
theorem do_25(a b c fr to n B:Nat)(wd:BitVec 64)(many:Value)(vs:Nat->Value)(ls:Nat->List Bool)(w:World)(ha:a<4)(hb:b<4)(hc:c<4)(hn:n<=2000)(hs:Sets w B vs ls):
  Calls Tryz.prog 6 #[stepV 25 a b c fr to n wd many,.pointer (some ⟨B,0,none⟩)] w (AnsP false 0 w B vs ls a ((List.range (ls a).length).map (fun i=>mOf (ls a) (i+n)))):=by
 obtain ⟨la,lb,lc,oa,ca,ob,cb,oc,cc,hlab,hlbb,hlcb,hca,hcb,hcc,hcapa,hB,nB,nB1,nB2,hB1,hB2,HS,HLA,HLB,HLC,EA,EB,EC⟩:=doIn hs ha hb hc
 unfold stepV
 clear hs
 have hmk:=make25 ((la:Nat):Int) ((la:Nat):Int) (by omega) (by omega) (by omega)
 rw [Int.toNat_natCast]at hmk
 go_enter Tryz.func6,Tryz.ntmps6
 go_wp2
 go_quiet (fail)
 go_wp2
 obtain ⟨w1,hw1,HDW,HBA,HBB,HBC⟩:=doMid 25 fr to n nq wd many false 0 ha hb hc HS EA EB EC
 rw [hw1];clear hw1
 have hsw1:=HDW.out.size
 have hrow0:BL (w1.alloc (.cells (madeCells #[.bool false] la) 4)) (.slice (some ⟨w.heap.size+8,0,none⟩) la la) (mixL la (fun i=>mOf (ls a) (i+n)) (fun _=>false) 0):=by
  have h:=rowLst (World.rowIs_made w1 (.bool false) la 4) (Nat.le_refl _) (by omega)
  rw [hsw1]at h
  unfold BL
  rw [mixL_length,mixL_zero,List.map_map]
  exact h
 have hf0:Fr (fun _=>False) w1 (w1.alloc (.cells (madeCells #[.bool false] la) 4)):=(Fr.refl _ w1).alloc _
 obtain ⟨v2,hv2e⟩:∃v2,v2=Value.slice (some ⟨w.heap.size+8,0,none⟩) la la:=⟨_,rfl⟩
 obtain ⟨p,hp⟩:∃p,p=w.heap.size+8:=⟨_,rfl⟩
 rw [show w.heap.size+1+1+1+1+1+1+1+1=p from hp.symm]
 rw [<- hp]at hrow0 hv2e
 have hpw:w1.heap.size=p:=hsw1.trans hp.symm
 generalize w1.alloc (.cells (madeCells #[.bool false] la) 4)=w0 at*
 have HV0:=Lib.hid hrow0;have HF0:=Lib.hid hf0;have SW1:=Lib.hid hsw1;have HPW:=Lib.hid hpw;have HP:=Lib.hid hp;have HVE:=Lib.hid hv2e
 clear hrow0 hf0 hca hcb hcc hsw1 hmk hpw hp hv2e
 go_loopw [479] (fun i wr=>∃k:Nat,k<=la/\i= .int .i64 (k:Int)/\BL wr (.slice (some ⟨p,0,none⟩) la la) (mixL la (fun i=>mOf (ls a) (i+n)) (fun _=>false) k)/\Fr (· =p) w0 wr) (fun i _=>la-(intOf i).toNat)
 case atStart=>exact ⟨0,by omega,rfl,HV0.out,Fr.refl _ _⟩
 case round=>
  obtain ⟨k,hk,rfl,hrow,hfr⟩:=hrel
  have hfx:Fr (fun _=>False) w1 wr:=HF0.out.trans' hfr (fun r hr=> .inr (by rw [hr,HPW.out];exact Nat.le_refl _))
  have hfw:Fr (fun _=>False) w wr:=HDW.out.fr_.trans hfx
  have HR:=Lib.hid hrow;have HF:=Lib.hid hfr;have HFW:=Lib.hid hfw;have HFX:=Lib.hid hfx
  have hrow':Lst wr 4 1 (.slice (some ⟨p,0,none⟩) la la) la ((mixL la (fun i=>mOf (ls a) (i+n)) (fun _=>false) k).map Value.bool):=by
   have h:=hrow
   unfold BL at h
   rw [mixL_length]at h
   exact h
  have HR2:=Lib.hid hrow'
  by_cases hlt:k<la
  ·have hc:=hrow'.at (i:=k) (by omega)
   obtain ⟨s_,c_,e_,y_,_,hcell⟩:=hc
   cases e_
   have hfz:=hrow'.free k
   have hA:Calls Tryz.prog 18 #[.slice oa la ca,.int .i64 ((k:Int)+(n:Int))] wr (fun e w'=>e= .returned (.bool (mOf (ls a) (k+n)))/\w'=wr):=by
    rw [show (k:Int)+(n:Int)=((k+n:Nat):Int) by omega]
    exact has_m _ (ls a) (k+n) _ rfl wr (HBA.out wr hfw)
   have HA:=Lib.hid hA;clear hA
   have q6:=hp_cell ((hfx.keep _ (hp_lt HDW.out.p0) (fun h=>h)).trans HDW.out.p0) 6 (v:= .int .i64 (n:Int)) rfl
   clear hrow hfr hfw hfx hrow'
   go_wp2_with (go_at_call 18;refine (HA.out).mono ?_;rintro e w3 ⟨rfl,rfl⟩)
   go_roundw
   case rel=>
    refine ⟨k+1,by omega,by go_num,?_,HF.out.setCell (a:=⟨p,k,none⟩) (.inl rfl) _⟩
    have h:=HR2.out.set k (by omega) (.bool (mOf (ls a) (k+n)))
    rw [mixL_set]at h
    unfold BL
    rw [mixL_length]
    exact h
   case measure=>simp [intOf];omega
  ·have hkk:k=la:=by omega
   subst hkk
   clear hrow hfr hfw hfx hrow'
   go_wp2_with (go_at_call 15;refine Hid.out ?_)
   refine Lib.hid ?_
   have hLe:mixL k (fun i=>mOf (ls a) (i+n)) (fun _=>false) k=(List.range (ls a).length).map (fun i=>mOf (ls a) (i+n)):=by rw [mixL_full,<- HLA.out]
   have hv2:BL wr v2 ((List.range (ls a).length).map (fun i=>mOf (ls a) (i+n))):=by rw [HVE.out,<- hLe];exact HR.out
   have ho2:∀r,v2.ownBlock=some r->w1.heap.size<=r:=by rw [HVE.out,HPW.out];intro r hr;cases hr;exact Nat.le_refl _
   have hf2:=HFX.out
   rw [<- HVE.out]
   have hca:=trivial;have hcb:=trivial;have hcc:=trivial
   obtain ⟨w2,hw2⟩:∃w2,w2=wr:=⟨_,rfl⟩
   rw [<- hw2]at hf2 hv2 ⊢
   clear hw2
   have hll:((List.range (ls a).length).map (fun i=>mOf (ls a) (i+n))).length<=6000:=by rw [<- hLe,mixL_length];omega
   have HC:=doOutA ha HS HDW hv2 hf2 ho2 hll
   clear hv2 hf2 ho2 hll hca hcb hcc
   refine HC.out.mono ?_
   rintro e w3 ⟨dd,rfl,HE,e0,f0,e1,f1,e2,f2,e3,f3,e4,f4,e5,f5⟩
   go_wp2
   clear e0 e1 e2 e3 e4 e5 f0 f1 f2 f3 f4 f5
   obtain ⟨w4,hw4,e0,e1,e2,e3,e4,e5,HF⟩:=doSix false 0 HE
   rw [hw4];clear hw4
   simp [bodyPost,results,Tryz.f6,Tryz.results6,go_sem,e0,e1,e2,e3,e4,e5]
   exact HF.out
end Go.Proofs.YtobdfhlmipcjbaaGreatDoor
namespace Go.Proofs.YtobdfhlmipcjbaaGreatDoor
open Go.RowKit Pop
theorem max_ex{m:Nat->Bool} :∀ {L:Nat},(∀i,L<=i->m i=false)->(∀j,m j=false)\/∃t,t<L/\m t=true/\∀j,t<j->m j=false:=by
 intro L
 induction L with
 |zero=>intro h;exact .inl (fun j=>h j (Nat.zero_le _))
 |succ L ih=>
  intro h
  cases hm:m L
  ·rcases ih (fun i hi=>by
    rcases Nat.eq_or_lt_of_le hi with e|e
    ·rw [<- e];exact hm
    ·exact h i e) with h1|⟨t,h1,h2,h3⟩
   ·exact .inl h1
   ·exact .inr ⟨t,by omega,h2,h3⟩
  ·exact .inr ⟨L,by omega,hm,fun j hj=>h j (by omega)⟩
theorem top_is{b L t:Nat}{v:Value}{m:Nat->Bool}{w:World}(h:BA w b v L m)(ht:m t=true)(hz:∀j,t<j->m j=false):
  Calls Tryz.prog 104 #[.pointer (some ⟨b,0,none⟩)] w fun e w'=>e= .returned (.tuple #[.int .u64 (t:Int),.bool true])/\w'=w:=by
 refine (top_c b L v m w h).mono ?_
 rintro e w' ⟨⟨n,r,rfl,⟨rfl,h1,h2⟩|⟨rfl,h1⟩⟩,hw⟩
 ·rcases Nat.lt_trichotomy n t with h3|h3|h3
  ·rw [h2 t h3]at ht;cases ht
  ·subst h3;exact ⟨rfl,hw⟩
  ·rw [hz n h3]at h1;cases h1
 ·rw [h1 t]at ht;cases ht
theorem top_none{b L:Nat}{v:Value}{m:Nat->Bool}{w:World}(h:BA w b v L m)(hz:∀j,m j=false):
  Calls Tryz.prog 104 #[.pointer (some ⟨b,0,none⟩)] w fun e w'=>(∃n:Nat,e= .returned (.tuple #[.int .u64 (n:Int),.bool false]))/\w'=w:=by
 refine (top_c b L v m w h).mono ?_
 rintro e w' ⟨⟨n,r,rfl,⟨rfl,h1,h2⟩|⟨rfl,h1⟩⟩,hw⟩
 ·rw [hz n]at h1;cases h1
 ·exact ⟨⟨n,rfl⟩,hw⟩
theorem shiftRight_c(b nb L:Nat)(v:Value)(m:Nat->Bool)(w:World)(hnb:nb<=50000)(h:BA w b v L m):
  Calls Tryz.prog 59 #[.pointer (some ⟨b,0,none⟩),.int .u64 (nb:Int)] w (MutA w b v L (down m nb) (.tuple #[])):=by
 rcases Nat.eq_zero_or_pos nb with h0|h0
 ·subst h0
  have e:down m 0=m:=rfl
  rw [e]
  have H:=Lib.hid h;clear h e
  go_enter Tryz.func59,Tryz.ntmps59
  go_wp2_with (go_at_call 103;refine (panicIfNull_c _ _).mono ?_;rintro e w' ⟨rfl,rfl⟩)
  go_end0
  exact ⟨rfl,v,H.out,Ch.refl _ _ _⟩
 ·have n0:¬(nb:Int)=0:=by omega
  rcases max_ex h.1 with hz|⟨t,htL,ht,hz⟩
  ·have e:down m nb=m:=by funext i;unfold down;rw [hz,hz]
   rw [e]
   have H:=Lib.hid h;have HZ:=Lib.hid hz;clear h e hz
   go_enter Tryz.func59,Tryz.ntmps59
   go_wp2_with (first|(go_at_call 103;refine (panicIfNull_c _ _).mono ?_;rintro e w' ⟨rfl,rfl⟩)|(go_at_call 104;refine (top_none H.out HZ.out).mono ?_;rintro e w' ⟨⟨n,rfl⟩,rfl⟩))
   go_end0
   exact ⟨rfl,v,H.out,Ch.refl _ _ _⟩
  ·rcases Nat.lt_or_ge t nb with hlt|hge
   ·have e:down m nb=fun _=>false:=by funext i;unfold down;exact hz _ (by omega)
    rw [e]
    have d0:decide (t<nb)=true:=by simpa using hlt
    have H:=Lib.hid h;have HZ:=Lib.hid hz;have HT:=Lib.hid ht
    have ht50:t<=50000:=by have:=h.2.lim;omega
    clear h e hz ht
    go_enter Tryz.func59,Tryz.ntmps59
    go_wp2_with (first|(go_at_call 103;refine (panicIfNull_c _ _).mono ?_;rintro e w' ⟨rfl,rfl⟩)|(go_at_call 104;refine (top_is H.out HT.out HZ.out).mono ?_;rintro e w' ⟨rfl,rfl⟩)|(go_at_call 52;refine (clearAll_c b L v m _ H.out).mono ?_;rintro e w' ⟨rfl,v1,hba,hch⟩))
    go_end0
    exact ⟨rfl,v1,hba,hch⟩
   ·obtain ⟨s,c,g,rfl,r,hg,hm⟩:=h.rs (by omega)
    refine (shiftRight_raw b s L c nb t g m w r hg h0 hge htL (fun w' hw=>by subst hw;exact top_is h ht hz) hz).mono ?_
    rintro e w' ⟨rfl,g',hr',hg',hf⟩
    exact ⟨rfl,_,hr'.ba hg' (fun i hi=>hm _ (by omega)),⟨hf.mono (fun r hr=> .inr (by subst hr;rfl)),.inl rfl⟩⟩
def SelP(m:Nat->Bool)(i L:Nat)(e:Ending):Prop:=
 ∃r:Nat,e= .returned (.int .u64 (r:Int))/\((r<L/\m r=true/\cntN m r=i)\/(cntN m L<=i/\r=L))
theorem select_c(b i L:Nat)(v:Value)(m:Nat->Bool)(w:World)(hi:i<=50000)(h:BA w b v L m):
  Calls Tryz.prog 95 #[.pointer (some ⟨b,0,none⟩),.int .u64 (i:Int)] w fun e w'=>SelP m i L e/\w'=w:=by
 obtain ⟨h0,hl,hm,A,s,c,h1,hc,hA,hw⟩:=h.view2
 have hn:=nw_bound hl
 have hnL:L<=64*nw L:=by unfold nw;omega
 generalize nw L=n at*
 have HW:=Lib.hid hw;have HA:=Lib.hid hA;have HM:=Lib.hid hm;have HNL:=Lib.hid hnL
 clear hw hA hm hnL h
 go_enter Tryz.func95,Tryz.ntmps95
 go_wp2
 clear h1
 go_loopw [5,15] (fun a t wr=>∃q y:Nat,q<=n/\t= .int .i64 (q:Int)/\a= .int .u64 (y:Int)/\y+cntN m (64*q)=i/\wr=w) (fun _ t _=>n-(intOf t).toNat)
 case atStart=>exact ⟨0,i,by omega,rfl,rfl,rfl,rfl⟩
 case round=>
  obtain ⟨q,y,hq,rfl,rfl,hy,rfl⟩:=hrel
  have hyb:y<=50000:=by omega
  have HY:=Lib.hid hy;clear hy
  by_cases hlt:q<n
  ·obtain rfl:=HA.out (by omega)
   have hx:=HW.out q hlt
   have p0:=pc_le (pk m q)
   by_cases hc2:y<pc (pk m q)
   ·have d:decide (y<pc (pk m q))=true:=by simp;omega
    go_wp2_with (first|(go_at_call 125;refine (ones_c _ _).mono ?_;rintro e w' ⟨rfl,rfl⟩)|(go_at_call 126;refine (select64_c _ y _ hc2).mono ?_;rintro e w' ⟨⟨t,rfl,ht⟩,rfl⟩;have ht64:=ht.lt;have HT:=Lib.hid ht;clear ht))
    go_ret
    have hb:=HT.out.1
    rw [getLsbD_pk]at hb
    simp only [Bool.and_eq_true,decide_eq_true_eq]at hb
    have hcn:cntN m (64*q+t)=i:=by
     have:=HY.out
     rw [<- cntB_pk m q t (by omega),HT.out.2];omega
    refine ⟨⟨64*q+t,by go_num,.inl ⟨?_,hb.2,hcn⟩⟩,rfl⟩
    rcases Nat.lt_or_ge (64*q+t) L with h|h
    ·exact h
    ·rw [HM.out _ h]at hb;cases hb.2
   ·have d:decide (y<pc (pk m q))=false:=by simp;omega
    have k1:(y:Int)-(pc (pk m q):Int)=((y-pc (pk m q):Nat):Int):=by omega
    generalize hy':y-pc (pk m q)=y' at*
    have HY':=Lib.hid hy';clear hy'
    have hle:pc (pk m q)<=y:=by omega
    go_wp2_with (go_at_call 125;refine (ones_c _ _).mono ?_;rintro e w' ⟨rfl,rfl⟩)
    go_roundw
    case rel=>
     refine ⟨q+1,y',by omega,by go_num,by first|rfl|go_num,?_,by first|rfl|trivial⟩
     rw [cnt_word]
     have:=HY.out;have:=HY'.out;omega
    case measure=>simp [intOf];omega
  ·have hqn:q=n:=by omega
   subst hqn
   go_wp2
   go_ret
   refine ⟨⟨L,rfl,.inr ⟨?_,rfl⟩⟩,rfl⟩
   have h1:=HY.out
   rw [cntN_past HM.out HNL.out]at h1
   omega
theorem pop_first(x:BitVec 64)(h:x≠0)(j:Nat):(x&&&(x-1)).getLsbD j=(x.getLsbD j&& !decide (j=ctz x)):=by
 have h0:=toNat_ne h
 have hc:ctz x=Lib.ctzFrom 64 x.toNat:=by unfold ctz Lib.ctz;rw [if_neg (by omega)]
 obtain ⟨k,hk,hlt⟩:=Lib.ctzFrom_spec 64 x.toNat h0 x.isLt
 rw [<- hc]at hk hlt
 have hsub:(x-1).toNat=x.toNat-1:=by
  rw [BitVec.toNat_sub]
  have:=x.isLt
  simp;omega
 rw [BitVec.getLsbD_and]
 obtain ⟨_,hs1,hs2⟩:=ctz_spec h
 rcases Nat.lt_trichotomy j (ctz x) with hj|hj|hj
 ·rw [hs2 j hj];simp
 ·subst hj
  have:(x-1).getLsbD (ctz x)=false:=by
   show (x-1).toNat.testBit _=false
   rw [hsub,Nat.testBit_eq_decide_div_mod_eq,hk]
   have hp:0<2^ctz x:=Nat.pow_pos (by decide)
   have e:(2^ctz x*(2*k+1)-1)/2^ctz x=2*k:=by
    have e1:2^ctz x*(2*k+1)-1=2^ctz x*(2*k)+(2^ctz x-1):=by rw [Nat.mul_add];omega
    rw [e1,Nat.mul_add_div hp,Nat.div_eq_of_lt (by omega),Nat.add_zero]
   rw [e];simp
  rw [this];simp
 ·have:(x-1).getLsbD j=x.getLsbD j:=by
   show (x-1).toNat.testBit _=x.toNat.testBit _
   rw [hsub,Nat.testBit_eq_decide_div_mod_eq,Nat.testBit_eq_decide_div_mod_eq]
   have hp:0<2^(ctz x+1):=Nat.pow_pos (by decide)
   have hp0:0<2^ctz x:=Nat.pow_pos (by decide)
   have ea:x.toNat/2^(ctz x+1)=k:=by
    rw [hk,Nat.pow_succ,<- Nat.div_div_eq_div_mul,Nat.mul_div_cancel_left _ hp0];omega
   have eb:(x.toNat-1)/2^(ctz x+1)=k:=by
    rw [hk,Nat.pow_succ,<- Nat.div_div_eq_div_mul]
    have e1:2^ctz x*(2*k+1)-1=2^ctz x*(2*k)+(2^ctz x-1):=by rw [Nat.mul_add];omega
    rw [e1,Nat.mul_add_div hp0,Nat.div_eq_of_lt (show 2^ctz x-1<2^ctz x by omega),Nat.add_zero]
    exact Nat.mul_div_cancel_left k (by decide)
   obtain ⟨d,rfl⟩:∃d,j=ctz x+1+d:=⟨j-(ctz x+1),by omega⟩
   rw [Nat.pow_add,<- Nat.div_div_eq_div_mul,<- Nat.div_div_eq_div_mul,ea,eb]
  rw [this]
  have d:decide (j=ctz x)=false:=by simp;omega
  rw [d];simp
def frm(m:Nat->Bool)(t i:Nat):Bool:=m i&&decide (t<=i)
theorem frm_first{m:Nat->Bool}{t q:Nat}(ht:64*q<=t)(h:pk (frm m t) q≠0):
  ctz (pk (frm m t) q)<64/\t<=64*q+ctz (pk (frm m t) q)/\m (64*q+ctz (pk (frm m t) q))=true/\(∀j,t<=j->j<64*q+ctz (pk (frm m t) q)->m j=false)/\
   pk (frm m t) q&&&(pk (frm m t) q-1)=pk (frm m (64*q+ctz (pk (frm m t) q)+1)) q:=by
 obtain ⟨a,b,c⟩:=(nxt_word (m:=frm m t) (p:=q)).1 h
 have hb:m (64*q+ctz (pk (frm m t) q))=true/\t<=64*q+ctz (pk (frm m t) q):=by simpa [frm] using b
 refine ⟨a,hb.2,hb.1,fun j h1 h2=>?_,pk_ext fun j hj=>?_⟩
 ·have:=c j (by omega) h2
  have d:decide (t<=j)=true:=by simpa using h1
  simpa [frm,d] using this
 ·rw [pop_first _ h,getLsbD_pk]
  generalize hz:ctz (pk (frm m t) q)=z at*
  have d1:decide (j<64)=true:=by simpa using hj
  unfold frm
  rw [d1]
  rcases Nat.lt_trichotomy j z with h1|h1|h1
  ·have h2:=c (64*q+j) (by omega) (by omega)
   unfold frm at h2
   have d2:decide (64*q+z+1<=64*q+j)=false:=by simp;omega
   rw [h2,d2];simp
  ·have d2:decide (64*q+z+1<=64*q+j)=false:=by simp;omega
   have d3:decide (j=z)=true:=by simpa using h1
   rw [d2,d3];simp
  ·have d2:decide (64*q+z+1<=64*q+j)=true:=by simp;omega
   have d3:decide (j=z)=false:=by simp;omega
   have d4:decide (t<=64*q+j)=true:=by simp;omega
   rw [d2,d3,d4];simp
theorem frm_none{m:Nat->Bool}{t q:Nat}(h:pk (frm m t) q=0):∀j,64*q<=j->t<=j->j<64*(q+1)->m j=false:=fun j h1 h2 h3=>by
 have:=(nxt_word (m:=frm m t) (p:=q)).2 h j h1 h3
 have d:decide (t<=j)=true:=by simpa using h2
 simpa [frm,d] using this
theorem frm_all(m:Nat->Bool)(q:Nat):pk (frm m (64*q)) q=pk m q:=pk_same fun j _=>by simp [frm]
theorem numsN_gap(m:Nat->Bool)(a d:Nat)(h:∀j,a<=j->j<a+d->m j=false):numsN m (a+d)=numsN m a:=by
 induction d with
 |zero=>rfl
 |succ d ih=>
  show numsN m (a+d)++(if m (a+d) then [a+d] else [])=_
  rw [ih (fun j h1 h2=>h j h1 (by omega)),h (a+d) (by omega) (by omega)];simp
theorem numsN_step{m:Nat->Bool}{t r:Nat}(htr:t<=r)(h:∀j,t<=j->j<r->m j=false)(hr:m r=true):numsN m (r+1)=numsN m t++ [r]:=by
 show numsN m r++(if m r then [r] else [])=_
 obtain ⟨d,rfl⟩:=Nat.exists_eq_add_of_le htr
 rw [numsN_gap m t d h,hr];rfl
theorem Tab64.keep{w w':World}{T:Nat->Prop}(h:Tab64 w)(k:Fr T w w')(hT:¬T 0):Tab64 w':=fun j hj=>(k.cell (a:=⟨0,j,none⟩) (block_lt_of_cell (h j hj)) hT).trans (h j hj)
theorem pop_lt(x:BitVec 64)(h:x≠0):wn (x&&&(x-1))<wn x:=by
 have h0:=toNat_ne h
 have hsub:(x-1).toNat=x.toNat-1:=by
  rw [BitVec.toNat_sub]
  have:=x.isLt
  simp;omega
 unfold wn
 have:(x&&&(x-1)).toNat<=(x-1).toNat:=by rw [BitVec.toNat_and];exact Nat.and_le_right
 omega
def numV(n:Nat):Value:= .int .u64 (n:Int)
theorem numsN_le(m:Nat->Bool)(t:Nat):(numsN m t).length<=t:=by rw [numsN_length];exact cntN_le m t
theorem appendTo_c(b L:Nat)(v:Value)(m:Nat->Bool)(w:World)(hT:Tab64 w)(h:BA w b v L m):
  Calls Tryz.prog 32 #[.pointer (some ⟨b,0,none⟩),.slice none 0 0] w (NewLst w 28 1 (cntN m L) ((numsN m L).map numV)):=by
 obtain ⟨h0,hl,hm,A,s,c,h1,hc,hA,hw⟩:=h.view2
 have hn:=nw_bound hl
 have hnL:L<=64*nw L:=by unfold nw;omega
 generalize nw L=n at*
 obtain ⟨i0,hi0,hz0,hz1,hz2⟩:=info_parts info28
 have HW:=Lib.hid hw;have HA:=Lib.hid hA;have HM:=Lib.hid hm;have HNL:=Lib.hid hnL;have HT:=Lib.hid hT
 clear hw hA hm hnL h hT
 go_enter Tryz.func32,Tryz.ntmps32
 go_wp2
 clear h1
 go_loopw [1,12] (fun a z wr=>∃q:Nat,q<=n/\z= .int .i64 (q:Int)/\Lst wr 28 1 a (cntN m (64*q)) ((numsN m (64*q)).map numV)/\Fr (fun _=>False) w wr/\∀r,a.ownBlock=some r->w.heap.size<=r) (fun _ z _=>n-(intOf z).toNat)
 case atStart=>exact ⟨0,by omega,rfl,Lst.nil _ _ _,Fr.refl _ _,by simp [Value.ownBlock]⟩
 case round=>
  obtain ⟨q,hq,rfl,hrow,hfr,hown⟩:=hrel
  by_cases hlt:q<n
  ·obtain rfl:=HA.out (by omega)
   have hx:wr.cell? ⟨s,q,none⟩=some (WV (pk m q)):=(hfr.cell (a:=⟨s,q,none⟩) (block_lt_of_cell (HW.out q hlt)) (fun h=>h)).trans (HW.out q hlt)
   have HR:=Lib.hid hrow;have HF:=Lib.hid hfr;have HO:=Lib.hid hown
   clear hrow hfr hown
   go_wp2
   clear hx
   go_loopw [1,6] (fun a x wz=>∃t:Nat,64*q<=t/\t<=64*(q+1)/\x=WV (pk (frm m t) q)/\Lst wz 28 1 a (cntN m t) ((numsN m t).map numV)/\Fr (fun _=>False) w wz/\∀r,a.ownBlock=some r->w.heap.size<=r) (fun _ x _=>(intOf x).toNat)
   case atStart=>exact ⟨64*q,by omega,by omega,by rw [frm_all],HR.out,HF.out,HO.out⟩
   case round=>
    obtain ⟨t,ht1,ht2,rfl,hrow,hfr,hown⟩:=hrel
    have HR:=Lib.hid hrow;have HF:=Lib.hid hfr;have HO:=Lib.hid hown
    clear hrow hfr hown
    obtain ⟨x,hxx⟩:∃x,x=pk (frm m t) q:=⟨_,rfl⟩
    rw [<- hxx]
    by_cases hz:x=0
    ·subst hz
     have hzz:=frm_none (m:=m) (t:=t) (q:=q) hxx.symm
     have hz0:wn (0:BitVec 64)=0:=rfl
     have HZ:=Lib.hid hzz;clear hzz hxx
     go_wp2
     go_roundw
     case rel=>
      have e1:cntN m (64*(q+1))=cntN m t:=by
       obtain ⟨d,hd⟩:=Nat.exists_eq_add_of_le ht2
       rw [hd]
       have:=numsN_gap m t d (fun j h1 h2=>HZ.out j (by omega) h1 (by omega))
       rw [<- numsN_length,this,numsN_length]
      have e2:numsN m (64*(q+1))=numsN m t:=by
       obtain ⟨d,hd⟩:=Nat.exists_eq_add_of_le ht2
       rw [hd]
       exact numsN_gap m t d (fun j h1 h2=>HZ.out j (by omega) h1 (by omega))
      exact ⟨q+1,by omega,by go_num,by rw [e1,e2];exact HR.out,HF.out,HO.out⟩
     case measure=>simp [intOf];omega
    ·have hne:¬wn x=0:=by rw [wn_eq_zero];exact hz
     obtain ⟨f1,f2,f3,f4,f5⟩:=frm_first (m:=m) ht1 (by rw [<- hxx];exact hz)
     rw [<- hxx]at f1 f2 f3 f4 f5
     have hT':Tab64 wr:=HT.out.keep HF.out (fun h=>h)
     have g1:IntKind.u64.wrap (wn x-1)=wn (x-1):=wn_pred x
     have g2:bits .and .u64 (wn x) (wn (x-1))=wn (x&&&(x-1)):=wn_and _ _
     have hmeas:wn (x&&&(x-1))<wn x:=pop_lt x hz
     have F3:=Lib.hid f3;have F4:=Lib.hid f4;have F5:=Lib.hid f5;have HME:=Lib.hid hmeas
     have hcl:=cntN_le m t
     clear f3 f4 f5 hxx hz hmeas
     go_wp2_with (first|(go_at_call 40;refine (ctz_c x _ hT').mono ?_;rintro e w' ⟨rfl,rfl⟩)|(at_builtin;refine wpList_app 30 28 i0 _ 1 8 Tryz.underlying30 hi0 hz0 hz1 hz2 rfl (by omega) (by omega) (.tmp 19) (.tmp 26) rfl rfl _ _ _ _ (HR.out.alloc _) _ _ _ (src_one _ (.int .u64 ((q:Int)*64+(ctz x:Int))) 28) (by simp [Value.oneCell']) (by omega) rfl rfl ?_;intro v1 w1 hv1 hf1 hat1))
     go_roundw
     case rel=>
      have e0:Value.int .u64 ((q:Int)*64+(ctz x:Int))=numV (64*q+ctz x):=by unfold numV;congr 1;omega
      have e1:numsN m (64*q+ctz x+1)=numsN m t++ [64*q+ctz x]:=numsN_step f2 F4.out F3.out
      have e2:cntN m (64*q+ctz x+1)=cntN m t+1:=by rw [<- numsN_length,e1,List.length_append,numsN_length];rfl
      refine ⟨64*q+ctz x+1,by omega,by omega,?_,?_,?_,?_⟩
      ·rw [<- F5.out]
       show Value.int .u64 (bits .and .u64 (wn x) (wn (x-1)))=_
       rw [wn_and]
      ·rw [e1,e2,List.map_append,List.map_cons,List.map_nil,<- e0];exact hv1
      ·exact (HF.out.alloc _).trans' hf1 (fun r hr=> .inr (HO.out r hr))
      ·exact own_new hat1 (by have:=HF.out.size;simp;omega) HO.out
     case measure=>
      show (bits .and .u64 (wn x) (wn (x-1))).toNat<(wn x).toNat
      rw [wn_and]
      have:=HME.out;have:=wn_nonneg (x&&&(x-1));omega
  ·have hqn:q=n:=by omega
   subst hqn
   have e1:numsN m (64*q)=numsN m L:=by
    obtain ⟨d,hd⟩:=Nat.exists_eq_add_of_le HNL.out
    rw [hd]
    exact numsN_gap m L d (fun j h1 _=>HM.out j h1)
   rw [<- numsN_length,e1]at hrow
   rw [<- numsN_length]
   have HR:=Lib.hid hrow;have HF:=Lib.hid hfr;have HO:=Lib.hid hown
   clear hrow hfr hown e1
   go_wp2
   go_ret
   have hR:=HR.out
   rw [numsN_length]at hR
   exact ⟨_,rfl,hR,HF.out,HO.out⟩
end Go.Proofs.YtobdfhlmipcjbaaGreatDoor
