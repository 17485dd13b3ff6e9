/- InPlaceSymmetricDifference. Conditions: the two sets are one or share no block. How many numbers between two: OnesBetween. No condition beyond the set's own. -/
import Derived.Test.YtobdfhlmipcjbaaGreatDoorG05
import Derived.Test.YtobdfhlmipcjbaaGreatDoorG06
set_option linter.unusedVariables false
set_option linter.unusedSimpArgs false
set_option maxHeartbeats 8000000
set_option maxRecDepth 100000
namespace Go.Proofs.YtobdfhlmipcjbaaGreatDoor
open Go.RowKit
theorem ipSym_x1(b b2 L L2:Nat)(v v2:Value)(m m2:Nat->Bool)(w:World)(hL2:0<L2)(hL:L2<=L)(h:BA w b v L m)(k2:BA w b2 v2 L2 m2)(hs:(b2=b/\m2=m)\/Sep b v b2 v2):
  Calls Tryz.prog 57 #[.pointer (some ⟨b,0,none⟩),.pointer (some ⟨b2,0,none⟩)] w (MutA w b v L (fun i=>m i^^m2 i) (.tuple #[])):=by
 obtain ⟨s,c,g,rfl,r,hg,hm⟩:=h.rs (by omega)
 obtain ⟨s2,c2,g2,rfl,r2,hg2,hm2⟩:=k2.rs hL2
 have hsame:s2=s->b2=b/\m2=m:=by
  intro e;subst e
  rcases hs with hs|hs
  ·exact hs
  ·exact absurd (.inr rfl) (hs s2 (.inr rfl))
 have hbs:s≠b2:=by
  rcases hs with ⟨rfl,_⟩|hs
  ·exact r.ne
  ·intro e;subst e;exact hs s (.inr rfl) (.inl rfl)
 have hg2s:s2=s->∀j,j<nw L2->g2 j=g j:=fun e j hj=>by
  obtain ⟨rfl,rfl⟩:=hsame e
  rw [hg2 j hj,hg j (by unfold nw at *;omega)]
 clear h k2 hs
 have a0:=r.h0
 have a1:=r.h1
 have b0:=r2.h0
 have b1:=r2.h1
 have hl:=r.hl
 have hl2:=r2.hl
 obtain ⟨n,hn⟩:∃n,n=nw L:=⟨_,rfl⟩
 obtain ⟨n2,hn2⟩:∃n,n=nw L2:=⟨_,rfl⟩
 have hnn:n2<=n:=by subst hn hn2;unfold nw;omega
 have hnb:n<=1000:=by subst hn;unfold nw;omega
 have hn1:1<=n2:=by subst hn2;unfold nw;omega
 have hw1:∀w:World,w.cell? ⟨b,0,none⟩=some (.int .u64 (L:Int))->Calls Tryz.prog 101 #[.pointer (some ⟨b,0,none⟩)] w fun e w'=>e= .returned (.int .i64 (n:Int))/\w'=w:=fun w h=>by rw [hn];exact wordCount_c b L w (by omega) h
 have hw2:∀w:World,w.cell? ⟨b2,0,none⟩=some (.int .u64 (L2:Int))->Calls Tryz.prog 101 #[.pointer (some ⟨b2,0,none⟩)] w fun e w'=>e= .returned (.int .i64 (n2:Int))/\w'=w:=fun w h=>by rw [hn2];exact wordCount_c b2 L2 w (by omega) h
 have HW1:=Lib.hid hw1;have HW2:=Lib.hid hw2
 have A0:=Lib.hid a0;have B0:=Lib.hid b0
 have z0:=r.at (i:=n2-1) (by omega)
 have z2:=r2.at (i:=n2-1) (by omega)
 rw [<- hn]at a1
 rw [<- hn2]at b1
 have HN:=Lib.hid hn;have HN2:=Lib.hid hn2
 have R:=Lib.hid r;have R2:=Lib.hid r2;have HG:=Lib.hid hg;have HG2:=Lib.hid hg2;have HM:=Lib.hid hm;have HM2:=Lib.hid hm2;have HS:=Lib.hid hsame;have HGS:=Lib.hid hg2s
 clear hw1 hw2 r r2 hg hg2 hm hm2 hsame hg2s hn hn2
 have d1:decide (n<n2)=false:=by simp;omega
 have d2:decide ((0:Int)<(L2:Int))=true:=by simp;omega
 have d3:decide ((L:Int)<=(L2:Int)-1)=false:=by simp;omega
 have d4:decide ((0:Int)<(n2:Int))=true:=by simp;omega
 have i1:(0:Int)<=(n2:Int)-1/\(n2:Int)-1<n/\(n2:Int)-1<n2:=by omega
 have i2:((n2:Int)-1).toNat=n2-1:=by omega
 have p1:(1:Int)<=(L2:Int):=by omega
 go_enter Tryz.func57,Tryz.ntmps57
 go_wp2_with (go_at_call 103;refine (panicIfNull_c _ _).mono ?_;rintro e w' ⟨rfl,rfl⟩)
 refine (HW2.out _ B0.out).mono ?_
 rintro e w' ⟨rfl,rfl⟩
 go_wp2_with (fail)
 refine (HW1.out _ A0.out).mono ?_
 rintro e w' ⟨rfl,rfl⟩
 go_wp2
 go_quiet (fail)
 go_wp2
 go_quiet (fail)
 go_wp2
 go_loopw [7] (fun i wr=>∃k:Nat,k<=n2/\i= .int .i64 (k:Int)/\RS wr b s L c (fun j=>if j<k then g j^^^g2 j else g j)/\∃nd,Fr (· =s) (w'.drewN nd) wr) (fun i _=>n2-(intOf i).toNat)
 case atStart=>exact ⟨0,by omega,rfl,(R.out.drewN _).congr (fun j _=>by simp),_,Fr.refl _ _⟩
 case round=>
  obtain ⟨k,hk,rfl,hr,nd,hfr⟩:=hrel
  have HF:=Lib.hid hfr
  have HR:=Lib.hid hr
  have x0:=hr.h0
  have x1:=hr.h1
  rw [<- HN.out]at x1
  have y0:=(hfr.cell (a:=⟨b2,0,none⟩) (hp_lt R2.out.hb) (fun e=>hbs e.symm)).trans B0.out
  have y1:=(hfr.cell (a:=⟨b2,1,none⟩) (hp_lt R2.out.hb) (fun e=>hbs e.symm)).trans b1
  by_cases hlt:k<n2
  ·have c0:=hr.at (i:=k) (by rw [<- HN.out];omega)
   have f0:=hr.fr k
   rw [if_neg (Nat.lt_irrefl k)]at c0
   have c1:=other_at (k:=k) (rowIs_drewN R2.out.hs nd) (by have:=R2.out.hn;rw [<- HN2.out]at this;omega) hfr (fun e=>by rw [c0,HGS.out e k (by rw [<- HN2.out];exact hlt)])
   clear hr hfr
   go_wp2
   refine wp_region_quiet_tail 9 (by kernel_rfl) (by kernel_rfl) ?_
   simp only [List.take_succ_cons,List.take_zero,List.drop_succ_cons,List.drop_zero]
   repeat (go_big_quiet_step (fail))
   refine wpQuiet_nil ?_
   intro _ ⟨nq,hw'⟩
   subst hw'
   go_wp2
   go_roundw
   case rel=>
    refine ⟨k+1,by omega,by go_num,?_,nd,(HF.out.drewN nq).setCell (.inl rfl) _⟩
    rw [wn_xor]
    refine ((HR.out.drewN nq).set k _).congr (fun j _=>?_)
    by_cases e:j=k
    ·subst e;rw [if_pos rfl,if_pos (Nat.lt_succ_self j)]
    ·rw [if_neg e]
     by_cases e2:j<k
     ·rw [if_pos e2,if_pos (show j<k+1 by omega)]
     ·rw [if_neg e2,if_neg (show ¬j<k+1 by omega)]
   case measure=>simp [intOf];omega
  ·have hkn:k=n2:=by omega
   subst hkn
   have d5:decide (k<k)=false:=by simp
   clear hr hfr
   go_wp2
   go_end0
   refine ⟨rfl,_,HR.out.ba (fun j hj=>?_) (fun i hi=>?_),⟨(((Fr.refl _ _).drewN nd).trans (HF.out.mono (fun r hr=> .inr (by subst hr;rfl)))),.inl rfl⟩⟩
   ·rw [HG.out j hj]
    by_cases e:j<k
    ·rw [if_pos e,HG2.out j (by rw [<- HN2.out];exact e),pk_xor]
    ·rw [if_neg e,<- pk_xor,pk_out HM2.out (by rw [<- HN2.out];omega)]
     simp
   ·rw [HM.out i hi,HM2.out i (by omega)];rfl
theorem ipSym_x2e(b b2 L L2:Nat)(v v2:Value)(m m2:Nat->Bool)(w:World)(hL0:0<L)(hL:L<L2)(hcs:nw L=nw L2)(h:BA w b v L m)(k2:BA w b2 v2 L2 m2)(hs:Sep b v b2 v2):
  Calls Tryz.prog 57 #[.pointer (some ⟨b,0,none⟩),.pointer (some ⟨b2,0,none⟩)] w (MutA w b v L2 (fun i=>m i^^m2 i) (.tuple #[])):=by
 have hl2:=k2.2.lim
 have a0:=hp_cell h.2.blk 0 (v:= .int .u64 L) rfl
 have b0:=hp_cell k2.2.blk 0 (v:= .int .u64 L2) rfl
 have hm:=h.1
 obtain ⟨n,hn⟩:∃n,n=nw L:=⟨_,rfl⟩
 obtain ⟨n2,hn2⟩:∃n,n=nw L2:=⟨_,rfl⟩
 have hnn:n<=n2:=by subst hn hn2;unfold nw;omega
 have hnb:n2<=1000:=by subst hn2;unfold nw;omega
 have hn1:1<=n:=by subst hn;unfold nw;omega
 have hw1:∀w:World,w.cell? ⟨b,0,none⟩=some (.int .u64 (L:Int))->Calls Tryz.prog 101 #[.pointer (some ⟨b,0,none⟩)] w fun e w'=>e= .returned (.int .i64 (n:Int))/\w'=w:=fun w h=>by rw [hn];exact wordCount_c b L w (by omega) h
 have hw2:∀w:World,w.cell? ⟨b2,0,none⟩=some (.int .u64 (L2:Int))->Calls Tryz.prog 101 #[.pointer (some ⟨b2,0,none⟩)] w fun e w'=>e= .returned (.int .i64 (n2:Int))/\w'=w:=fun w h=>by rw [hn2];exact wordCount_c b2 L2 w (by omega) h
 rw [<- hn,<- hn2]at hcs
 have HW1:=Lib.hid hw1;have HW2:=Lib.hid hw2
 have HH:=Lib.hid h;have HK:=Lib.hid k2;have HSP:=Lib.hid hs;have HM:=Lib.hid hm
 have HN:=Lib.hid hn;have HN2:=Lib.hid hn2
 have A0:=Lib.hid a0;have B00:=Lib.hid b0
 clear hw1 hw2 h k2 hs hm hn hn2
 obtain rfl:n=n2:=hcs
 have hL20:0<L2:=by omega
 have d2:decide ((0:Int)<(L2:Int))=true:=by simp;omega
 have d3:decide ((L:Int)<=(L2:Int)-1)=true:=by simp;omega
 have p1:(1:Int)<=(L2:Int):=by omega
 have d4:decide ((0:Int)<(n:Int))=true:=by simp;omega
 have i1:(0:Int)<=(n:Int)-1/\(n:Int)-1<n:=by omega
 have i2:((n:Int)-1).toNat=n-1:=by omega
 go_enter Tryz.func57,Tryz.ntmps57
 go_wp2_with (go_at_call 103;refine (panicIfNull_c _ _).mono ?_;rintro e w' ⟨rfl,rfl⟩)
 refine (HW2.out _ B00.out).mono ?_
 rintro e w' ⟨rfl,rfl⟩
 go_wp2_with (fail)
 refine (HW1.out _ A0.out).mono ?_
 rintro e w' ⟨rfl,rfl⟩
 go_wp2
 go_quiet (fail)
 go_wp2_with (go_at_call 100;refine (extA_e b L2 L v m _ hL hl2 (HH.out.drewN _)).mono ?_;rintro e w1 ⟨rfl,v1,hba,hch0⟩;refine Hid.out ?_)
 refine Lib.hid ?_
 clear a0 b0
 have hch:Ch w' w1 b v v1:=(⟨(Fr.refl _ _).drewN _,.inl rfl⟩:Ch w' (w'.drewN nq) b v v).trans hch0
 clear hch0
 have hsp1:=HSP.out.step hch HK.out
 have k1:=HK.out.keep hch.fr (fun r hr hr2=>HSP.out r hr2 hr)
 obtain ⟨s,c,g,rfl,r,hg,hm1⟩:=hba.rs (by omega)
 obtain ⟨s2,c2,g2,rfl,r2,hg2,hm2⟩:=k1.rs (by omega)
 have hss:¬s2=s:=fun e=>hsp1 s (.inr rfl) (.inr (by rw [e];rfl))
 have hbs:s≠b2:=fun e=>hsp1 s (.inr rfl) (.inl e)
 have HC:=Lib.hid hch
 have a0:=r.h0
 have a1:=r.h1
 have b0:=r2.h0
 have b1:=r2.h1
 have hl:=r.hl
 have z0:=r.at (i:=n-1) (by rw [<- HN2.out];omega)
 have z2:=r2.at (i:=n-1) (by rw [<- HN2.out];omega)
 rw [<- HN2.out]at a1 b1
 have R:=Lib.hid r;have R2:=Lib.hid r2;have HG:=Lib.hid hg;have HG2:=Lib.hid hg2;have HM2:=Lib.hid hm2
 have B0:=Lib.hid b0;have B1:=Lib.hid b1
 clear r r2 hg hg2 hm2 hm1 hch hsp1 k1 hba HSP HK HH
 go_wp2
 go_quiet (fail)
 go_wp2
 go_loopw [7] (fun i wr=>∃k:Nat,k<=n/\i= .int .i64 (k:Int)/\RS wr b s L2 c (fun j=>if j<k then g j^^^g2 j else g j)/\∃nd,Fr (· =s) (w1.drewN nd) wr) (fun i _=>n-(intOf i).toNat)
 case atStart=>exact ⟨0,by omega,rfl,(R.out.drewN _).congr (fun j _=>by simp),_,Fr.refl _ _⟩
 case round=>
  obtain ⟨k,hk,rfl,hr,nd,hfr⟩:=hrel
  have HF:=Lib.hid hfr
  have HR:=Lib.hid hr
  have x0:=hr.h0
  have x1:=hr.h1
  rw [<- HN2.out]at x1
  have y0:=(hfr.cell (a:=⟨b2,0,none⟩) (hp_lt R2.out.hb) (fun e=>hbs e.symm)).trans B0.out
  have y1:=(hfr.cell (a:=⟨b2,1,none⟩) (hp_lt R2.out.hb) (fun e=>hbs e.symm)).trans B1.out
  by_cases hlt:k<n
  ·have c0:=hr.at (i:=k) (by rw [<- HN2.out];omega)
   have f0:=hr.fr k
   rw [if_neg (Nat.lt_irrefl k)]at c0
   have c1:=(hfr.cell (a:=⟨s2,k,none⟩) R2.out.hs.lt hss).trans (R2.out.at (i:=k) (by rw [<- HN2.out];omega))
   clear hr hfr
   go_wp2
   refine wp_region_quiet_tail 9 (by kernel_rfl) (by kernel_rfl) ?_
   simp only [List.take_succ_cons,List.take_zero,List.drop_succ_cons,List.drop_zero]
   repeat (go_big_quiet_step (fail))
   refine wpQuiet_nil ?_
   intro _ ⟨nq,hw'⟩
   subst hw'
   go_wp2
   go_roundw
   case rel=>
    refine ⟨k+1,by omega,by go_num,?_,nd,(HF.out.drewN nq).setCell (.inl rfl) _⟩
    rw [wn_xor]
    refine ((HR.out.drewN nq).set k _).congr (fun j _=>?_)
    by_cases e:j=k
    ·subst e;rw [if_pos rfl,if_pos (Nat.lt_succ_self j)]
    ·rw [if_neg e]
     by_cases e2:j<k
     ·rw [if_pos e2,if_pos (show j<k+1 by omega)]
     ·rw [if_neg e2,if_neg (show ¬j<k+1 by omega)]
   case measure=>simp [intOf];omega
  ·have hkn:k=n:=by omega
   subst hkn
   have d5:decide (k<k)=false:=by simp
   clear hr hfr
   go_wp2
   go_end0
   refine ⟨rfl,_,HR.out.ba (fun j hj=>?_) (fun i hi=>?_),HC.out.trans ⟨(((Fr.refl _ _).drewN nd).trans (HF.out.mono (fun r hr=> .inr (by subst hr;rfl)))),.inl rfl⟩⟩
   ·rw [if_pos (by rw [HN2.out];exact hj),HG.out j hj,HG2.out j hj,pk_xor]
   ·rw [HM.out i (by omega),HM2.out i hi];rfl
theorem ipSym_x2m(b b2 L L2:Nat)(v v2:Value)(m m2:Nat->Bool)(w:World)(hL0:0<L)(hL:L<L2)(hcs:nw L<nw L2)(h:BA w b v L m)(k2:BA w b2 v2 L2 m2)(hs:Sep b v b2 v2):
  Calls Tryz.prog 57 #[.pointer (some ⟨b,0,none⟩),.pointer (some ⟨b2,0,none⟩)] w (MutA w b v L2 (fun i=>m i^^m2 i) (.tuple #[])):=by
 have hl2:=k2.2.lim
 have a0:=hp_cell h.2.blk 0 (v:= .int .u64 L) rfl
 have b0:=hp_cell k2.2.blk 0 (v:= .int .u64 L2) rfl
 have hm:=h.1
 obtain ⟨n,hn⟩:∃n,n=nw L:=⟨_,rfl⟩
 obtain ⟨n2,hn2⟩:∃n,n=nw L2:=⟨_,rfl⟩
 have hnn:n<=n2:=by subst hn hn2;unfold nw;omega
 have hnb:n2<=1000:=by subst hn2;unfold nw;omega
 have hn1:1<=n:=by subst hn;unfold nw;omega
 have hw1:∀w:World,w.cell? ⟨b,0,none⟩=some (.int .u64 (L:Int))->Calls Tryz.prog 101 #[.pointer (some ⟨b,0,none⟩)] w fun e w'=>e= .returned (.int .i64 (n:Int))/\w'=w:=fun w h=>by rw [hn];exact wordCount_c b L w (by omega) h
 have hw2:∀w:World,w.cell? ⟨b2,0,none⟩=some (.int .u64 (L2:Int))->Calls Tryz.prog 101 #[.pointer (some ⟨b2,0,none⟩)] w fun e w'=>e= .returned (.int .i64 (n2:Int))/\w'=w:=fun w h=>by rw [hn2];exact wordCount_c b2 L2 w (by omega) h
 rw [<- hn,<- hn2]at hcs
 have HW1:=Lib.hid hw1;have HW2:=Lib.hid hw2
 have HH:=Lib.hid h;have HK:=Lib.hid k2;have HSP:=Lib.hid hs;have HM:=Lib.hid hm
 have HN:=Lib.hid hn;have HN2:=Lib.hid hn2
 have A0:=Lib.hid a0;have B00:=Lib.hid b0
 clear hw1 hw2 h k2 hs hm hn hn2
 have d1:decide (n<n2)=true:=by simpa using hcs
 have hL20:0<L2:=by omega
 have d2:decide ((0:Int)<(L2:Int))=true:=by simp;omega
 have d3:decide ((L:Int)<=(L2:Int)-1)=true:=by simp;omega
 have p1:(1:Int)<=(L2:Int):=by omega
 have d4:decide ((0:Int)<(n:Int))=true:=by simp;omega
 have i1:(0:Int)<=(n:Int)-1/\(n:Int)-1<n/\(n:Int)-1<n2:=by omega
 have i2:((n:Int)-1).toNat=n-1:=by omega
 go_enter Tryz.func57,Tryz.ntmps57
 go_wp2_with (go_at_call 103;refine (panicIfNull_c _ _).mono ?_;rintro e w' ⟨rfl,rfl⟩)
 refine (HW2.out _ B00.out).mono ?_
 rintro e w' ⟨rfl,rfl⟩
 go_wp2_with (fail)
 refine (HW1.out _ A0.out).mono ?_
 rintro e w' ⟨rfl,rfl⟩
 go_wp2_with (fail)
 refine (HW1.out _ A0.out).mono ?_
 rintro e w' ⟨rfl,rfl⟩
 go_wp2
 go_quiet (fail)
 go_wp2_with (go_at_call 100;refine (extA_e b L2 L v m _ hL hl2 (HH.out.drewN _)).mono ?_;rintro e w1 ⟨rfl,v1,hba,hch0⟩;refine Hid.out ?_)
 refine Lib.hid ?_
 clear a0 b0
 have hch:Ch w' w1 b v v1:=(⟨(Fr.refl _ _).drewN _,.inl rfl⟩:Ch w' (w'.drewN nq) b v v).trans hch0
 clear hch0
 have hsp1:=HSP.out.step hch HK.out
 have k1:=HK.out.keep hch.fr (fun r hr hr2=>HSP.out r hr2 hr)
 obtain ⟨s,c,g,rfl,r,hg,hm1⟩:=hba.rs (by omega)
 obtain ⟨s2,c2,g2,rfl,r2,hg2,hm2⟩:=k1.rs (by omega)
 have hss:¬s2=s:=fun e=>hsp1 s (.inr rfl) (.inr (by rw [e];rfl))
 have hbs:s≠b2:=fun e=>hsp1 s (.inr rfl) (.inl e)
 have HC:=Lib.hid hch
 have a0:=r.h0
 have a1:=r.h1
 have b0:=r2.h0
 have b1:=r2.h1
 have hl:=r.hl
 have z0:=r.at (i:=n-1) (by rw [<- HN2.out];omega)
 have z2:=r2.at (i:=n-1) (by rw [<- HN2.out];omega)
 rw [<- HN2.out]at a1 b1
 have R:=Lib.hid r;have R2:=Lib.hid r2;have HG:=Lib.hid hg;have HG2:=Lib.hid hg2;have HM2:=Lib.hid hm2
 have B0:=Lib.hid b0;have B1:=Lib.hid b1
 clear r r2 hg hg2 hm2 hm1 hch hsp1 k1 hba HSP HK HH
 go_wp2
 go_quiet (fail)
 go_wp2
 go_loopw [7] (fun i wr=>∃K0:Nat,K0<=n/\i= .int .i64 (K0:Int)/\RS wr b s L2 c (fun j=>if j<K0 then g j^^^g2 j else g j)/\∃nd,Fr (· =s) (w1.drewN nd) wr) (fun i _=>n-(intOf i).toNat)
 case atStart=>exact ⟨0,by omega,rfl,(R.out.drewN _).congr (fun j _=>by simp),_,Fr.refl _ _⟩
 case round=>
  obtain ⟨K0,hk,rfl,hr,nd,hfr⟩:=hrel
  have HF:=Lib.hid hfr
  have HR:=Lib.hid hr
  have x0:=hr.h0
  have x1:=hr.h1
  rw [<- HN2.out]at x1
  have y0:=(hfr.cell (a:=⟨b2,0,none⟩) (hp_lt R2.out.hb) (fun e=>hbs e.symm)).trans B0.out
  have y1:=(hfr.cell (a:=⟨b2,1,none⟩) (hp_lt R2.out.hb) (fun e=>hbs e.symm)).trans B1.out
  by_cases hlt:K0<n
  ·have c0:=hr.at (i:=K0) (by rw [<- HN2.out];omega)
   have f0:=hr.fr K0
   rw [if_neg (Nat.lt_irrefl K0)]at c0
   have c1:=(hfr.cell (a:=⟨s2,K0,none⟩) R2.out.hs.lt hss).trans (R2.out.at (i:=K0) (by rw [<- HN2.out];omega))
   clear hr hfr
   go_wp2
   refine wp_region_quiet_tail 9 (by kernel_rfl) (by kernel_rfl) ?_
   simp only [List.take_succ_cons,List.take_zero,List.drop_succ_cons,List.drop_zero]
   repeat (go_big_quiet_step (fail))
   refine wpQuiet_nil ?_
   intro _ ⟨nq,hw'⟩
   subst hw'
   go_wp2
   go_roundw
   case rel=>
    refine ⟨K0+1,by omega,by go_num,?_,nd,(HF.out.drewN nq).setCell (.inl rfl) _⟩
    rw [wn_xor]
    refine ((HR.out.drewN nq).set K0 _).congr (fun j _=>?_)
    by_cases e:j=K0
    ·subst e;rw [if_pos rfl,if_pos (Nat.lt_succ_self j)]
    ·rw [if_neg e]
     by_cases e2:j<K0
     ·rw [if_pos e2,if_pos (show j<K0+1 by omega)]
     ·rw [if_neg e2,if_neg (show ¬j<K0+1 by omega)]
   case measure=>simp [intOf];omega
  ·have hkn:K0=n:=by omega
   subst hkn
   have d5:decide (K0<K0)=false:=by simp
   clear hr hfr
   go_wp2
   go_loopw [8] (fun i wr=>∃k:Nat,K0<=k/\k<=n2/\i= .int .i64 (k:Int)/\RS wr b s L2 c (fun j=>if K0<=j/\j<k then g2 j else (if j<K0 then g j^^^g2 j else g j))/\∃nd,Fr (· =s) (w1.drewN nd) wr) (fun i _=>n2-(intOf i).toNat)
   case atStart=>exact ⟨K0,Nat.le_refl _,by omega,by first|rfl|go_num,HR.out.congr (fun j _=>(if_neg (show ¬(K0<=j/\j<K0) by omega)).symm),_,HF.out⟩
   case round=>
    obtain ⟨k,hlo,hk,rfl,hr,nd2,hfr⟩:=hrel
    have HF:=Lib.hid hfr
    have HR:=Lib.hid hr
    have x0:=hr.h0
    have x1:=hr.h1
    rw [<- HN2.out]at x1
    have y0:=(hfr.cell (a:=⟨b2,0,none⟩) (hp_lt R2.out.hb) (fun e=>hbs e.symm)).trans B0.out
    have y1:=(hfr.cell (a:=⟨b2,1,none⟩) (hp_lt R2.out.hb) (fun e=>hbs e.symm)).trans B1.out
    by_cases hlt:k<n2
    ·have c0:=hr.at (i:=k) (by rw [<- HN2.out];exact hlt)
     have f0:=hr.fr k
     have c1:=(hfr.cell (a:=⟨s2,k,none⟩) R2.out.hs.lt hss).trans (R2.out.at (i:=k) (by rw [<- HN2.out];exact hlt))
     clear hr hfr
     go_wp2
     refine wp_region_quiet_tail 12 (by kernel_rfl) (by kernel_rfl) ?_
     simp only [List.take_succ_cons,List.take_zero,List.drop_succ_cons,List.drop_zero]
     repeat (go_big_quiet_step (fail))
     refine wpQuiet_nil ?_
     intro _ ⟨nq,hw'⟩
     subst hw'
     go_wp2
     go_roundw
     case rel=>
      refine ⟨k+1,by omega,by omega,by go_num,?_,nd2,(HF.out.drewN nq).setCell (.inl rfl) _⟩
      refine ((HR.out.drewN nq).set k _).congr (fun j _=>?_)
      by_cases e:j=k
      ·subst e;rw [if_pos rfl,if_pos (show K0<=j/\j<j+1 by omega)]
      ·rw [if_neg e]
       by_cases e2:K0<=j/\j<k
       ·rw [if_pos e2,if_pos (show K0<=j/\j<k+1 by omega)]
       ·rw [if_neg e2,if_neg (show ¬(K0<=j/\j<k+1) by omega)]
     case measure=>simp [intOf];omega
    ·have hkn:k=n2:=by omega
     subst hkn
     have d5:decide (k<k)=false:=by simp
     clear hr hfr
     go_wp2
     go_end0
     refine ⟨rfl,_,HR.out.ba (fun j hj=>?_) (fun i hi=>?_),HC.out.trans ⟨(((Fr.refl _ _).drewN nd2).trans (HF.out.mono (fun r hr=> .inr (by subst hr;rfl)))),.inl rfl⟩⟩
     ·by_cases e:K0<=j/\j<k
      ·rw [if_pos e,HG2.out j hj,<- pk_xor,pk_out HM.out (by rw [<- HN.out];omega)]
       simp
      ·rw [if_neg e]
       have hjn:j<K0:=by rw [<- HN2.out]at hj;omega
       rw [if_pos hjn,HG.out j hj,HG2.out j hj,pk_xor]
     ·rw [HM.out i (by omega),HM2.out i hi];rfl
theorem ipSym_x3(b b2 L2:Nat)(v v2:Value)(m m2:Nat->Bool)(w:World)(hL:0<L2)(h:BA w b v 0 m)(k2:BA w b2 v2 L2 m2)(hs:Sep b v b2 v2):
  Calls Tryz.prog 57 #[.pointer (some ⟨b,0,none⟩),.pointer (some ⟨b2,0,none⟩)] w (MutA w b v L2 (fun i=>m i^^m2 i) (.tuple #[])):=by
 have hl2:=k2.2.lim
 have a0:=hp_cell h.2.blk 0 (v:= .int .u64 ((0:Nat):Int)) rfl
 have b0:=hp_cell k2.2.blk 0 (v:= .int .u64 L2) rfl
 have hm:=h.1
 obtain ⟨n2,hn2⟩:∃n,n=nw L2:=⟨_,rfl⟩
 have hnb:n2<=1000:=by subst hn2;unfold nw;omega
 have hn1:1<=n2:=by subst hn2;unfold nw;omega
 have hw1:∀w:World,w.cell? ⟨b,0,none⟩=some (.int .u64 ((0:Nat):Int))->Calls Tryz.prog 101 #[.pointer (some ⟨b,0,none⟩)] w fun e w'=>e= .returned (.int .i64 0)/\w'=w:=fun w h=>wordCount_c b 0 w (by omega) h
 have hw2:∀w:World,w.cell? ⟨b2,0,none⟩=some (.int .u64 (L2:Int))->Calls Tryz.prog 101 #[.pointer (some ⟨b2,0,none⟩)] w fun e w'=>e= .returned (.int .i64 (n2:Int))/\w'=w:=fun w h=>by rw [hn2];exact wordCount_c b2 L2 w (by omega) h
 have HW1:=Lib.hid hw1;have HW2:=Lib.hid hw2
 have HH:=Lib.hid h;have HK:=Lib.hid k2;have HSP:=Lib.hid hs;have HM:=Lib.hid hm
 have HN2:=Lib.hid hn2
 have A0:=Lib.hid a0;have B00:=Lib.hid b0
 clear hw1 hw2 h k2 hs hm hn2
 have hL20:0<L2:=hL
 have d1:decide ((0:Int)<(n2:Int))=true:=by simp;omega
 have d1':0<n2:=hn1
 have d2:decide ((0:Int)<(L2:Int))=true:=by simp;omega
 have d3:decide ((0:Int)<=(L2:Int)-1)=true:=by simp;omega
 have p1:(1:Int)<=(L2:Int):=by omega
 go_enter Tryz.func57,Tryz.ntmps57
 go_wp2_with (go_at_call 103;refine (panicIfNull_c _ _).mono ?_;rintro e w' ⟨rfl,rfl⟩)
 refine (HW2.out _ B00.out).mono ?_
 rintro e w' ⟨rfl,rfl⟩
 go_wp2_with (fail)
 refine (HW1.out _ A0.out).mono ?_
 rintro e w' ⟨rfl,rfl⟩
 go_wp2_with (fail)
 refine (HW1.out _ A0.out).mono ?_
 rintro e w' ⟨rfl,rfl⟩
 go_wp2
 go_quiet (fail)
 go_wp2_with (go_at_call 100;refine (extA_e b L2 0 v m _ hL hl2 (HH.out.drewN _)).mono ?_;rintro e w1 ⟨rfl,v1,hba,hch0⟩;refine Hid.out ?_)
 refine Lib.hid ?_
 clear a0 b0
 have hch:Ch w' w1 b v v1:=(⟨(Fr.refl _ _).drewN _,.inl rfl⟩:Ch w' (w'.drewN nq) b v v).trans hch0
 clear hch0
 have hsp1:=HSP.out.step hch HK.out
 have k1:=HK.out.keep hch.fr (fun r hr hr2=>HSP.out r hr2 hr)
 obtain ⟨s,c,g,rfl,r,hg,hm1⟩:=hba.rs (by omega)
 obtain ⟨s2,c2,g2,rfl,r2,hg2,hm2⟩:=k1.rs (by omega)
 have hss:¬s2=s:=fun e=>hsp1 s (.inr rfl) (.inr (by rw [e];rfl))
 have hbs:s≠b2:=fun e=>hsp1 s (.inr rfl) (.inl e)
 have HC:=Lib.hid hch
 have a0:=r.h0
 have a1:=r.h1
 have b0:=r2.h0
 have b1:=r2.h1
 have hl:=r.hl
 rw [<- HN2.out]at a1 b1
 have R:=Lib.hid r;have R2:=Lib.hid r2;have HG:=Lib.hid hg;have HG2:=Lib.hid hg2;have HM2:=Lib.hid hm2
 have B0:=Lib.hid b0;have B1:=Lib.hid b1
 clear r r2 hg hg2 hm2 hm1 hch hsp1 k1 hba HSP HK HH
 go_wp2
 go_loopw [8] (fun i wr=>∃k:Nat,0<=k/\k<=n2/\i= .int .i64 (k:Int)/\RS wr b s L2 c (fun j=>if 0<=j/\j<k then g2 j else g j)/\∃nd,Fr (· =s) (w1.drewN nd) wr) (fun i _=>n2-(intOf i).toNat)
 case atStart=>exact ⟨0,Nat.le_refl _,by omega,by first|rfl|go_num,R.out.congr (fun j _=>(if_neg (show ¬(0<=j/\j<0) by omega)).symm),0,(Fr.refl _ _)⟩
 case round=>
  obtain ⟨k,hlo,hk,rfl,hr,nd2,hfr⟩:=hrel
  have HF:=Lib.hid hfr
  have HR:=Lib.hid hr
  have x0:=hr.h0
  have x1:=hr.h1
  rw [<- HN2.out]at x1
  have y0:=(hfr.cell (a:=⟨b2,0,none⟩) (hp_lt R2.out.hb) (fun e=>hbs e.symm)).trans B0.out
  have y1:=(hfr.cell (a:=⟨b2,1,none⟩) (hp_lt R2.out.hb) (fun e=>hbs e.symm)).trans B1.out
  by_cases hlt:k<n2
  ·have c0:=hr.at (i:=k) (by rw [<- HN2.out];exact hlt)
   have f0:=hr.fr k
   have c1:=(hfr.cell (a:=⟨s2,k,none⟩) R2.out.hs.lt hss).trans (R2.out.at (i:=k) (by rw [<- HN2.out];exact hlt))
   clear hr hfr
   go_wp2
   refine wp_region_quiet_tail 12 (by kernel_rfl) (by kernel_rfl) ?_
   simp only [List.take_succ_cons,List.take_zero,List.drop_succ_cons,List.drop_zero]
   repeat (go_big_quiet_step (fail))
   refine wpQuiet_nil ?_
   intro _ ⟨nq,hw'⟩
   subst hw'
   go_wp2
   go_roundw
   case rel=>
    refine ⟨k+1,by omega,by omega,by go_num,?_,nd2,(HF.out.drewN nq).setCell (.inl rfl) _⟩
    refine ((HR.out.drewN nq).set k _).congr (fun j _=>?_)
    by_cases e:j=k
    ·subst e;rw [if_pos rfl,if_pos (show 0<=j/\j<j+1 by omega)]
    ·rw [if_neg e]
     by_cases e2:0<=j/\j<k
     ·rw [if_pos e2,if_pos (show 0<=j/\j<k+1 by omega)]
     ·rw [if_neg e2,if_neg (show ¬(0<=j/\j<k+1) by omega)]
   case measure=>simp [intOf];omega
  ·have hkn:k=n2:=by omega
   subst hkn
   have d5:decide (k<k)=false:=by simp
   clear hr hfr
   go_wp2
   go_end0
   refine ⟨rfl,_,HR.out.ba (fun j hj=>?_) (fun i hi=>?_),HC.out.trans ⟨(((Fr.refl _ _).drewN nd2).trans (HF.out.mono (fun r hr=> .inr (by subst hr;rfl)))),.inl rfl⟩⟩
   ·by_cases e:0<=j/\j<k
    ·rw [if_pos e,HG2.out j hj,<- pk_xor,pk_out HM.out (by unfold nw;omega)]
     simp
    ·rw [if_neg e]
     have hjn:j<0:=by rw [<- HN2.out]at hj;omega
     exact absurd hjn (Nat.not_lt_zero _)
   ·rw [HM.out i (by omega),HM2.out i hi];rfl
theorem ipSym_x4(b b2 L:Nat)(v v2:Value)(m m2:Nat->Bool)(w:World)(h:BA w b v L m)(k2:BA w b2 v2 0 m2):
  Calls Tryz.prog 57 #[.pointer (some ⟨b,0,none⟩),.pointer (some ⟨b2,0,none⟩)] w (MutA w b v L (fun i=>m i^^m2 i) (.tuple #[])):=by
 have hl:=h.2.lim
 have a0:=hp_cell h.2.blk 0 (v:= .int .u64 L) rfl
 have b0:=hp_cell k2.2.blk 0 (v:= .int .u64 ((0:Nat):Int)) rfl
 have hv:∃a c,v2= .slice a 0 c:=by
  rcases k2.2.arr with ⟨_,rfl⟩|⟨s,c,rfl,_⟩
  ·exact ⟨_,_,rfl⟩
  ·exact ⟨_,_,rfl⟩
 obtain ⟨a2,c2,rfl⟩:=hv
 have b1:=hp_cell k2.2.blk 1 (v:= .slice a2 0 c2) rfl
 have he:(fun i=>m i^^m2 i)=m:=by funext i;rw [k2.1 i (Nat.zero_le _)];simp
 rw [he]
 have hw1:∀w:World,w.cell? ⟨b,0,none⟩=some (.int .u64 (L:Int))->Calls Tryz.prog 101 #[.pointer (some ⟨b,0,none⟩)] w fun e w'=>e= .returned (.int .i64 (nw L:Nat))/\w'=w:=fun w h=>wordCount_c b L w (by omega) h
 have hw2:∀w:World,w.cell? ⟨b2,0,none⟩=some (.int .u64 ((0:Nat):Int))->Calls Tryz.prog 101 #[.pointer (some ⟨b2,0,none⟩)] w fun e w'=>e= .returned (.int .i64 0)/\w'=w:=fun w h=>wordCount_c b2 0 w (by omega) h
 have HH:=Lib.hid h
 have HW1:=Lib.hid hw1;have HW2:=Lib.hid hw2
 have A0:=Lib.hid a0;have B0:=Lib.hid b0
 clear hw1 hw2 h k2 he
 have d1:decide (((nw L:Nat):Int)<0)=false:=by simp;omega
 go_enter Tryz.func57,Tryz.ntmps57
 go_wp2_with (go_at_call 103;refine (panicIfNull_c _ _).mono ?_;rintro e w' ⟨rfl,rfl⟩)
 refine (HW2.out _ B0.out).mono ?_
 rintro e w' ⟨rfl,rfl⟩
 go_wp2_with (fail)
 refine (HW1.out _ A0.out).mono ?_
 rintro e w' ⟨rfl,rfl⟩
 go_wp2
 go_quiet (fail)
 go_wp2
 go_end0
 exact ⟨rfl,v,HH.out.drewN _,⟨(Fr.refl _ _).drewN _,.inl rfl⟩⟩
theorem ipSym_c(b b2 L L2:Nat)(v v2:Value)(m m2:Nat->Bool)(w:World)(h:BA w b v L m)(k2:BA w b2 v2 L2 m2)(hs:(b2=b/\m2=m)\/Sep b v b2 v2):
  Calls Tryz.prog 57 #[.pointer (some ⟨b,0,none⟩),.pointer (some ⟨b2,0,none⟩)] w (MutA w b v (max L L2) (fun i=>m i^^m2 i) (.tuple #[])):=by
 by_cases h0:L2=0
 ·subst h0
  rw [Nat.max_eq_left (by omega)]
  exact ipSym_x4 b b2 L v v2 m m2 w h k2
 ·by_cases hL:L2<=L
  ·rw [Nat.max_eq_left hL]
   exact ipSym_x1 b b2 L L2 v v2 m m2 w (by omega) hL h k2 hs
  ·rw [Nat.max_eq_right (by omega)]
   have hsp:Sep b v b2 v2:=by
    rcases hs with ⟨rfl,_⟩|hs
    ·have:=(h.same k2).2;omega
    ·exact hs
   by_cases hz:L=0
   ·subst hz;exact ipSym_x3 b b2 L2 v v2 m m2 w (by omega) h k2 hsp
   ·by_cases e:nw L=nw L2
    ·exact ipSym_x2e b b2 L L2 v v2 m m2 w (by omega) (by omega) e h k2 hsp
    ·exact ipSym_x2m b b2 L L2 v v2 m m2 w (by omega) (by omega) (by unfold nw at *;omega) h k2 hsp
end Go.Proofs.YtobdfhlmipcjbaaGreatDoor
namespace Go.Proofs.YtobdfhlmipcjbaaGreatDoor
open Go.RowKit Pop
def win(m:Nat->Bool)(a b:Nat)(i:Nat):Bool:=m i&&decide (a<=i)&&decide (i<b)
theorem xor_all(x:BitVec 64):bits .xor .u64 (if IntKind.u64.signed=true then -1 else IntKind.u64.max) (wn x)=wn (~~~ x):=wn_max x
theorem win_low(m:Nat->Bool)(a b:Nat){n:Nat}(h:n<=a):cntN (win m a b) n=0:=(cntN_zero _ _).2 (fun i hi=>by
 have d:decide (a<=i)=false:=by simp;omega
 simp [win,d])
theorem win_high(m:Nat->Bool)(a b:Nat){n:Nat}(h:b<=n):cntN (win m a b) n=cntN (win m a b) b:=cntN_past (fun i hi=>by
 have d:decide (i<b)=false:=by simp;omega
 simp [win,d]) h
theorem win_first(m:Nat->Bool)(a b p k:Nat)(ha:a=64*p+k)(hk:k<64)(hb:64*(p+1)<=b):pk m p&&& ~~~ (((1:BitVec 64)<<<k)-1)=pk (win m a b) p:=pk_ext fun j hj=>by
 rw [BitVec.getLsbD_and,BitVec.getLsbD_not,getLsbD_pk,low_mask k j hk]
 have d1:decide (j<64)=true:=by simpa using hj
 have d2:decide (64*p+j<b)=true:=by simp;omega
 have d3:decide (a<=64*p+j)= !decide (j<k):=by rw [Bool.eq_iff_iff];simp;omega
 simp only [win,d1,d2,d3];simp
theorem win_last(m:Nat->Bool)(a b p k:Nat)(hb:b=64*p+k)(hk:k<64)(ha:a<=64*p):pk m p&&&(((1:BitVec 64)<<<k)-1)=pk (win m a b) p:=pk_ext fun j hj=>by
 rw [BitVec.getLsbD_and,getLsbD_pk,low_mask k j hk]
 have d1:decide (j<64)=true:=by simpa using hj
 have d2:decide (a<=64*p+j)=true:=by simp;omega
 have d3:decide (64*p+j<b)=decide (j<k):=by rw [Bool.eq_iff_iff];simp;omega
 simp only [win,d1,d2,d3];simp
theorem win_one(m:Nat->Bool)(a b p k q:Nat)(ha:a=64*p+k)(hk:k<64)(hb:b=64*p+q)(hq:q<64):pk m p&&&((((1:BitVec 64)<<<q)-1)&&& ~~~ (((1:BitVec 64)<<<k)-1))=pk (win m a b) p:=pk_ext fun j hj=>by
 rw [BitVec.getLsbD_and,BitVec.getLsbD_and,BitVec.getLsbD_not,getLsbD_pk,low_mask k j hk,low_mask q j hq]
 have d1:decide (j<64)=true:=by simpa using hj
 have d2:decide (a<=64*p+j)= !decide (j<k):=by rw [Bool.eq_iff_iff];simp;omega
 have d3:decide (64*p+j<b)=decide (j<q):=by rw [Bool.eq_iff_iff];simp;omega
 simp only [win,d1,d2,d3]
 cases m (64*p+j) <;> cases decide (j<k) <;> cases decide (j<q) <;> rfl
theorem win_mid(m:Nat->Bool)(a b q:Nat)(ha:a<=64*q)(hb:64*(q+1)<=b):pk m q=pk (win m a b) q:=(pk_same fun j hj=>by
 have d2:decide (a<=64*q+j)=true:=by simp;omega
 have d3:decide (64*q+j<b)=true:=by simp;omega
 simp only [win,d2,d3];simp).symm
theorem ones_between(b a to L:Nat)(v:Value)(m:Nat->Bool)(w:World)(ha:a<=50000)(hto:to<=50000)(h:BA w b v L m):
  Calls Tryz.prog 96 #[.pointer (some ⟨b,0,none⟩),.int .u64 (a:Int),.int .u64 (to:Int)] w fun e w'=>e= .returned (.int .u64 ((cntN (win m a to) L:Nat):Int))/\w'=w:=by
 obtain ⟨h0,hl,hm,A,s,c,h1,hc,hA,hw⟩:=h.view2
 have hn:=nw_bound hl
 have hnL:L<=64*nw L:=by unfold nw;omega
 have hnL2:64*nw L<=L+63:=by unfold nw;omega
 obtain ⟨n,hn'⟩:∃n,n=nw L:=⟨_,rfl⟩
 rw [<- hn']at h1 hc hA hw hn hnL hnL2
 obtain ⟨p,hp⟩:∃p,a/64=p:=⟨_,rfl⟩
 obtain ⟨k,hk⟩:∃k,a%64=k:=⟨_,rfl⟩
 have hpi:(a:Int)/64=(p:Int):=by omega
 have hak:a=64*p+k:=by omega
 have hk64:k<64:=by omega
 have e1:bits .and .u64 (a:Int) 63=(k:Int):=by rw [and63 a (by omega),hk]
 obtain ⟨a0,ha0⟩:∃y,y=(1:BitVec 64)<<<k:=⟨_,rfl⟩
 obtain ⟨a1,ha1⟩:∃z,z=a0-1:=⟨_,rfl⟩
 have m1:IntKind.u64.wrap ((2:Int)^k)=wn a0:=by rw [ha0];exact wn_one_shl _
 have m2:IntKind.u64.wrap (wn a0-1)=wn a1:=by rw [ha1];exact wn_pred _
 have main:∀T,((L<to/\T=L)\/(to<=L/\T=to))->Calls Tryz.prog 96 #[.pointer (some ⟨b,0,none⟩),.int .u64 (a:Int),.int .u64 (to:Int)] w fun e w'=>e= .returned (.int .u64 ((cntN (win m a T) T:Nat):Int))/\w'=w:=by
  intro T hT
  have hTL:T<=L:=by omega
  have hT5:T<=50000:=by omega
  obtain ⟨P,hP⟩:∃P,T/64=P:=⟨_,rfl⟩
  obtain ⟨K,hK⟩:∃K,T%64=K:=⟨_,rfl⟩
  have hPi:(T:Int)/64=(P:Int):=by omega
  have hTK:T=64*P+K:=by omega
  have hK64:K<64:=by omega
  have hPn:P<=n:=by omega
  have hP10:P<=1000:=by omega
  have e2:bits .and .u64 (T:Int) 63=(K:Int):=by rw [and63 T (by omega),hK]
  obtain ⟨b0,hb0⟩:∃y,y=(1:BitVec 64)<<<K:=⟨_,rfl⟩
  obtain ⟨b1,hb1⟩:∃z,z=b0-1:=⟨_,rfl⟩
  have m3:IntKind.u64.wrap ((2:Int)^K)=wn b0:=by rw [hb0];exact wn_one_shl _
  have m4:IntKind.u64.wrap (wn b0-1)=wn b1:=by rw [hb1];exact wn_pred _
  obtain ⟨R,hR⟩:∃R,R=cntN (win m a T) T:=⟨_,rfl⟩
  rw [<- hR]
  have HW:=Lib.hid hw;have HA:=Lib.hid hA;have HAK:=Lib.hid hak;have HTK:=Lib.hid hTK;have HR:=Lib.hid hR
  have HA0:=Lib.hid ha0;have HA1:=Lib.hid ha1;have HB0:=Lib.hid hb0;have HB1:=Lib.hid hb1
  have HNL:=Lib.hid hnL;have HNL2:=Lib.hid hnL2;have HC:=Lib.hid hc;have HM:=Lib.hid hm;have HN:=Lib.hid hn'
  clear hw hA hak hTK hR ha0 ha1 hb0 hb1 hk hp hP hK hnL hnL2 hm h hn' hc
  have hT2:(L<to/\T=L)\/(to=T):=by omega
  clear hT
  by_cases hge:T<=a
  ·have hr0:R=0:=by rw [HR.out];exact win_low m a T hge
   subst hr0
   have d1:decide ((T:Int)<=(a:Int))=true:=by simp;omega
   clear e1 e2 m1 m2 m3 m4 hpi hPi
   rcases hT2 with ⟨hlt,hT⟩|hT
   ·have d0:decide ((L:Int)<(to:Int))=true:=by simp;omega
    subst hT
    go_enter Tryz.func96,Tryz.ntmps96
    go_wp2_with (go_at_call 103;refine (panicIfNull_c _ _).mono ?_;rintro e w' ⟨rfl,rfl⟩)
    go_ret
    exact ⟨rfl,rfl⟩
   ·subst hT
    have d0:decide ((L:Int)<(to:Int))=false:=by simp;omega
    go_enter Tryz.func96,Tryz.ntmps96
    go_wp2_with (go_at_call 103;refine (panicIfNull_c _ _).mono ?_;rintro e w' ⟨rfl,rfl⟩)
    go_ret
    exact ⟨rfl,rfl⟩
  ·have d1:decide ((T:Int)<=(a:Int))=false:=by simp;omega
   by_cases hsame:p=P
   ·subst hsame
    have hpn:p<n:=by have:=HNL.out;have:=HTK.out;have:=HAK.out;omega
    obtain rfl:=HA.out (by omega)
    have c0:=HW.out p hpn
    have m5:bits .andNot .u64 (wn b1) (wn a1)=wn (b1&&& ~~~ a1):=wn_andNot _ _
    obtain ⟨x,hx⟩:∃x,x=pk m p&&&(b1&&& ~~~ a1):=⟨_,rfl⟩
    have m6:bits .and .u64 (wn (pk m p)) (wn (b1&&& ~~~ a1))=wn x:=by rw [hx];exact wn_and _ _
    have hbx:=pc_le x
    have hsum:pc x=R:=by
     rw [hx,HB1.out,HB0.out,HA1.out,HA0.out,win_one m a T p k K HAK.out hk64 HTK.out hK64,HR.out]
     have e3:=cnt_word (win m a T) p
     rw [win_low m a T (n:=64*p) (by have:=HAK.out;omega),Nat.zero_add,win_high m a T (n:=64*(p+1)) (by have:=HTK.out;omega)]at e3
     exact e3.symm
    have HS:=Lib.hid hsum;clear hsum hx
    rcases hT2 with ⟨hlt,hT⟩|hT
    ·have d0:decide ((L:Int)<(to:Int))=true:=by simp;omega
     subst hT
     go_enter Tryz.func96,Tryz.ntmps96
     go_wp2_with (first|(go_at_call 103;refine (panicIfNull_c _ _).mono ?_;rintro e w' ⟨rfl,rfl⟩)|(go_at_call 125;refine (ones_c _ _).mono ?_;rintro e w' ⟨rfl,rfl⟩))
     go_ret
     exact ⟨by rw [<- HS.out];rfl,rfl⟩
    ·subst hT
     have d0:decide ((L:Int)<(to:Int))=false:=by simp;omega
     go_enter Tryz.func96,Tryz.ntmps96
     go_wp2_with (first|(go_at_call 103;refine (panicIfNull_c _ _).mono ?_;rintro e w' ⟨rfl,rfl⟩)|(go_at_call 125;refine (ones_c _ _).mono ?_;rintro e w' ⟨rfl,rfl⟩))
     go_ret
     exact ⟨by rw [<- HS.out];rfl,rfl⟩
   ·have hpP:p<P:=by have:=HAK.out;have:=HTK.out;omega
    have hpn:p<n:=by omega
    obtain rfl:=HA.out (by omega)
    have c0:=HW.out p hpn
    have q0:¬(p:Int)=(P:Int):=by omega
    have m7:bits .xor .u64 (if IntKind.u64.signed=true then -1 else IntKind.u64.max) (wn a1)=wn (~~~ a1):=xor_all _
    obtain ⟨x,hx⟩:∃x,x=pk m p&&& ~~~ a1:=⟨_,rfl⟩
    have m6:bits .and .u64 (wn (pk m p)) (wn (~~~ a1))=wn x:=by rw [hx];exact wn_and _ _
    have hx1:pc x=cntN (win m a T) (64*(p+1)):=by
     rw [hx,HA1.out,HA0.out,win_first m a T p k HAK.out hk64 (by have:=HTK.out;omega),cnt_word,win_low m a T (n:=64*p) (by have:=HAK.out;omega),Nat.zero_add]
    obtain ⟨r2,hr2⟩:∃r2,r2=cntW (fun i=>pk m (p+1+i)) (P-(p+1)):=⟨_,rfl⟩
    have hmid:cntN (win m a T) (64*(p+1))+r2=cntN (win m a T) (64*P):=by
     rw [hr2,<- cntW_pk,<- cntW_pk]
     have e3:cntW (pk (win m a T)) P=cntW (pk (win m a T)) (p+1+(P-(p+1))):=congrArg _ (by omega)
     rw [e3,cntW_add (pk (win m a T)) (p+1) (P-(p+1))]
     congr 1
     refine cntW_ext _ (fun i hi=>?_)
     exact win_mid m a T (p+1+i) (by have:=HAK.out;omega) (by have:=HTK.out;omega)
    have hb2:=cntW_le (fun i=>pk m (p+1+i)) (P-(p+1))
    rw [<- hr2]at hb2
    have hbx:=pc_le x
    have hMID:∀d,Calls Tryz.prog 115 #[.slice (some ⟨s,p+1,none⟩) (P-(p+1)) d] w fun e w''=>e= .returned (.int .u64 (r2:Int))/\w''=w:=fun d=>by
     have h:=popcnt_c s (p+1) (P-(p+1)) d (fun i=>pk m (p+1+i)) w (by omega) (fun i hi=>HW.out (p+1+i) (by omega))
     rwa [<- hr2]at h
    have HMID:=Lib.hid hMID
    have hz:¬p+1<P->r2=0:=fun h=>by rw [hr2,show P-(p+1)=0 by omega];rfl
    have HX1:=Lib.hid hx1;have HMS:=Lib.hid hmid;have HZ:=Lib.hid hz
    clear hx1 hmid hMID hx hz hr2
    have s0:(0:Int)<=(p:Int)+1/\(p:Int)+1<=P:=by omega
    have s1:((p:Int)+1).toNat=p+1:=by omega
    have hPc:(P:Int)<=(c:Int):=by have:=HC.out;omega
    have hr2b:r2<=64000:=by omega
    clear hb2
    by_cases hmidd:p+1<P
    ·have g0:decide ((p:Int)+1<(P:Int))=true:=by simp;omega
     have hne:¬p+1=c:=by have:=HC.out;omega
     have hle:p+1<=P:=by omega
     rcases Nat.eq_zero_or_pos K with hK0|hK0
     ·have hsum:pc x+r2=R:=by
       rw [HX1.out,HMS.out,HR.out,show 64*P=T by have:=HTK.out;omega]
      have HS:=Lib.hid hsum;clear hsum
      subst hK0
      rcases hT2 with ⟨hlt,hT⟩|hT
      ·have d0:decide ((L:Int)<(to:Int))=true:=by simp;omega
       subst hT
       go_enter Tryz.func96,Tryz.ntmps96
       go_wp2_with (first|(go_at_call 103;refine (panicIfNull_c _ _).mono ?_;rintro e w' ⟨rfl,rfl⟩)|(go_at_call 125;refine (ones_c _ _).mono ?_;rintro e w' ⟨rfl,rfl⟩)|(go_at_call 115;refine (HMID.out _).mono ?_;rintro e w' ⟨rfl,rfl⟩))
       go_ret
       exact ⟨by rw [<- HS.out];first|rfl|go_num|simp,rfl⟩
      ·subst hT
       have d0:decide ((L:Int)<(to:Int))=false:=by simp;omega
       go_enter Tryz.func96,Tryz.ntmps96
       go_wp2_with (first|(go_at_call 103;refine (panicIfNull_c _ _).mono ?_;rintro e w' ⟨rfl,rfl⟩)|(go_at_call 125;refine (ones_c _ _).mono ?_;rintro e w' ⟨rfl,rfl⟩)|(go_at_call 115;refine (HMID.out _).mono ?_;rintro e w' ⟨rfl,rfl⟩))
       go_ret
       exact ⟨by rw [<- HS.out];first|rfl|go_num|simp,rfl⟩
     ·have hPn2:P<n:=by have:=HTK.out;have:=HNL.out;omega
      have c1:=HW.out P hPn2
      obtain ⟨y,hy⟩:∃y,y=pk m P&&&b1:=⟨_,rfl⟩
      have m8:bits .and .u64 (wn (pk m P)) (wn b1)=wn y:=by rw [hy];exact wn_and _ _
      have g1:decide ((0:Int)<(K:Int))=true:=by simp;omega
      have hby:=pc_le y
      have hsum:pc x+r2+pc y=R:=by
       rw [HX1.out,HMS.out,hy,HB1.out,HB0.out,win_last m a T P K HTK.out hK64 (by have:=HAK.out;omega),<- cnt_word,HR.out]
       exact win_high m a T (n:=64*(P+1)) (by have:=HTK.out;omega)
      have HS:=Lib.hid hsum;clear hsum hy
      rcases hT2 with ⟨hlt,hT⟩|hT
      ·have d0:decide ((L:Int)<(to:Int))=true:=by simp;omega
       subst hT
       go_enter Tryz.func96,Tryz.ntmps96
       go_wp2_with (first|(go_at_call 103;refine (panicIfNull_c _ _).mono ?_;rintro e w' ⟨rfl,rfl⟩)|(go_at_call 125;refine (ones_c _ _).mono ?_;rintro e w' ⟨rfl,rfl⟩)|(go_at_call 115;refine (HMID.out _).mono ?_;rintro e w' ⟨rfl,rfl⟩))
       go_ret
       exact ⟨by rw [<- HS.out];first|rfl|go_num|simp,rfl⟩
      ·subst hT
       have d0:decide ((L:Int)<(to:Int))=false:=by simp;omega
       go_enter Tryz.func96,Tryz.ntmps96
       go_wp2_with (first|(go_at_call 103;refine (panicIfNull_c _ _).mono ?_;rintro e w' ⟨rfl,rfl⟩)|(go_at_call 125;refine (ones_c _ _).mono ?_;rintro e w' ⟨rfl,rfl⟩)|(go_at_call 115;refine (HMID.out _).mono ?_;rintro e w' ⟨rfl,rfl⟩))
       go_ret
       exact ⟨by rw [<- HS.out];first|rfl|go_num|simp,rfl⟩
    ·have g0:decide ((p:Int)+1<(P:Int))=false:=by simp;omega
     have HR20:=Lib.hid (HZ.out hmidd)
     rcases Nat.eq_zero_or_pos K with hK0|hK0
     ·have hsum:pc x+r2=R:=by
       rw [HX1.out,HMS.out,HR.out,show 64*P=T by have:=HTK.out;omega]
      have HS:=Lib.hid hsum;clear hsum
      subst hK0
      rcases hT2 with ⟨hlt,hT⟩|hT
      ·have d0:decide ((L:Int)<(to:Int))=true:=by simp;omega
       subst hT
       go_enter Tryz.func96,Tryz.ntmps96
       go_wp2_with (first|(go_at_call 103;refine (panicIfNull_c _ _).mono ?_;rintro e w' ⟨rfl,rfl⟩)|(go_at_call 125;refine (ones_c _ _).mono ?_;rintro e w' ⟨rfl,rfl⟩))
       go_ret
       exact ⟨by rw [<- HS.out,HR20.out];first|rfl|go_num|simp,rfl⟩
      ·subst hT
       have d0:decide ((L:Int)<(to:Int))=false:=by simp;omega
       go_enter Tryz.func96,Tryz.ntmps96
       go_wp2_with (first|(go_at_call 103;refine (panicIfNull_c _ _).mono ?_;rintro e w' ⟨rfl,rfl⟩)|(go_at_call 125;refine (ones_c _ _).mono ?_;rintro e w' ⟨rfl,rfl⟩))
       go_ret
       exact ⟨by rw [<- HS.out,HR20.out];first|rfl|go_num|simp,rfl⟩
     ·have hPn2:P<n:=by have:=HTK.out;have:=HNL.out;omega
      have c1:=HW.out P hPn2
      obtain ⟨y,hy⟩:∃y,y=pk m P&&&b1:=⟨_,rfl⟩
      have m8:bits .and .u64 (wn (pk m P)) (wn b1)=wn y:=by rw [hy];exact wn_and _ _
      have g1:decide ((0:Int)<(K:Int))=true:=by simp;omega
      have hby:=pc_le y
      have hsum:pc x+r2+pc y=R:=by
       rw [HX1.out,HMS.out,hy,HB1.out,HB0.out,win_last m a T P K HTK.out hK64 (by have:=HAK.out;omega),<- cnt_word,HR.out]
       exact win_high m a T (n:=64*(P+1)) (by have:=HTK.out;omega)
      have HS:=Lib.hid hsum;clear hsum hy
      rcases hT2 with ⟨hlt,hT⟩|hT
      ·have d0:decide ((L:Int)<(to:Int))=true:=by simp;omega
       subst hT
       go_enter Tryz.func96,Tryz.ntmps96
       go_wp2_with (first|(go_at_call 103;refine (panicIfNull_c _ _).mono ?_;rintro e w' ⟨rfl,rfl⟩)|(go_at_call 125;refine (ones_c _ _).mono ?_;rintro e w' ⟨rfl,rfl⟩))
       go_ret
       exact ⟨by rw [<- HS.out,HR20.out];first|rfl|go_num|simp,rfl⟩
      ·subst hT
       have d0:decide ((L:Int)<(to:Int))=false:=by simp;omega
       go_enter Tryz.func96,Tryz.ntmps96
       go_wp2_with (first|(go_at_call 103;refine (panicIfNull_c _ _).mono ?_;rintro e w' ⟨rfl,rfl⟩)|(go_at_call 125;refine (ones_c _ _).mono ?_;rintro e w' ⟨rfl,rfl⟩))
       go_ret
       exact ⟨by rw [<- HS.out,HR20.out];first|rfl|go_num|simp,rfl⟩
 rcases Nat.lt_or_ge L to with hlt|hge
 ·have hh:=main L (.inl ⟨hlt,rfl⟩)
  have e3:cntN (win m a to) L=cntN (win m a L) L:=cntN_ext _ (fun i hi=>by
   have d1:decide (i<to)=true:=by simp;omega
   have d2:decide (i<L)=true:=by simp;omega
   simp only [win,d1,d2])
  rw [e3];exact hh
 ·have hh:=main to (.inr ⟨hge,rfl⟩)
  rw [win_high m a to hge];exact hh
end Go.Proofs.YtobdfhlmipcjbaaGreatDoor
