/- The numbers moved up: ShiftLeft. Conditions: what is made stays below 50,000. -/
import Derived.Test.YtobdfhlmipcjbaaGreatDoorG01
import Derived.Test.YtobdfhlmipcjbaaGreatDoorG21
set_option linter.unusedVariables false
set_option linter.unusedSimpArgs false
set_option maxHeartbeats 16000000
set_option maxRecDepth 100000
namespace Go.Proofs.YtobdfhlmipcjbaaGreatDoor
open Go.RowKit Pop
def up(m:Nat->Bool)(nb i:Nat):Bool:=decide (nb<=i)&&m (i-nb)
theorem pk_up(m:Nat->Bool)(nb q P sh:Nat)(hnb:nb=64*P+sh)(hs:sh<64):pk (up m nb) (q+1+P)=(pk m (q+1)<<<sh)|||(pk m q>>>(64-sh)):=(pk_ext fun j hj=>by
 rw [BitVec.getLsbD_or,BitVec.getLsbD_shiftLeft,BitVec.getLsbD_ushiftRight,getLsbD_pk,getLsbD_pk]
 unfold up
 have d0:decide (nb<=64*(q+1+P)+j)=true:=by simp;omega
 have d1:decide (j<64)=true:=by simpa using hj
 rw [d0,d1]
 rcases Nat.lt_or_ge j sh with h|h
 ·have d2:decide (j<sh)=true:=by simpa using h
  have d3:decide (64-sh+j<64)=true:=by simp;omega
  rw [d2,d3,show 64*q+(64-sh+j)=64*(q+1+P)+j-nb by omega];simp
 ·have d2:decide (j<sh)=false:=by simp;omega
  have d3:decide (64-sh+j<64)=false:=by simp;omega
  have d4:decide (j-sh<64)=true:=by simp;omega
  rw [d2,d3,d4,show 64*(q+1)+(j-sh)=64*(q+1+P)+j-nb by omega];simp).symm
theorem pk_up0(m:Nat->Bool)(nb P sh:Nat)(hnb:nb=64*P+sh)(hs:sh<64):pk (up m nb) P=pk m 0<<<sh:=(pk_ext fun j hj=>by
 rw [BitVec.getLsbD_shiftLeft,getLsbD_pk]
 unfold up
 have d1:decide (j<64)=true:=by simpa using hj
 rw [d1]
 rcases Nat.lt_or_ge j sh with h|h
 ·have d2:decide (j<sh)=true:=by simpa using h
  have d0:decide (nb<=64*P+j)=false:=by simp;omega
  rw [d2,d0];simp
 ·have d2:decide (j<sh)=false:=by simp;omega
  have d0:decide (nb<=64*P+j)=true:=by simp;omega
  have d4:decide (j-sh<64)=true:=by simp;omega
  rw [d2,d0,d4,show 64*0+(j-sh)=64*P+j-nb by omega];simp).symm
theorem pk_up_low(m:Nat->Bool)(nb P j:Nat)(hnb:64*P<=nb)(hj:j<P):pk (up m nb) j=0:=(pk_ext fun i hi=>by
 unfold up
 have d0:decide (nb<=64*j+i)=false:=by simp;omega
 rw [d0];simp).symm
theorem pk_up_high{m:Nat->Bool}{tp:Nat}(hz:∀j,tp<j->m j=false)(nb j:Nat)(hj:tp+nb<64*j):pk (up m nb) j=0:=(pk_ext fun i hi=>by
 unfold up
 rw [hz _ (by omega)];simp).symm
theorem shr64(x:BitVec 64):x>>>(64-0)=0:=by
 apply BitVec.eq_of_getLsbD_eq
 intro j hj
 rw [BitVec.getLsbD_ushiftRight,BitVec.getLsbD_of_ge x _ (by omega)];simp
theorem cell_setCell_ne(w:World)(d i s j:Nat)(v:Value)(h:(⟨s,j,none⟩:Addr)≠⟨d,i,none⟩):(w.setCell ⟨d,i,none⟩ v).cell? ⟨s,j,none⟩=w.cell? ⟨s,j,none⟩:=by
 by_cases e:s=d
 ·subst e
  have hij:i≠j:=fun e=>h (by rw [e])
  unfold World.cell? World.setCell
  simp only [Array.getElem?_modify]
  cases hw:w.heap[s]? with
  |none=>simp [hw]
  |some o=>cases o <;> simp [hw,Array.getElem?_setIfInBounds,hij]
 ·exact World.cell?_of_block (w:=w) (hp_other w ⟨d,i,none⟩ v e)
def UpPost(w:World)(b s L c nb tp:Nat)(m:Nat->Bool)(e:Ending)(w':World):Prop:=
 e= .returned (.tuple #[])/\∃d cd g',RS w' b d (max L (tp+nb+1)) cd g'/\(∀j,j<nw (max L (tp+nb+1))->g' j=pk (up m nb) j)/\Fr (fun r=>r=b\/r=s) w w'/\(d=s\/w.heap.size<=d)
theorem shiftLeft_a2(b s L c nb tp:Nat)(g:Nat->BitVec 64)(m:Nat->Bool)(w:World)(r:RS w b s L c g)(hg:∀i,i<nw L->g i=pk m i)(hnb:0<nb)(hlim:tp+nb<50000)(hL:tp<L)(hA:nw (tp+nb+1)<=nw L)(hB:tp+nb<L)
  (htop:∀w',w'=w->Calls Tryz.prog 104 #[.pointer (some ⟨b,0,none⟩)] w' fun e w''=>e= .returned (.tuple #[.int .u64 (tp:Int),.bool true])/\w''=w') (hz:∀j,tp<j->m j=false):
  Calls Tryz.prog 58 #[.pointer (some ⟨b,0,none⟩),.int .u64 (nb:Int)] w (UpPost w b s L c nb tp m):=by
 have hl:=r.hl
 have hIn:tp/64<nw L:=by unfold nw;omega
 have h0:=r.h0
 have h1:=r.h1
 have f0:=hp_free r.hb 0
 have f1:=hp_free r.hb 1
 obtain ⟨n,hn⟩:∃n,n=nw L:=⟨_,rfl⟩
 have hn1000:n<=1000:=by rw [hn];exact nw_bound hl
 have hnc:n<=c:=by rw [hn];exact r.hn
 have hb:=r.hb
 rw [<- hn]at hg hIn h1 hb
 have hrow:=r.hs
 have hsb:=r.ne
 have hcm:=r.hc
 obtain ⟨ns,hns⟩:∃ns,ns=nw (tp+nb+1):=⟨_,rfl⟩
 obtain ⟨I,hI⟩:∃I,tp/64=I:=⟨_,rfl⟩
 obtain ⟨pad,hpad⟩:∃I,tp%64=I:=⟨_,rfl⟩
 obtain ⟨P,hP⟩:∃I,nb/64=I:=⟨_,rfl⟩
 obtain ⟨sh,hsh⟩:∃I,nb%64=I:=⟨_,rfl⟩
 have hIn2:I<n:=by omega
 have hIb:I<=1000:=by omega
 have hPb:P<=1000:=by omega
 have hpadb:pad<64:=by omega
 have hshb:sh<64:=by omega
 have hnbe:nb=64*P+sh:=by omega
 have htpe:tp=64*I+pad:=by omega
 have hnsI:I+P<ns:=by rw [hns];unfold nw;omega
 have hnsb:ns<=1000:=by rw [hns];unfold nw;omega
 have a1:(tp:Int)/64=(I:Int):=by omega
 have a2:(tp:Int)%64=(pad:Int):=by omega
 have a3:(tp:Int).tmod 64=(pad:Int):=by rw [Int.tmod_eq_emod_of_nonneg (by omega)];exact a2
 have a4:(nb:Int)/64=(P:Int):=by omega
 have a5:(nb:Int)%64=(sh:Int):=by omega
 have a6:(nb:Int).tmod 64=(sh:Int):=by rw [Int.tmod_eq_emod_of_nonneg (by omega)];exact a5
 have n0:¬(nb:Int)=0:=by omega
 have n1:¬(tp:Int)+(nb:Int)<(nb:Int):=by omega
 have hwn:∀w,Calls Tryz.prog 102 #[.int .u64 ((tp:Int)+(nb:Int)+1)] w fun e w'=>e= .returned (.int .i64 (ns:Int))/\w'=w:=fun w=>by
  have h:=wordsNeeded_i ((tp:Int)+(nb:Int)+1) w (by omega) (by omega)
  rwa [show ((tp:Int)+(nb:Int)+1+63)/64=(ns:Int) by rw [hns];unfold nw;omega]at h
 have hup:=fun q=>pk_up m nb q P sh hnbe hshb
 have hup0:=pk_up0 m nb P sh hnbe hshb
 have hlow:=fun j=>pk_up_low m nb P j (by omega)
 have hhigh:=pk_up_high hz nb
 have hmz:=fun q (hq:I<q)=>pk_zero_above (m:=m) (t:=tp) (q:=q) hz (by omega)
 have hIhi:pad+sh<64->pk m I>>>(64-sh)=0:=fun hps=>by
  apply BitVec.eq_of_getLsbD_eq
  intro j hj
  rw [BitVec.getLsbD_ushiftRight,getLsbD_pk,hz (64*I+(64-sh+j)) (by omega)]
  simp
 obtain ⟨M,hM⟩:∃M,M=up m nb:=⟨_,rfl⟩
 unfold UpPost
 rw [<- hM]at hup hup0 hlow hhigh ⊢
 have HR:=Lib.hid r;have HG:=Lib.hid hg;have HT:=Lib.hid htop;have HN:=Lib.hid hn;have HNS:=Lib.hid hns;have HUP:=Lib.hid hup;have HUP0:=Lib.hid hup0;have HLO:=Lib.hid hlow;have HHI:=Lib.hid hhigh;have HMZ:=Lib.hid hmz;have HIH:=Lib.hid hIhi;have HWN:=Lib.hid hwn;have HNB:=Lib.hid hnbe;have HTP:=Lib.hid htpe;have HB:=Lib.hid hb;have HROW:=Lib.hid hrow
 clear r hg htop hn hns hup hup0 hlow hhigh hmz hIhi hwn hnbe htpe hM hb hrow hz hI hpad hP hsh hIn
 have hns':ns<=n:=by rw [HNS.out,HN.out];exact hA
 have d2:decide (n<ns)=false:=by simp;omega
 have d3:decide ((L:Int)<=(tp:Int)+(nb:Int))=false:=by simp;omega
 have LNWx:nw (max L (tp+nb+1))=n:=by rw [HN.out,Nat.max_eq_left (by omega)]
 have LMAXx:max L (tp+nb+1)=L:=Nat.max_eq_left (by omega)
 have LNWx:=Lib.hid LNWx;have LMAXx:=Lib.hid LMAXx
 clear hA hB
 by_cases hs0:sh=0
 ·subst hs0
  have hns2:ns=I+P+1:=by have:=HNS.out;have:=HNB.out;have:=HTP.out;unfold nw at *;omega
  have z1:(0:Int)<=(P:Int)/\(P:Int)<=ns:=by omega
  have z2:(ns:Int)<=c:=by omega
  have z3:P<=ns:=by omega
  have HNS2:=Lib.hid hns2;clear hns2
  go_enter Tryz.func58,Tryz.ntmps58
  go_wp2_with (first|(go_at_call 103;refine (panicIfNull_c _ _).mono ?_;rintro e w' ⟨rfl,rfl⟩)|(go_at_call 104;refine (HT.out _ rfl).mono ?_;rintro e w' ⟨rfl,rfl⟩)|(go_at_call 102;refine (HWN.out _).mono ?_;rintro e w' ⟨rfl,rfl⟩))
  have base:w'.heap[b]? =some (.cells #[.int .u64 (L:Int),.slice (some ⟨s,0,none⟩) n c] 75 (0,0))/\Fr (fun r=>r=b\/r=s) w' w'/\w'.rowIs s 29 c (fun i=>WV (g i))/\w'.rowIs s 29 c (fun i=>WV (g i)):=
   ⟨HB.out,Fr.refl _ _,HROW.out,HROW.out⟩
  skip
  obtain ⟨hb1,hf1,hs1,hd1⟩:=base
  have HB0:=Lib.hid hb1;have HF0:=Lib.hid hf1;have HS0:=Lib.hid hs1;have HD0:=Lib.hid hd1
  have HB1:=HB0;have HF1:=HF0
  refine wp_region_quiet_tail 8 (by kernel_rfl) (by kernel_rfl) ?_
  have g1:=hp_cell hb1 1 (v:= .slice (some ⟨s,0,none⟩) n c) rfl
  clear hb1 hf1 hs1 hd1
  simp only [List.take_succ_cons,List.take_zero,List.drop_succ_cons,List.drop_zero]
  repeat (go_big_quiet_step (fail))
  refine wpQuiet_nil ?_
  intro _ ⟨nq,hw'⟩
  subst hw'
  obtain ⟨w9,hcp,hrow9,hfr9⟩:=copy33 (w'.drewN nq) 3 s P s 0 (ns-P) (c-P) n c c c (I+1) g g HD0.out HS0.out (by have:=HNS2.out;show I+1=min _ _;omega) (by have:=HNS2.out;omega) (by omega)
  have hF9:Fr (· =s) w' w9:=((Fr.refl (· =s) w').drewN nq).trans hfr9
  have hqb:∀j,0+P<=j->j<n->(fun i=>if P<=i/\i<P+(I+1) then g (0+(i-P)) else g i) j=pk M j:=fun j h1 h2=>by
   show (if P<=j/\j<P+(I+1) then g (0+(j-P)) else g j)=_
   by_cases e:j<P+(I+1)
   ·rw [if_pos ⟨by omega,e⟩,Nat.zero_add,HG.out _ (by omega)]
    rcases Nat.eq_or_lt_of_le (show P<=j by omega) with e2|e2
    ·subst e2;rw [HUP0.out,Nat.sub_self];simp
    ·obtain ⟨q,rfl⟩:∃q,j=q+1+P:=⟨j-1-P,by omega⟩
     rw [HUP.out,show q+1+P-P=q+1 by omega,shr64];simp
   ·rw [if_neg (by omega),HHI.out j (by have:=HNB.out;have:=HTP.out;omega)]
    exact (by rw [HG.out j (by omega)];exact HMZ.out j (by omega))
  have HQA:=Lib.hid hrow9;have HQB:=Lib.hid hqb;have HF:=Lib.hid hF9
  clear hrow9 hfr9 hqb hF9 z1 z2 z3
  go_wp2
  clear hcp g1
  go_loopw [13] (fun t wz=>∃k:Nat,k<=P/\t= .int .i64 (k:Int)/\(∃q:Nat->BitVec 64,wz.rowIs s 29 c (fun i=>WV (q i))/\(∀j,P<=j->j<n->q j=pk M j)/\∀j,j<k->q j=pk M j)/\Fr (· =s) w' wz) (fun t _=>P-(intOf t).toNat)
  case atStart=>exact ⟨0,Nat.zero_le _,rfl,⟨_,HQA.out,fun j h1 h2=>HQB.out j (by omega) h2,fun j hj=>absurd hj (by omega)⟩,HF.out⟩
  case round=>
   obtain ⟨k,hk,rfl,⟨q,hq1,hq2,hq3⟩,hfr⟩:=hrel
   have hbk:=(hfr.keep b (hp_lt HB1.out) (fun e=>hsb e.symm)).trans HB1.out
   have HZA:=Lib.hid hq1;have HZB:=Lib.hid hq2;have HZC:=Lib.hid hq3;have HZF:=Lib.hid hfr;have HZK:=Lib.hid hbk
   by_cases hlt:k<P
   ·have cd:=hq1.cell (i:=k) (by omega)
    have fd:=hq1.frozen k
    have hkn:k<n:=by omega
    clear hq1 hq2 hq3 hfr hbk
    go_wp2
    go_roundw
    case rel=>
     refine ⟨k+1,by omega,by go_num,⟨fun j=>if j=k then 0 else q j,(HZA.out.set k (WV 0)).congr (fun j _=>by by_cases e:j=k <;> simp [e]),fun j h1 h2=>?_,fun j hj=>?_⟩,HZF.out.setCell (.inl rfl) _⟩
     ·show (if j=k then 0 else q j)=_
      rw [if_neg (by omega)];exact HZB.out j h1 h2
     ·show (if j=k then 0 else q j)=_
      by_cases e:j=k
      ·rw [if_pos e,HLO.out j (by omega)]
      ·rw [if_neg e];exact HZC.out j (by omega)
    case measure=>(simp [intOf];try omega)
   ·have hkP:k=P:=by omega
    subst hkP
    have fb:=hp_free hbk 1
    have g1:=hp_cell hbk 1 (v:= .slice (some ⟨s,0,none⟩) n c) rfl
    clear hq1 hq2 hq3 hfr hbk
    go_wp2
    go_end0
    refine ⟨rfl,s,c,q,⟨hsb,by rw [LNWx.out];exact hnc,hcm,by omega,?_,HZA.out.setOther (a:=⟨b,1,none⟩) hsb _⟩,fun j hj=>?_,?_,.inl rfl⟩
    ·rw [LNWx.out,LMAXx.out];exact hp_upd1 _ HZK.out
    ·rw [LNWx.out]at hj
     rcases Nat.lt_or_ge j k with h|h
     ·exact HZC.out j h
     ·exact HZB.out j h hj
    ·exact (HF1.out.trans' HZF.out (fun r hr=> .inl (.inr hr))).setCell (a:=⟨b,1,none⟩) (.inl (.inl rfl)) _
 ·have s0:((sh:Int)==0)=false:=by simp;omega
  have s1:¬(sh:Int)=0:=by omega
  have j1:((64:Int)-(sh:Int)).toNat=64-sh:=by omega
  have j2:(0:Int)<=(64:Int)-(sh:Int)/\(64:Int)-(sh:Int)<=64:=by omega
  by_cases hps:64<=pad+sh
  ·have d5:decide ((64:Int)<=(pad:Int)+(sh:Int))=true:=by simp;omega
   have hpn:I+P+1<n:=by have:=HNS.out;have:=HNB.out;have:=HTP.out;unfold nw at *;omega
   obtain ⟨x,hx⟩:∃x,x=pk m I>>>(64-sh):=⟨_,rfl⟩
   have e2:wn (pk m I)/(2:Int)^(64-sh)=wn x:=by rw [hx];exact wn_shr _ _
   have b3:((I:Int)+(P:Int)+1).toNat=I+P+1:=by omega
   have b1:(0:Int)<=(I:Int)+(P:Int)+1/\(I:Int)+(P:Int)+1<n:=by omega
   have ck:w.cell? ⟨s,I,none⟩=some (WV (pk m I)):=by rw [<- HG.out I hIn2];exact HROW.out.cell (by omega)
   have cd:=HROW.out.cell (i:=I+P+1) (by omega)
   have fd:=HROW.out.frozen (I+P+1)
   have hxM:x=pk M (I+1+P):=by rw [HUP.out,HMZ.out (I+1) (by omega),hx];simp
   have HXM:=Lib.hid hxM
   clear hx hxM
   go_enter Tryz.func58,Tryz.ntmps58
   go_wp2_with (first|(go_at_call 103;refine (panicIfNull_c _ _).mono ?_;rintro e w' ⟨rfl,rfl⟩)|(go_at_call 104;refine (HT.out _ rfl).mono ?_;rintro e w' ⟨rfl,rfl⟩)|(go_at_call 102;refine (HWN.out _).mono ?_;rintro e w' ⟨rfl,rfl⟩))
   have base:w'.heap[b]? =some (.cells #[.int .u64 (L:Int),.slice (some ⟨s,0,none⟩) n c] 75 (0,0))/\Fr (fun r=>r=b\/r=s) w' w'/\w'.rowIs s 29 c (fun i=>WV (g i))/\w'.rowIs s 29 c (fun i=>WV (g i)):=
    ⟨HB.out,Fr.refl _ _,HROW.out,HROW.out⟩
   skip
   obtain ⟨hb1,hf1,hs1,hd1⟩:=base
   have HB0:=Lib.hid hb1;have HF0:=Lib.hid hf1;have HS0:=Lib.hid hs1;have HD0:=Lib.hid hd1
   have hW1:(w'.setCell ⟨s,I+P+1,none⟩ (WV x)).heap[b]? =some (.cells #[.int .u64 (L:Int),.slice (some ⟨s,0,none⟩) n c] 75 (0,0))/\Fr (fun r=>r=b\/r=s) w' (w'.setCell ⟨s,I+P+1,none⟩ (WV x))/\(∀j,j<I+1->(w'.setCell ⟨s,I+P+1,none⟩ (WV x)).cell? ⟨s,j,none⟩=some (WV (pk m j)))/\((w'.setCell ⟨s,I+P+1,none⟩ (WV x)).rowIs s 29 c (fun i=>WV ((fun j=>if j=I+P+1 then x else g j) i))/\∀j,I+1+P<=j->j<n->(fun j=>if j=I+P+1 then x else g j) j=pk M j):=by
    refine ⟨(hp_other _ _ _ (fun e=>hsb e.symm)).trans HB0.out,HF0.out.setCell (a:=⟨s,I+P+1,none⟩) (.inl (.inr rfl)) _,fun j hj=>?_,(HD0.out.set (I+P+1) (WV x)).congr (fun j _=>by by_cases e:j=I+P+1 <;> simp [e]),fun j h1 h2=>?_⟩
    ·have k':=I+1
     rw [cell_setCell_ne _ _ _ _ _ _ (fun e=>by have h9:=congrArg Addr.off e;simp at h9;omega),<- HG.out j (by omega)];exact HS0.out.cell (by omega)
    ·show (if j=I+P+1 then x else g j)=_
     by_cases e:j=I+P+1
     ·rw [if_pos e,HXM.out,e,show I+P+1=I+1+P by omega]
     ·rw [if_neg e,HHI.out j (by have:=HNB.out;have:=HTP.out;omega)]
      exact (by rw [HG.out j (by omega)];exact HMZ.out j (by omega))
   clear hb1 hf1 hs1 hd1
   generalize w'.setCell ⟨s,I+P+1,none⟩ (WV x)=w1 at*
   have HB1:=Lib.hid hW1.1;have HF1:=Lib.hid hW1.2.1;have HSRC:=Lib.hid hW1.2.2.1;have HQ1:=Lib.hid hW1.2.2.2
   clear hW1 h0 h1 f0 f1 e2 b3 b1 ck cd fd
   go_loopw [12] (fun t wr=>∃k:Nat,k<=I+1/\t= .int .i64 ((k:Int)-1)/\(∃q:Nat->BitVec 64,wr.rowIs s 29 c (fun i=>WV (q i))/\∀j,k+P<=j->j<n->q j=pk M j)/\(∀j,j<k->wr.cell? ⟨s,j,none⟩=some (WV (pk m j)))/\Fr (· =s) w1 wr) (fun t _=>(intOf t+1).toNat)
   case atStart=>exact ⟨I+1,Nat.le_refl _,by first|rfl|go_num,⟨_,HQ1.out.1,HQ1.out.2⟩,HSRC.out,Fr.refl _ _⟩
   case round=>
    obtain ⟨k,hk,rfl,⟨q,hq1,hq2⟩,hsrc,hfr⟩:=hrel
    have hbk:=(hfr.keep b (hp_lt HB1.out) (fun e=>hsb e.symm)).trans HB1.out
    have g1:=hp_cell hbk 1 (v:= .slice (some ⟨s,0,none⟩) n c) rfl
    have HQA:=Lib.hid hq1;have HQB:=Lib.hid hq2;have HS:=Lib.hid hsrc;have HF:=Lib.hid hfr;have HBK:=Lib.hid hbk
    rcases Nat.eq_zero_or_pos k with hk0|hk0
    ·subst hk0
     have d1:decide ((0:Int)<=((0:Nat):Int)-1)=false:=by simp
     clear hq1 hq2 hsrc hfr hbk
     go_wp2
     clear d1 g1
     go_loopw [13] (fun t wz=>∃k:Nat,k<=P/\t= .int .i64 (k:Int)/\(∃q:Nat->BitVec 64,wz.rowIs s 29 c (fun i=>WV (q i))/\(∀j,P<=j->j<n->q j=pk M j)/\∀j,j<k->q j=pk M j)/\Fr (· =s) w1 wz) (fun t _=>P-(intOf t).toNat)
     case atStart=>exact ⟨0,Nat.zero_le _,rfl,⟨_,HQA.out,fun j h1 h2=>HQB.out j (by omega) h2,fun j hj=>absurd hj (by omega)⟩,HF.out⟩
     case round=>
      obtain ⟨k,hk,rfl,⟨q,hq1,hq2,hq3⟩,hfr⟩:=hrel
      have hbk:=(hfr.keep b (hp_lt HB1.out) (fun e=>hsb e.symm)).trans HB1.out
      have HZA:=Lib.hid hq1;have HZB:=Lib.hid hq2;have HZC:=Lib.hid hq3;have HZF:=Lib.hid hfr;have HZK:=Lib.hid hbk
      by_cases hlt:k<P
      ·have cd:=hq1.cell (i:=k) (by omega)
       have fd:=hq1.frozen k
       have hkn:k<n:=by omega
       clear hq1 hq2 hq3 hfr hbk
       go_wp2
       go_roundw
       case rel=>
        refine ⟨k+1,by omega,by go_num,⟨fun j=>if j=k then 0 else q j,(HZA.out.set k (WV 0)).congr (fun j _=>by by_cases e:j=k <;> simp [e]),fun j h1 h2=>?_,fun j hj=>?_⟩,HZF.out.setCell (.inl rfl) _⟩
        ·show (if j=k then 0 else q j)=_
         rw [if_neg (by omega)];exact HZB.out j h1 h2
        ·show (if j=k then 0 else q j)=_
         by_cases e:j=k
         ·rw [if_pos e,HLO.out j (by omega)]
         ·rw [if_neg e];exact HZC.out j (by omega)
       case measure=>(simp [intOf];try omega)
      ·have hkP:k=P:=by omega
       subst hkP
       have fb:=hp_free hbk 1
       have g1:=hp_cell hbk 1 (v:= .slice (some ⟨s,0,none⟩) n c) rfl
       clear hq1 hq2 hq3 hfr hbk
       go_wp2
       go_end0
       refine ⟨rfl,s,c,q,⟨hsb,by rw [LNWx.out];exact hnc,hcm,by omega,?_,HZA.out.setOther (a:=⟨b,1,none⟩) hsb _⟩,fun j hj=>?_,?_,.inl rfl⟩
       ·rw [LNWx.out,LMAXx.out];exact hp_upd1 _ HZK.out
       ·rw [LNWx.out]at hj
        rcases Nat.lt_or_ge j k with h|h
        ·exact HZC.out j h
        ·exact HZB.out j h hj
       ·exact (HF1.out.trans' HZF.out (fun r hr=> .inl (.inr hr))).setCell (a:=⟨b,1,none⟩) (.inl (.inl rfl)) _
    ·obtain ⟨k',rfl⟩:∃k',k=k'+1:=⟨k-1,by omega⟩
     have q1:(((k'+1:Nat):Int)-1)=(k':Int):=by omega
     rw [q1]
     have ck:=hsrc k' (by omega)
     have hkn:k'<n:=by omega
     have cd:=hq1.cell (i:=k'+P) (by omega)
     have fd:=hq1.frozen (k'+P)
     have b3:((k':Int)+(P:Int)).toNat=k'+P:=by omega
     have b1:(0:Int)<=(k':Int)+(P:Int)/\(k':Int)+(P:Int)<n:=by omega
     have nxt:∀x,x=pk M (k'+P)->(∃q:Nat->BitVec 64,(wr.setCell ⟨s,k'+P,none⟩ (WV x)).rowIs s 29 c (fun i=>WV (q i))/\∀j,k'+P<=j->j<n->q j=pk M j)/\(∀j,j<k'->(wr.setCell ⟨s,k'+P,none⟩ (WV x)).cell? ⟨s,j,none⟩=some (WV (pk m j)))/\Fr (· =s) w1 (wr.setCell ⟨s,k'+P,none⟩ (WV x)):=by
      intro x hx
      refine ⟨⟨fun j=>if j=k'+P then x else q j,(HQA.out.set (k'+P) (WV x)).congr (fun j _=>by by_cases e:j=k'+P <;> simp [e]),fun j h1 h2=>?_⟩,fun j hj=>?_,HF.out.setCell (.inl rfl) _⟩
      ·show (if j=k'+P then x else q j)=_
       by_cases e:j=k'+P
       ·rw [if_pos e,hx,e]
       ·rw [if_neg e];exact HQB.out j (by omega) h2
      ·rw [cell_setCell_ne _ _ _ _ _ _ (fun e=>by have h9:=congrArg Addr.off e;simp at h9;omega)];exact HS.out j (by omega)
     have nxtq:∀x nq,x=pk M (k'+P)->(∃q:Nat->BitVec 64,((wr.drewN nq).setCell ⟨s,k'+P,none⟩ (WV x)).rowIs s 29 c (fun i=>WV (q i))/\∀j,k'+P<=j->j<n->q j=pk M j)/\(∀j,j<k'->((wr.drewN nq).setCell ⟨s,k'+P,none⟩ (WV x)).cell? ⟨s,j,none⟩=some (WV (pk m j)))/\Fr (· =s) w1 ((wr.drewN nq).setCell ⟨s,k'+P,none⟩ (WV x)):=by
      intro x nq hx
      obtain ⟨⟨q',h1,h2⟩,h3,h4⟩:=nxt x hx
      exact ⟨⟨q',h1,h2⟩,h3,(HF.out.drewN nq).setCell (.inl rfl) _⟩
     have NX:=Lib.hid nxt;have NXQ:=Lib.hid nxtq;clear nxt nxtq
     rcases Nat.eq_zero_or_pos k' with hk1|hk1
     ·subst hk1
      obtain ⟨x,hx⟩:∃x,x=pk m 0<<<sh:=⟨_,rfl⟩
      have e1:IntKind.u64.wrap (wn (pk m 0)*(2:Int)^sh)=wn x:=by rw [hx];exact wn_shl _ _
      have hxM:x=pk M (0+P):=by rw [hx,Nat.zero_add,HUP0.out]
      have HXM:=Lib.hid hxM
      have b4:(P:Int)<n:=by omega
      have b5:P<n:=by omega
      rw [Nat.zero_add]at cd fd
      clear hq1 hq2 hsrc hfr hbk hx hxM q1
      go_wp2
      go_roundw
      case rel=>
       obtain ⟨h1,h2,h3⟩:=NX.out x HXM.out
       rw [Nat.zero_add]at h1 h2 h3
       exact ⟨0,by omega,by first|rfl|go_num,(by rw [Nat.zero_add];exact h1),h2,h3⟩
      case measure=>(simp [intOf];try omega)
     ·obtain ⟨p,rfl⟩:∃p,k'=p+1:=⟨k'-1,by omega⟩
      have cp:=hsrc p (by omega)
      have b6:(((p+1:Nat):Int)-1)=(p:Int):=by omega
      have b7:(0:Int)<((p+1:Nat):Int):=by omega
      have hpn:p<n:=by omega
      obtain ⟨x,hx⟩:∃x,x=pk m (p+1)<<<sh:=⟨_,rfl⟩
      obtain ⟨y,hy⟩:∃x,x=pk m p>>>(64-sh):=⟨_,rfl⟩
      have e1:IntKind.u64.wrap (wn (pk m (p+1))*(2:Int)^sh)=wn x:=by rw [hx];exact wn_shl _ _
      have e2:wn (pk m p)/(2:Int)^(64-sh)=wn y:=by rw [hy];exact wn_shr _ _
      have e3:bits .or .u64 (wn x) (wn y)=wn (x|||y):=wn_or _ _
      have hxM:x|||y=pk M (p+1+P):=by rw [hx,hy,HUP.out]
      have HXM:=Lib.hid hxM
      clear hq1 hq2 hsrc hfr hbk hx hy hxM q1
      go_wp2
      refine wp_region_quiet_tail 27 (by kernel_rfl) (by kernel_rfl) ?_
      simp only [List.take_succ_cons,List.take_zero,List.drop_succ_cons,List.drop_zero]
      repeat (go_big_quiet_step (fail))
      refine wpQuiet_nil ?_
      intro _ ⟨nq,hw'⟩
      subst hw'
      go_wp2
      go_roundw
      case rel=>
       obtain ⟨h1,h2,h3⟩:=NXQ.out (x|||y) nq HXM.out
       exact ⟨p+1,by omega,by go_num,h1,h2,h3⟩
      case measure=>(simp [intOf];try omega)
  ·have d5:decide ((64:Int)<=(pad:Int)+(sh:Int))=false:=by simp;omega
   go_enter Tryz.func58,Tryz.ntmps58
   go_wp2_with (first|(go_at_call 103;refine (panicIfNull_c _ _).mono ?_;rintro e w' ⟨rfl,rfl⟩)|(go_at_call 104;refine (HT.out _ rfl).mono ?_;rintro e w' ⟨rfl,rfl⟩)|(go_at_call 102;refine (HWN.out _).mono ?_;rintro e w' ⟨rfl,rfl⟩))
   have base:w'.heap[b]? =some (.cells #[.int .u64 (L:Int),.slice (some ⟨s,0,none⟩) n c] 75 (0,0))/\Fr (fun r=>r=b\/r=s) w' w'/\w'.rowIs s 29 c (fun i=>WV (g i))/\w'.rowIs s 29 c (fun i=>WV (g i)):=
    ⟨HB.out,Fr.refl _ _,HROW.out,HROW.out⟩
   skip
   obtain ⟨hb1,hf1,hs1,hd1⟩:=base
   have HB0:=Lib.hid hb1;have HF0:=Lib.hid hf1;have HS0:=Lib.hid hs1;have HD0:=Lib.hid hd1
   have hsrc:∀j,j<I+1->w'.cell? ⟨s,j,none⟩=some (WV (pk m j)):=fun j hj=>by rw [<- HG.out j (by omega)];exact hs1.cell (by omega)
   have hq1:w'.rowIs s 29 c (fun i=>WV (g i))/\∀j,I+1+P<=j->j<n->g j=pk M j:=⟨hd1,fun j h1 h2=>by
    rcases Nat.lt_or_ge (I+1+P) j with h|h
    ·rw [HHI.out j (by have:=HNB.out;have:=HTP.out;omega)];exact (by rw [HG.out j (by omega)];exact HMZ.out j (by omega))
    ·rw [show j=I+1+P by omega,HUP.out,HMZ.out (I+1) (by omega),HIH.out (by omega)]
     rw [show I+1+P=j by omega]
     refine ((by rw [HG.out j (by omega)];exact HMZ.out j (by omega)):g j=0).trans ?_
     simp⟩
   have HB1:=HB0;have HF1:=HF0;have HSRC:=Lib.hid hsrc;have HQ1:=Lib.hid hq1
   clear hb1 hf1 hs1 hd1 hsrc hq1 h0 h1 f0 f1
   go_loopw [12] (fun t wr=>∃k:Nat,k<=I+1/\t= .int .i64 ((k:Int)-1)/\(∃q:Nat->BitVec 64,wr.rowIs s 29 c (fun i=>WV (q i))/\∀j,k+P<=j->j<n->q j=pk M j)/\(∀j,j<k->wr.cell? ⟨s,j,none⟩=some (WV (pk m j)))/\Fr (· =s) w' wr) (fun t _=>(intOf t+1).toNat)
   case atStart=>exact ⟨I+1,Nat.le_refl _,by first|rfl|go_num,⟨_,HQ1.out.1,HQ1.out.2⟩,HSRC.out,Fr.refl _ _⟩
   case round=>
    obtain ⟨k,hk,rfl,⟨q,hq1,hq2⟩,hsrc,hfr⟩:=hrel
    have hbk:=(hfr.keep b (hp_lt HB1.out) (fun e=>hsb e.symm)).trans HB1.out
    have g1:=hp_cell hbk 1 (v:= .slice (some ⟨s,0,none⟩) n c) rfl
    have HQA:=Lib.hid hq1;have HQB:=Lib.hid hq2;have HS:=Lib.hid hsrc;have HF:=Lib.hid hfr;have HBK:=Lib.hid hbk
    rcases Nat.eq_zero_or_pos k with hk0|hk0
    ·subst hk0
     have d1:decide ((0:Int)<=((0:Nat):Int)-1)=false:=by simp
     clear hq1 hq2 hsrc hfr hbk
     go_wp2
     clear d1 g1
     go_loopw [13] (fun t wz=>∃k:Nat,k<=P/\t= .int .i64 (k:Int)/\(∃q:Nat->BitVec 64,wz.rowIs s 29 c (fun i=>WV (q i))/\(∀j,P<=j->j<n->q j=pk M j)/\∀j,j<k->q j=pk M j)/\Fr (· =s) w' wz) (fun t _=>P-(intOf t).toNat)
     case atStart=>exact ⟨0,Nat.zero_le _,rfl,⟨_,HQA.out,fun j h1 h2=>HQB.out j (by omega) h2,fun j hj=>absurd hj (by omega)⟩,HF.out⟩
     case round=>
      obtain ⟨k,hk,rfl,⟨q,hq1,hq2,hq3⟩,hfr⟩:=hrel
      have hbk:=(hfr.keep b (hp_lt HB1.out) (fun e=>hsb e.symm)).trans HB1.out
      have HZA:=Lib.hid hq1;have HZB:=Lib.hid hq2;have HZC:=Lib.hid hq3;have HZF:=Lib.hid hfr;have HZK:=Lib.hid hbk
      by_cases hlt:k<P
      ·have cd:=hq1.cell (i:=k) (by omega)
       have fd:=hq1.frozen k
       have hkn:k<n:=by omega
       clear hq1 hq2 hq3 hfr hbk
       go_wp2
       go_roundw
       case rel=>
        refine ⟨k+1,by omega,by go_num,⟨fun j=>if j=k then 0 else q j,(HZA.out.set k (WV 0)).congr (fun j _=>by by_cases e:j=k <;> simp [e]),fun j h1 h2=>?_,fun j hj=>?_⟩,HZF.out.setCell (.inl rfl) _⟩
        ·show (if j=k then 0 else q j)=_
         rw [if_neg (by omega)];exact HZB.out j h1 h2
        ·show (if j=k then 0 else q j)=_
         by_cases e:j=k
         ·rw [if_pos e,HLO.out j (by omega)]
         ·rw [if_neg e];exact HZC.out j (by omega)
       case measure=>(simp [intOf];try omega)
      ·have hkP:k=P:=by omega
       subst hkP
       have fb:=hp_free hbk 1
       have g1:=hp_cell hbk 1 (v:= .slice (some ⟨s,0,none⟩) n c) rfl
       clear hq1 hq2 hq3 hfr hbk
       go_wp2
       go_end0
       refine ⟨rfl,s,c,q,⟨hsb,by rw [LNWx.out];exact hnc,hcm,by omega,?_,HZA.out.setOther (a:=⟨b,1,none⟩) hsb _⟩,fun j hj=>?_,?_,.inl rfl⟩
       ·rw [LNWx.out,LMAXx.out];exact hp_upd1 _ HZK.out
       ·rw [LNWx.out]at hj
        rcases Nat.lt_or_ge j k with h|h
        ·exact HZC.out j h
        ·exact HZB.out j h hj
       ·exact (HF1.out.trans' HZF.out (fun r hr=> .inl (.inr hr))).setCell (a:=⟨b,1,none⟩) (.inl (.inl rfl)) _
    ·obtain ⟨k',rfl⟩:∃k',k=k'+1:=⟨k-1,by omega⟩
     have q1:(((k'+1:Nat):Int)-1)=(k':Int):=by omega
     rw [q1]
     have ck:=hsrc k' (by omega)
     have hkn:k'<n:=by omega
     have cd:=hq1.cell (i:=k'+P) (by omega)
     have fd:=hq1.frozen (k'+P)
     have b3:((k':Int)+(P:Int)).toNat=k'+P:=by omega
     have b1:(0:Int)<=(k':Int)+(P:Int)/\(k':Int)+(P:Int)<n:=by omega
     have nxt:∀x,x=pk M (k'+P)->(∃q:Nat->BitVec 64,(wr.setCell ⟨s,k'+P,none⟩ (WV x)).rowIs s 29 c (fun i=>WV (q i))/\∀j,k'+P<=j->j<n->q j=pk M j)/\(∀j,j<k'->(wr.setCell ⟨s,k'+P,none⟩ (WV x)).cell? ⟨s,j,none⟩=some (WV (pk m j)))/\Fr (· =s) w' (wr.setCell ⟨s,k'+P,none⟩ (WV x)):=by
      intro x hx
      refine ⟨⟨fun j=>if j=k'+P then x else q j,(HQA.out.set (k'+P) (WV x)).congr (fun j _=>by by_cases e:j=k'+P <;> simp [e]),fun j h1 h2=>?_⟩,fun j hj=>?_,HF.out.setCell (.inl rfl) _⟩
      ·show (if j=k'+P then x else q j)=_
       by_cases e:j=k'+P
       ·rw [if_pos e,hx,e]
       ·rw [if_neg e];exact HQB.out j (by omega) h2
      ·rw [cell_setCell_ne _ _ _ _ _ _ (fun e=>by have h9:=congrArg Addr.off e;simp at h9;omega)];exact HS.out j (by omega)
     have nxtq:∀x nq,x=pk M (k'+P)->(∃q:Nat->BitVec 64,((wr.drewN nq).setCell ⟨s,k'+P,none⟩ (WV x)).rowIs s 29 c (fun i=>WV (q i))/\∀j,k'+P<=j->j<n->q j=pk M j)/\(∀j,j<k'->((wr.drewN nq).setCell ⟨s,k'+P,none⟩ (WV x)).cell? ⟨s,j,none⟩=some (WV (pk m j)))/\Fr (· =s) w' ((wr.drewN nq).setCell ⟨s,k'+P,none⟩ (WV x)):=by
      intro x nq hx
      obtain ⟨⟨q',h1,h2⟩,h3,h4⟩:=nxt x hx
      exact ⟨⟨q',h1,h2⟩,h3,(HF.out.drewN nq).setCell (.inl rfl) _⟩
     have NX:=Lib.hid nxt;have NXQ:=Lib.hid nxtq;clear nxt nxtq
     rcases Nat.eq_zero_or_pos k' with hk1|hk1
     ·subst hk1
      obtain ⟨x,hx⟩:∃x,x=pk m 0<<<sh:=⟨_,rfl⟩
      have e1:IntKind.u64.wrap (wn (pk m 0)*(2:Int)^sh)=wn x:=by rw [hx];exact wn_shl _ _
      have hxM:x=pk M (0+P):=by rw [hx,Nat.zero_add,HUP0.out]
      have HXM:=Lib.hid hxM
      have b4:(P:Int)<n:=by omega
      have b5:P<n:=by omega
      rw [Nat.zero_add]at cd fd
      clear hq1 hq2 hsrc hfr hbk hx hxM q1
      go_wp2
      go_roundw
      case rel=>
       obtain ⟨h1,h2,h3⟩:=NX.out x HXM.out
       rw [Nat.zero_add]at h1 h2 h3
       exact ⟨0,by omega,by first|rfl|go_num,(by rw [Nat.zero_add];exact h1),h2,h3⟩
      case measure=>(simp [intOf];try omega)
     ·obtain ⟨p,rfl⟩:∃p,k'=p+1:=⟨k'-1,by omega⟩
      have cp:=hsrc p (by omega)
      have b6:(((p+1:Nat):Int)-1)=(p:Int):=by omega
      have b7:(0:Int)<((p+1:Nat):Int):=by omega
      have hpn:p<n:=by omega
      obtain ⟨x,hx⟩:∃x,x=pk m (p+1)<<<sh:=⟨_,rfl⟩
      obtain ⟨y,hy⟩:∃x,x=pk m p>>>(64-sh):=⟨_,rfl⟩
      have e1:IntKind.u64.wrap (wn (pk m (p+1))*(2:Int)^sh)=wn x:=by rw [hx];exact wn_shl _ _
      have e2:wn (pk m p)/(2:Int)^(64-sh)=wn y:=by rw [hy];exact wn_shr _ _
      have e3:bits .or .u64 (wn x) (wn y)=wn (x|||y):=wn_or _ _
      have hxM:x|||y=pk M (p+1+P):=by rw [hx,hy,HUP.out]
      have HXM:=Lib.hid hxM
      clear hq1 hq2 hsrc hfr hbk hx hy hxM q1
      go_wp2
      refine wp_region_quiet_tail 27 (by kernel_rfl) (by kernel_rfl) ?_
      simp only [List.take_succ_cons,List.take_zero,List.drop_succ_cons,List.drop_zero]
      repeat (go_big_quiet_step (fail))
      refine wpQuiet_nil ?_
      intro _ ⟨nq,hw'⟩
      subst hw'
      go_wp2
      go_roundw
      case rel=>
       obtain ⟨h1,h2,h3⟩:=NXQ.out (x|||y) nq HXM.out
       exact ⟨p+1,by omega,by go_num,h1,h2,h3⟩
      case measure=>(simp [intOf];try omega)
theorem shiftLeft_a1(b s L c nb tp:Nat)(g:Nat->BitVec 64)(m:Nat->Bool)(w:World)(r:RS w b s L c g)(hg:∀i,i<nw L->g i=pk m i)(hnb:0<nb)(hlim:tp+nb<50000)(hL:tp<L)(hA:nw (tp+nb+1)<=nw L)(hB:L<=tp+nb)
  (htop:∀w',w'=w->Calls Tryz.prog 104 #[.pointer (some ⟨b,0,none⟩)] w' fun e w''=>e= .returned (.tuple #[.int .u64 (tp:Int),.bool true])/\w''=w') (hz:∀j,tp<j->m j=false):
  Calls Tryz.prog 58 #[.pointer (some ⟨b,0,none⟩),.int .u64 (nb:Int)] w (UpPost w b s L c nb tp m):=by
 have hl:=r.hl
 have hIn:tp/64<nw L:=by unfold nw;omega
 have h0:=r.h0
 have h1:=r.h1
 have f0:=hp_free r.hb 0
 have f1:=hp_free r.hb 1
 obtain ⟨n,hn⟩:∃n,n=nw L:=⟨_,rfl⟩
 have hn1000:n<=1000:=by rw [hn];exact nw_bound hl
 have hnc:n<=c:=by rw [hn];exact r.hn
 have hb:=r.hb
 rw [<- hn]at hg hIn h1 hb
 have hrow:=r.hs
 have hsb:=r.ne
 have hcm:=r.hc
 obtain ⟨ns,hns⟩:∃ns,ns=nw (tp+nb+1):=⟨_,rfl⟩
 obtain ⟨I,hI⟩:∃I,tp/64=I:=⟨_,rfl⟩
 obtain ⟨pad,hpad⟩:∃I,tp%64=I:=⟨_,rfl⟩
 obtain ⟨P,hP⟩:∃I,nb/64=I:=⟨_,rfl⟩
 obtain ⟨sh,hsh⟩:∃I,nb%64=I:=⟨_,rfl⟩
 have hIn2:I<n:=by omega
 have hIb:I<=1000:=by omega
 have hPb:P<=1000:=by omega
 have hpadb:pad<64:=by omega
 have hshb:sh<64:=by omega
 have hnbe:nb=64*P+sh:=by omega
 have htpe:tp=64*I+pad:=by omega
 have hnsI:I+P<ns:=by rw [hns];unfold nw;omega
 have hnsb:ns<=1000:=by rw [hns];unfold nw;omega
 have a1:(tp:Int)/64=(I:Int):=by omega
 have a2:(tp:Int)%64=(pad:Int):=by omega
 have a3:(tp:Int).tmod 64=(pad:Int):=by rw [Int.tmod_eq_emod_of_nonneg (by omega)];exact a2
 have a4:(nb:Int)/64=(P:Int):=by omega
 have a5:(nb:Int)%64=(sh:Int):=by omega
 have a6:(nb:Int).tmod 64=(sh:Int):=by rw [Int.tmod_eq_emod_of_nonneg (by omega)];exact a5
 have n0:¬(nb:Int)=0:=by omega
 have n1:¬(tp:Int)+(nb:Int)<(nb:Int):=by omega
 have hwn:∀w,Calls Tryz.prog 102 #[.int .u64 ((tp:Int)+(nb:Int)+1)] w fun e w'=>e= .returned (.int .i64 (ns:Int))/\w'=w:=fun w=>by
  have h:=wordsNeeded_i ((tp:Int)+(nb:Int)+1) w (by omega) (by omega)
  rwa [show ((tp:Int)+(nb:Int)+1+63)/64=(ns:Int) by rw [hns];unfold nw;omega]at h
 have hup:=fun q=>pk_up m nb q P sh hnbe hshb
 have hup0:=pk_up0 m nb P sh hnbe hshb
 have hlow:=fun j=>pk_up_low m nb P j (by omega)
 have hhigh:=pk_up_high hz nb
 have hmz:=fun q (hq:I<q)=>pk_zero_above (m:=m) (t:=tp) (q:=q) hz (by omega)
 have hIhi:pad+sh<64->pk m I>>>(64-sh)=0:=fun hps=>by
  apply BitVec.eq_of_getLsbD_eq
  intro j hj
  rw [BitVec.getLsbD_ushiftRight,getLsbD_pk,hz (64*I+(64-sh+j)) (by omega)]
  simp
 obtain ⟨M,hM⟩:∃M,M=up m nb:=⟨_,rfl⟩
 unfold UpPost
 rw [<- hM]at hup hup0 hlow hhigh ⊢
 have HR:=Lib.hid r;have HG:=Lib.hid hg;have HT:=Lib.hid htop;have HN:=Lib.hid hn;have HNS:=Lib.hid hns;have HUP:=Lib.hid hup;have HUP0:=Lib.hid hup0;have HLO:=Lib.hid hlow;have HHI:=Lib.hid hhigh;have HMZ:=Lib.hid hmz;have HIH:=Lib.hid hIhi;have HWN:=Lib.hid hwn;have HNB:=Lib.hid hnbe;have HTP:=Lib.hid htpe;have HB:=Lib.hid hb;have HROW:=Lib.hid hrow
 clear r hg htop hn hns hup hup0 hlow hhigh hmz hIhi hwn hnbe htpe hM hb hrow hz hI hpad hP hsh hIn
 have hns':ns<=n:=by rw [HNS.out,HN.out];exact hA
 have d2:decide (n<ns)=false:=by simp;omega
 have d3:decide ((L:Int)<=(tp:Int)+(nb:Int))=true:=by simp;omega
 have LNWx:nw (max L (tp+nb+1))=n:=by rw [Nat.max_eq_right (by omega)];have:=HN.out;have:=HNS.out;unfold nw at *;omega
 have LMAXx:max L (tp+nb+1)=tp+nb+1:=Nat.max_eq_right (by omega)
 have LNWx:=Lib.hid LNWx;have LMAXx:=Lib.hid LMAXx
 clear hA hB
 by_cases hs0:sh=0
 ·subst hs0
  have hns2:ns=I+P+1:=by have:=HNS.out;have:=HNB.out;have:=HTP.out;unfold nw at *;omega
  have z1:(0:Int)<=(P:Int)/\(P:Int)<=ns:=by omega
  have z2:(ns:Int)<=c:=by omega
  have z3:P<=ns:=by omega
  have HNS2:=Lib.hid hns2;clear hns2
  go_enter Tryz.func58,Tryz.ntmps58
  go_wp2_with (first|(go_at_call 103;refine (panicIfNull_c _ _).mono ?_;rintro e w' ⟨rfl,rfl⟩)|(go_at_call 104;refine (HT.out _ rfl).mono ?_;rintro e w' ⟨rfl,rfl⟩)|(go_at_call 102;refine (HWN.out _).mono ?_;rintro e w' ⟨rfl,rfl⟩))
  have base:(w'.setCell ⟨b,0,none⟩ (.int .u64 ((tp:Int)+(nb:Int)+1))).heap[b]? =some (.cells #[.int .u64 ((tp:Int)+(nb:Int)+1),.slice (some ⟨s,0,none⟩) n c] 75 (0,0))/\Fr (fun r=>r=b\/r=s) w' (w'.setCell ⟨b,0,none⟩ (.int .u64 ((tp:Int)+(nb:Int)+1)))/\(w'.setCell ⟨b,0,none⟩ (.int .u64 ((tp:Int)+(nb:Int)+1))).rowIs s 29 c (fun i=>WV (g i))/\(w'.setCell ⟨b,0,none⟩ (.int .u64 ((tp:Int)+(nb:Int)+1))).rowIs s 29 c (fun i=>WV (g i)):=
   ⟨hp_upd0 _ HB.out,(Fr.refl _ _).setCell (a:=⟨b,0,none⟩) (.inl (.inl rfl)) _,HROW.out.setOther (a:=⟨b,0,none⟩) hsb _,HROW.out.setOther (a:=⟨b,0,none⟩) hsb _⟩
  generalize w'.setCell ⟨b,0,none⟩ (.int .u64 ((tp:Int)+(nb:Int)+1))=w0 at*
  obtain ⟨hb1,hf1,hs1,hd1⟩:=base
  have HB0:=Lib.hid hb1;have HF0:=Lib.hid hf1;have HS0:=Lib.hid hs1;have HD0:=Lib.hid hd1
  have HB1:=HB0;have HF1:=HF0
  refine wp_region_quiet_tail 8 (by kernel_rfl) (by kernel_rfl) ?_
  have g1:=hp_cell hb1 1 (v:= .slice (some ⟨s,0,none⟩) n c) rfl
  clear hb1 hf1 hs1 hd1
  simp only [List.take_succ_cons,List.take_zero,List.drop_succ_cons,List.drop_zero]
  repeat (go_big_quiet_step (fail))
  refine wpQuiet_nil ?_
  intro _ ⟨nq,hw'⟩
  subst hw'
  obtain ⟨w9,hcp,hrow9,hfr9⟩:=copy33 (w0.drewN nq) 3 s P s 0 (ns-P) (c-P) n c c c (I+1) g g HD0.out HS0.out (by have:=HNS2.out;show I+1=min _ _;omega) (by have:=HNS2.out;omega) (by omega)
  have hF9:Fr (· =s) w0 w9:=((Fr.refl (· =s) w0).drewN nq).trans hfr9
  have hqb:∀j,0+P<=j->j<n->(fun i=>if P<=i/\i<P+(I+1) then g (0+(i-P)) else g i) j=pk M j:=fun j h1 h2=>by
   show (if P<=j/\j<P+(I+1) then g (0+(j-P)) else g j)=_
   by_cases e:j<P+(I+1)
   ·rw [if_pos ⟨by omega,e⟩,Nat.zero_add,HG.out _ (by omega)]
    rcases Nat.eq_or_lt_of_le (show P<=j by omega) with e2|e2
    ·subst e2;rw [HUP0.out,Nat.sub_self];simp
    ·obtain ⟨q,rfl⟩:∃q,j=q+1+P:=⟨j-1-P,by omega⟩
     rw [HUP.out,show q+1+P-P=q+1 by omega,shr64];simp
   ·rw [if_neg (by omega),HHI.out j (by have:=HNB.out;have:=HTP.out;omega)]
    exact (by rw [HG.out j (by omega)];exact HMZ.out j (by omega))
  have HQA:=Lib.hid hrow9;have HQB:=Lib.hid hqb;have HF:=Lib.hid hF9
  clear hrow9 hfr9 hqb hF9 z1 z2 z3
  go_wp2
  clear hcp g1
  go_loopw [13] (fun t wz=>∃k:Nat,k<=P/\t= .int .i64 (k:Int)/\(∃q:Nat->BitVec 64,wz.rowIs s 29 c (fun i=>WV (q i))/\(∀j,P<=j->j<n->q j=pk M j)/\∀j,j<k->q j=pk M j)/\Fr (· =s) w0 wz) (fun t _=>P-(intOf t).toNat)
  case atStart=>exact ⟨0,Nat.zero_le _,rfl,⟨_,HQA.out,fun j h1 h2=>HQB.out j (by omega) h2,fun j hj=>absurd hj (by omega)⟩,HF.out⟩
  case round=>
   obtain ⟨k,hk,rfl,⟨q,hq1,hq2,hq3⟩,hfr⟩:=hrel
   have hbk:=(hfr.keep b (hp_lt HB1.out) (fun e=>hsb e.symm)).trans HB1.out
   have HZA:=Lib.hid hq1;have HZB:=Lib.hid hq2;have HZC:=Lib.hid hq3;have HZF:=Lib.hid hfr;have HZK:=Lib.hid hbk
   by_cases hlt:k<P
   ·have cd:=hq1.cell (i:=k) (by omega)
    have fd:=hq1.frozen k
    have hkn:k<n:=by omega
    clear hq1 hq2 hq3 hfr hbk
    go_wp2
    go_roundw
    case rel=>
     refine ⟨k+1,by omega,by go_num,⟨fun j=>if j=k then 0 else q j,(HZA.out.set k (WV 0)).congr (fun j _=>by by_cases e:j=k <;> simp [e]),fun j h1 h2=>?_,fun j hj=>?_⟩,HZF.out.setCell (.inl rfl) _⟩
     ·show (if j=k then 0 else q j)=_
      rw [if_neg (by omega)];exact HZB.out j h1 h2
     ·show (if j=k then 0 else q j)=_
      by_cases e:j=k
      ·rw [if_pos e,HLO.out j (by omega)]
      ·rw [if_neg e];exact HZC.out j (by omega)
    case measure=>(simp [intOf];try omega)
   ·have hkP:k=P:=by omega
    subst hkP
    have fb:=hp_free hbk 1
    have g1:=hp_cell hbk 1 (v:= .slice (some ⟨s,0,none⟩) n c) rfl
    clear hq1 hq2 hq3 hfr hbk
    go_wp2
    go_end0
    refine ⟨rfl,s,c,q,⟨hsb,by rw [LNWx.out];exact hnc,hcm,by omega,?_,HZA.out.setOther (a:=⟨b,1,none⟩) hsb _⟩,fun j hj=>?_,?_,.inl rfl⟩
    ·rw [LNWx.out,LMAXx.out];exact hp_upd1 _ HZK.out
    ·rw [LNWx.out]at hj
     rcases Nat.lt_or_ge j k with h|h
     ·exact HZC.out j h
     ·exact HZB.out j h hj
    ·exact (HF1.out.trans' HZF.out (fun r hr=> .inl (.inr hr))).setCell (a:=⟨b,1,none⟩) (.inl (.inl rfl)) _
 ·have s0:((sh:Int)==0)=false:=by simp;omega
  have s1:¬(sh:Int)=0:=by omega
  have j1:((64:Int)-(sh:Int)).toNat=64-sh:=by omega
  have j2:(0:Int)<=(64:Int)-(sh:Int)/\(64:Int)-(sh:Int)<=64:=by omega
  by_cases hps:64<=pad+sh
  ·have d5:decide ((64:Int)<=(pad:Int)+(sh:Int))=true:=by simp;omega
   have hpn:I+P+1<n:=by have:=HNS.out;have:=HNB.out;have:=HTP.out;unfold nw at *;omega
   obtain ⟨x,hx⟩:∃x,x=pk m I>>>(64-sh):=⟨_,rfl⟩
   have e2:wn (pk m I)/(2:Int)^(64-sh)=wn x:=by rw [hx];exact wn_shr _ _
   have b3:((I:Int)+(P:Int)+1).toNat=I+P+1:=by omega
   have b1:(0:Int)<=(I:Int)+(P:Int)+1/\(I:Int)+(P:Int)+1<n:=by omega
   have ck:w.cell? ⟨s,I,none⟩=some (WV (pk m I)):=by rw [<- HG.out I hIn2];exact HROW.out.cell (by omega)
   have cd:=HROW.out.cell (i:=I+P+1) (by omega)
   have fd:=HROW.out.frozen (I+P+1)
   have hxM:x=pk M (I+1+P):=by rw [HUP.out,HMZ.out (I+1) (by omega),hx];simp
   have HXM:=Lib.hid hxM
   clear hx hxM
   go_enter Tryz.func58,Tryz.ntmps58
   go_wp2_with (first|(go_at_call 103;refine (panicIfNull_c _ _).mono ?_;rintro e w' ⟨rfl,rfl⟩)|(go_at_call 104;refine (HT.out _ rfl).mono ?_;rintro e w' ⟨rfl,rfl⟩)|(go_at_call 102;refine (HWN.out _).mono ?_;rintro e w' ⟨rfl,rfl⟩))
   have base:(w'.setCell ⟨b,0,none⟩ (.int .u64 ((tp:Int)+(nb:Int)+1))).heap[b]? =some (.cells #[.int .u64 ((tp:Int)+(nb:Int)+1),.slice (some ⟨s,0,none⟩) n c] 75 (0,0))/\Fr (fun r=>r=b\/r=s) w' (w'.setCell ⟨b,0,none⟩ (.int .u64 ((tp:Int)+(nb:Int)+1)))/\(w'.setCell ⟨b,0,none⟩ (.int .u64 ((tp:Int)+(nb:Int)+1))).rowIs s 29 c (fun i=>WV (g i))/\(w'.setCell ⟨b,0,none⟩ (.int .u64 ((tp:Int)+(nb:Int)+1))).rowIs s 29 c (fun i=>WV (g i)):=
    ⟨hp_upd0 _ HB.out,(Fr.refl _ _).setCell (a:=⟨b,0,none⟩) (.inl (.inl rfl)) _,HROW.out.setOther (a:=⟨b,0,none⟩) hsb _,HROW.out.setOther (a:=⟨b,0,none⟩) hsb _⟩
   generalize w'.setCell ⟨b,0,none⟩ (.int .u64 ((tp:Int)+(nb:Int)+1))=w0 at*
   obtain ⟨hb1,hf1,hs1,hd1⟩:=base
   have HB0:=Lib.hid hb1;have HF0:=Lib.hid hf1;have HS0:=Lib.hid hs1;have HD0:=Lib.hid hd1
   have hW1:(w0.setCell ⟨s,I+P+1,none⟩ (WV x)).heap[b]? =some (.cells #[.int .u64 ((tp:Int)+(nb:Int)+1),.slice (some ⟨s,0,none⟩) n c] 75 (0,0))/\Fr (fun r=>r=b\/r=s) w' (w0.setCell ⟨s,I+P+1,none⟩ (WV x))/\(∀j,j<I+1->(w0.setCell ⟨s,I+P+1,none⟩ (WV x)).cell? ⟨s,j,none⟩=some (WV (pk m j)))/\((w0.setCell ⟨s,I+P+1,none⟩ (WV x)).rowIs s 29 c (fun i=>WV ((fun j=>if j=I+P+1 then x else g j) i))/\∀j,I+1+P<=j->j<n->(fun j=>if j=I+P+1 then x else g j) j=pk M j):=by
    refine ⟨(hp_other _ _ _ (fun e=>hsb e.symm)).trans HB0.out,HF0.out.setCell (a:=⟨s,I+P+1,none⟩) (.inl (.inr rfl)) _,fun j hj=>?_,(HD0.out.set (I+P+1) (WV x)).congr (fun j _=>by by_cases e:j=I+P+1 <;> simp [e]),fun j h1 h2=>?_⟩
    ·have k':=I+1
     rw [cell_setCell_ne _ _ _ _ _ _ (fun e=>by have h9:=congrArg Addr.off e;simp at h9;omega),<- HG.out j (by omega)];exact HS0.out.cell (by omega)
    ·show (if j=I+P+1 then x else g j)=_
     by_cases e:j=I+P+1
     ·rw [if_pos e,HXM.out,e,show I+P+1=I+1+P by omega]
     ·rw [if_neg e,HHI.out j (by have:=HNB.out;have:=HTP.out;omega)]
      exact (by rw [HG.out j (by omega)];exact HMZ.out j (by omega))
   clear hb1 hf1 hs1 hd1
   generalize w0.setCell ⟨s,I+P+1,none⟩ (WV x)=w1 at*
   have HB1:=Lib.hid hW1.1;have HF1:=Lib.hid hW1.2.1;have HSRC:=Lib.hid hW1.2.2.1;have HQ1:=Lib.hid hW1.2.2.2
   clear hW1 h0 h1 f0 f1 e2 b3 b1 ck cd fd
   go_loopw [12] (fun t wr=>∃k:Nat,k<=I+1/\t= .int .i64 ((k:Int)-1)/\(∃q:Nat->BitVec 64,wr.rowIs s 29 c (fun i=>WV (q i))/\∀j,k+P<=j->j<n->q j=pk M j)/\(∀j,j<k->wr.cell? ⟨s,j,none⟩=some (WV (pk m j)))/\Fr (· =s) w1 wr) (fun t _=>(intOf t+1).toNat)
   case atStart=>exact ⟨I+1,Nat.le_refl _,by first|rfl|go_num,⟨_,HQ1.out.1,HQ1.out.2⟩,HSRC.out,Fr.refl _ _⟩
   case round=>
    obtain ⟨k,hk,rfl,⟨q,hq1,hq2⟩,hsrc,hfr⟩:=hrel
    have hbk:=(hfr.keep b (hp_lt HB1.out) (fun e=>hsb e.symm)).trans HB1.out
    have g1:=hp_cell hbk 1 (v:= .slice (some ⟨s,0,none⟩) n c) rfl
    have HQA:=Lib.hid hq1;have HQB:=Lib.hid hq2;have HS:=Lib.hid hsrc;have HF:=Lib.hid hfr;have HBK:=Lib.hid hbk
    rcases Nat.eq_zero_or_pos k with hk0|hk0
    ·subst hk0
     have d1:decide ((0:Int)<=((0:Nat):Int)-1)=false:=by simp
     clear hq1 hq2 hsrc hfr hbk
     go_wp2
     clear d1 g1
     go_loopw [13] (fun t wz=>∃k:Nat,k<=P/\t= .int .i64 (k:Int)/\(∃q:Nat->BitVec 64,wz.rowIs s 29 c (fun i=>WV (q i))/\(∀j,P<=j->j<n->q j=pk M j)/\∀j,j<k->q j=pk M j)/\Fr (· =s) w1 wz) (fun t _=>P-(intOf t).toNat)
     case atStart=>exact ⟨0,Nat.zero_le _,rfl,⟨_,HQA.out,fun j h1 h2=>HQB.out j (by omega) h2,fun j hj=>absurd hj (by omega)⟩,HF.out⟩
     case round=>
      obtain ⟨k,hk,rfl,⟨q,hq1,hq2,hq3⟩,hfr⟩:=hrel
      have hbk:=(hfr.keep b (hp_lt HB1.out) (fun e=>hsb e.symm)).trans HB1.out
      have HZA:=Lib.hid hq1;have HZB:=Lib.hid hq2;have HZC:=Lib.hid hq3;have HZF:=Lib.hid hfr;have HZK:=Lib.hid hbk
      by_cases hlt:k<P
      ·have cd:=hq1.cell (i:=k) (by omega)
       have fd:=hq1.frozen k
       have hkn:k<n:=by omega
       clear hq1 hq2 hq3 hfr hbk
       go_wp2
       go_roundw
       case rel=>
        refine ⟨k+1,by omega,by go_num,⟨fun j=>if j=k then 0 else q j,(HZA.out.set k (WV 0)).congr (fun j _=>by by_cases e:j=k <;> simp [e]),fun j h1 h2=>?_,fun j hj=>?_⟩,HZF.out.setCell (.inl rfl) _⟩
        ·show (if j=k then 0 else q j)=_
         rw [if_neg (by omega)];exact HZB.out j h1 h2
        ·show (if j=k then 0 else q j)=_
         by_cases e:j=k
         ·rw [if_pos e,HLO.out j (by omega)]
         ·rw [if_neg e];exact HZC.out j (by omega)
       case measure=>(simp [intOf];try omega)
      ·have hkP:k=P:=by omega
       subst hkP
       have fb:=hp_free hbk 1
       have g1:=hp_cell hbk 1 (v:= .slice (some ⟨s,0,none⟩) n c) rfl
       clear hq1 hq2 hq3 hfr hbk
       go_wp2
       go_end0
       refine ⟨rfl,s,c,q,⟨hsb,by rw [LNWx.out];exact hnc,hcm,by omega,?_,HZA.out.setOther (a:=⟨b,1,none⟩) hsb _⟩,fun j hj=>?_,?_,.inl rfl⟩
       ·rw [LNWx.out,LMAXx.out];exact hp_upd1 _ HZK.out
       ·rw [LNWx.out]at hj
        rcases Nat.lt_or_ge j k with h|h
        ·exact HZC.out j h
        ·exact HZB.out j h hj
       ·exact (HF1.out.trans' HZF.out (fun r hr=> .inl (.inr hr))).setCell (a:=⟨b,1,none⟩) (.inl (.inl rfl)) _
    ·obtain ⟨k',rfl⟩:∃k',k=k'+1:=⟨k-1,by omega⟩
     have q1:(((k'+1:Nat):Int)-1)=(k':Int):=by omega
     rw [q1]
     have ck:=hsrc k' (by omega)
     have hkn:k'<n:=by omega
     have cd:=hq1.cell (i:=k'+P) (by omega)
     have fd:=hq1.frozen (k'+P)
     have b3:((k':Int)+(P:Int)).toNat=k'+P:=by omega
     have b1:(0:Int)<=(k':Int)+(P:Int)/\(k':Int)+(P:Int)<n:=by omega
     have nxt:∀x,x=pk M (k'+P)->(∃q:Nat->BitVec 64,(wr.setCell ⟨s,k'+P,none⟩ (WV x)).rowIs s 29 c (fun i=>WV (q i))/\∀j,k'+P<=j->j<n->q j=pk M j)/\(∀j,j<k'->(wr.setCell ⟨s,k'+P,none⟩ (WV x)).cell? ⟨s,j,none⟩=some (WV (pk m j)))/\Fr (· =s) w1 (wr.setCell ⟨s,k'+P,none⟩ (WV x)):=by
      intro x hx
      refine ⟨⟨fun j=>if j=k'+P then x else q j,(HQA.out.set (k'+P) (WV x)).congr (fun j _=>by by_cases e:j=k'+P <;> simp [e]),fun j h1 h2=>?_⟩,fun j hj=>?_,HF.out.setCell (.inl rfl) _⟩
      ·show (if j=k'+P then x else q j)=_
       by_cases e:j=k'+P
       ·rw [if_pos e,hx,e]
       ·rw [if_neg e];exact HQB.out j (by omega) h2
      ·rw [cell_setCell_ne _ _ _ _ _ _ (fun e=>by have h9:=congrArg Addr.off e;simp at h9;omega)];exact HS.out j (by omega)
     have nxtq:∀x nq,x=pk M (k'+P)->(∃q:Nat->BitVec 64,((wr.drewN nq).setCell ⟨s,k'+P,none⟩ (WV x)).rowIs s 29 c (fun i=>WV (q i))/\∀j,k'+P<=j->j<n->q j=pk M j)/\(∀j,j<k'->((wr.drewN nq).setCell ⟨s,k'+P,none⟩ (WV x)).cell? ⟨s,j,none⟩=some (WV (pk m j)))/\Fr (· =s) w1 ((wr.drewN nq).setCell ⟨s,k'+P,none⟩ (WV x)):=by
      intro x nq hx
      obtain ⟨⟨q',h1,h2⟩,h3,h4⟩:=nxt x hx
      exact ⟨⟨q',h1,h2⟩,h3,(HF.out.drewN nq).setCell (.inl rfl) _⟩
     have NX:=Lib.hid nxt;have NXQ:=Lib.hid nxtq;clear nxt nxtq
     rcases Nat.eq_zero_or_pos k' with hk1|hk1
     ·subst hk1
      obtain ⟨x,hx⟩:∃x,x=pk m 0<<<sh:=⟨_,rfl⟩
      have e1:IntKind.u64.wrap (wn (pk m 0)*(2:Int)^sh)=wn x:=by rw [hx];exact wn_shl _ _
      have hxM:x=pk M (0+P):=by rw [hx,Nat.zero_add,HUP0.out]
      have HXM:=Lib.hid hxM
      have b4:(P:Int)<n:=by omega
      have b5:P<n:=by omega
      rw [Nat.zero_add]at cd fd
      clear hq1 hq2 hsrc hfr hbk hx hxM q1
      go_wp2
      go_roundw
      case rel=>
       obtain ⟨h1,h2,h3⟩:=NX.out x HXM.out
       rw [Nat.zero_add]at h1 h2 h3
       exact ⟨0,by omega,by first|rfl|go_num,(by rw [Nat.zero_add];exact h1),h2,h3⟩
      case measure=>(simp [intOf];try omega)
     ·obtain ⟨p,rfl⟩:∃p,k'=p+1:=⟨k'-1,by omega⟩
      have cp:=hsrc p (by omega)
      have b6:(((p+1:Nat):Int)-1)=(p:Int):=by omega
      have b7:(0:Int)<((p+1:Nat):Int):=by omega
      have hpn:p<n:=by omega
      obtain ⟨x,hx⟩:∃x,x=pk m (p+1)<<<sh:=⟨_,rfl⟩
      obtain ⟨y,hy⟩:∃x,x=pk m p>>>(64-sh):=⟨_,rfl⟩
      have e1:IntKind.u64.wrap (wn (pk m (p+1))*(2:Int)^sh)=wn x:=by rw [hx];exact wn_shl _ _
      have e2:wn (pk m p)/(2:Int)^(64-sh)=wn y:=by rw [hy];exact wn_shr _ _
      have e3:bits .or .u64 (wn x) (wn y)=wn (x|||y):=wn_or _ _
      have hxM:x|||y=pk M (p+1+P):=by rw [hx,hy,HUP.out]
      have HXM:=Lib.hid hxM
      clear hq1 hq2 hsrc hfr hbk hx hy hxM q1
      go_wp2
      refine wp_region_quiet_tail 27 (by kernel_rfl) (by kernel_rfl) ?_
      simp only [List.take_succ_cons,List.take_zero,List.drop_succ_cons,List.drop_zero]
      repeat (go_big_quiet_step (fail))
      refine wpQuiet_nil ?_
      intro _ ⟨nq,hw'⟩
      subst hw'
      go_wp2
      go_roundw
      case rel=>
       obtain ⟨h1,h2,h3⟩:=NXQ.out (x|||y) nq HXM.out
       exact ⟨p+1,by omega,by go_num,h1,h2,h3⟩
      case measure=>(simp [intOf];try omega)
  ·have d5:decide ((64:Int)<=(pad:Int)+(sh:Int))=false:=by simp;omega
   go_enter Tryz.func58,Tryz.ntmps58
   go_wp2_with (first|(go_at_call 103;refine (panicIfNull_c _ _).mono ?_;rintro e w' ⟨rfl,rfl⟩)|(go_at_call 104;refine (HT.out _ rfl).mono ?_;rintro e w' ⟨rfl,rfl⟩)|(go_at_call 102;refine (HWN.out _).mono ?_;rintro e w' ⟨rfl,rfl⟩))
   have base:(w'.setCell ⟨b,0,none⟩ (.int .u64 ((tp:Int)+(nb:Int)+1))).heap[b]? =some (.cells #[.int .u64 ((tp:Int)+(nb:Int)+1),.slice (some ⟨s,0,none⟩) n c] 75 (0,0))/\Fr (fun r=>r=b\/r=s) w' (w'.setCell ⟨b,0,none⟩ (.int .u64 ((tp:Int)+(nb:Int)+1)))/\(w'.setCell ⟨b,0,none⟩ (.int .u64 ((tp:Int)+(nb:Int)+1))).rowIs s 29 c (fun i=>WV (g i))/\(w'.setCell ⟨b,0,none⟩ (.int .u64 ((tp:Int)+(nb:Int)+1))).rowIs s 29 c (fun i=>WV (g i)):=
    ⟨hp_upd0 _ HB.out,(Fr.refl _ _).setCell (a:=⟨b,0,none⟩) (.inl (.inl rfl)) _,HROW.out.setOther (a:=⟨b,0,none⟩) hsb _,HROW.out.setOther (a:=⟨b,0,none⟩) hsb _⟩
   generalize w'.setCell ⟨b,0,none⟩ (.int .u64 ((tp:Int)+(nb:Int)+1))=w0 at*
   obtain ⟨hb1,hf1,hs1,hd1⟩:=base
   have HB0:=Lib.hid hb1;have HF0:=Lib.hid hf1;have HS0:=Lib.hid hs1;have HD0:=Lib.hid hd1
   have hsrc:∀j,j<I+1->w0.cell? ⟨s,j,none⟩=some (WV (pk m j)):=fun j hj=>by rw [<- HG.out j (by omega)];exact hs1.cell (by omega)
   have hq1:w0.rowIs s 29 c (fun i=>WV (g i))/\∀j,I+1+P<=j->j<n->g j=pk M j:=⟨hd1,fun j h1 h2=>by
    rcases Nat.lt_or_ge (I+1+P) j with h|h
    ·rw [HHI.out j (by have:=HNB.out;have:=HTP.out;omega)];exact (by rw [HG.out j (by omega)];exact HMZ.out j (by omega))
    ·rw [show j=I+1+P by omega,HUP.out,HMZ.out (I+1) (by omega),HIH.out (by omega)]
     rw [show I+1+P=j by omega]
     refine ((by rw [HG.out j (by omega)];exact HMZ.out j (by omega)):g j=0).trans ?_
     simp⟩
   have HB1:=HB0;have HF1:=HF0;have HSRC:=Lib.hid hsrc;have HQ1:=Lib.hid hq1
   clear hb1 hf1 hs1 hd1 hsrc hq1 h0 h1 f0 f1
   go_loopw [12] (fun t wr=>∃k:Nat,k<=I+1/\t= .int .i64 ((k:Int)-1)/\(∃q:Nat->BitVec 64,wr.rowIs s 29 c (fun i=>WV (q i))/\∀j,k+P<=j->j<n->q j=pk M j)/\(∀j,j<k->wr.cell? ⟨s,j,none⟩=some (WV (pk m j)))/\Fr (· =s) w0 wr) (fun t _=>(intOf t+1).toNat)
   case atStart=>exact ⟨I+1,Nat.le_refl _,by first|rfl|go_num,⟨_,HQ1.out.1,HQ1.out.2⟩,HSRC.out,Fr.refl _ _⟩
   case round=>
    obtain ⟨k,hk,rfl,⟨q,hq1,hq2⟩,hsrc,hfr⟩:=hrel
    have hbk:=(hfr.keep b (hp_lt HB1.out) (fun e=>hsb e.symm)).trans HB1.out
    have g1:=hp_cell hbk 1 (v:= .slice (some ⟨s,0,none⟩) n c) rfl
    have HQA:=Lib.hid hq1;have HQB:=Lib.hid hq2;have HS:=Lib.hid hsrc;have HF:=Lib.hid hfr;have HBK:=Lib.hid hbk
    rcases Nat.eq_zero_or_pos k with hk0|hk0
    ·subst hk0
     have d1:decide ((0:Int)<=((0:Nat):Int)-1)=false:=by simp
     clear hq1 hq2 hsrc hfr hbk
     go_wp2
     clear d1 g1
     go_loopw [13] (fun t wz=>∃k:Nat,k<=P/\t= .int .i64 (k:Int)/\(∃q:Nat->BitVec 64,wz.rowIs s 29 c (fun i=>WV (q i))/\(∀j,P<=j->j<n->q j=pk M j)/\∀j,j<k->q j=pk M j)/\Fr (· =s) w0 wz) (fun t _=>P-(intOf t).toNat)
     case atStart=>exact ⟨0,Nat.zero_le _,rfl,⟨_,HQA.out,fun j h1 h2=>HQB.out j (by omega) h2,fun j hj=>absurd hj (by omega)⟩,HF.out⟩
     case round=>
      obtain ⟨k,hk,rfl,⟨q,hq1,hq2,hq3⟩,hfr⟩:=hrel
      have hbk:=(hfr.keep b (hp_lt HB1.out) (fun e=>hsb e.symm)).trans HB1.out
      have HZA:=Lib.hid hq1;have HZB:=Lib.hid hq2;have HZC:=Lib.hid hq3;have HZF:=Lib.hid hfr;have HZK:=Lib.hid hbk
      by_cases hlt:k<P
      ·have cd:=hq1.cell (i:=k) (by omega)
       have fd:=hq1.frozen k
       have hkn:k<n:=by omega
       clear hq1 hq2 hq3 hfr hbk
       go_wp2
       go_roundw
       case rel=>
        refine ⟨k+1,by omega,by go_num,⟨fun j=>if j=k then 0 else q j,(HZA.out.set k (WV 0)).congr (fun j _=>by by_cases e:j=k <;> simp [e]),fun j h1 h2=>?_,fun j hj=>?_⟩,HZF.out.setCell (.inl rfl) _⟩
        ·show (if j=k then 0 else q j)=_
         rw [if_neg (by omega)];exact HZB.out j h1 h2
        ·show (if j=k then 0 else q j)=_
         by_cases e:j=k
         ·rw [if_pos e,HLO.out j (by omega)]
         ·rw [if_neg e];exact HZC.out j (by omega)
       case measure=>(simp [intOf];try omega)
      ·have hkP:k=P:=by omega
       subst hkP
       have fb:=hp_free hbk 1
       have g1:=hp_cell hbk 1 (v:= .slice (some ⟨s,0,none⟩) n c) rfl
       clear hq1 hq2 hq3 hfr hbk
       go_wp2
       go_end0
       refine ⟨rfl,s,c,q,⟨hsb,by rw [LNWx.out];exact hnc,hcm,by omega,?_,HZA.out.setOther (a:=⟨b,1,none⟩) hsb _⟩,fun j hj=>?_,?_,.inl rfl⟩
       ·rw [LNWx.out,LMAXx.out];exact hp_upd1 _ HZK.out
       ·rw [LNWx.out]at hj
        rcases Nat.lt_or_ge j k with h|h
        ·exact HZC.out j h
        ·exact HZB.out j h hj
       ·exact (HF1.out.trans' HZF.out (fun r hr=> .inl (.inr hr))).setCell (a:=⟨b,1,none⟩) (.inl (.inl rfl)) _
    ·obtain ⟨k',rfl⟩:∃k',k=k'+1:=⟨k-1,by omega⟩
     have q1:(((k'+1:Nat):Int)-1)=(k':Int):=by omega
     rw [q1]
     have ck:=hsrc k' (by omega)
     have hkn:k'<n:=by omega
     have cd:=hq1.cell (i:=k'+P) (by omega)
     have fd:=hq1.frozen (k'+P)
     have b3:((k':Int)+(P:Int)).toNat=k'+P:=by omega
     have b1:(0:Int)<=(k':Int)+(P:Int)/\(k':Int)+(P:Int)<n:=by omega
     have nxt:∀x,x=pk M (k'+P)->(∃q:Nat->BitVec 64,(wr.setCell ⟨s,k'+P,none⟩ (WV x)).rowIs s 29 c (fun i=>WV (q i))/\∀j,k'+P<=j->j<n->q j=pk M j)/\(∀j,j<k'->(wr.setCell ⟨s,k'+P,none⟩ (WV x)).cell? ⟨s,j,none⟩=some (WV (pk m j)))/\Fr (· =s) w0 (wr.setCell ⟨s,k'+P,none⟩ (WV x)):=by
      intro x hx
      refine ⟨⟨fun j=>if j=k'+P then x else q j,(HQA.out.set (k'+P) (WV x)).congr (fun j _=>by by_cases e:j=k'+P <;> simp [e]),fun j h1 h2=>?_⟩,fun j hj=>?_,HF.out.setCell (.inl rfl) _⟩
      ·show (if j=k'+P then x else q j)=_
       by_cases e:j=k'+P
       ·rw [if_pos e,hx,e]
       ·rw [if_neg e];exact HQB.out j (by omega) h2
      ·rw [cell_setCell_ne _ _ _ _ _ _ (fun e=>by have h9:=congrArg Addr.off e;simp at h9;omega)];exact HS.out j (by omega)
     have nxtq:∀x nq,x=pk M (k'+P)->(∃q:Nat->BitVec 64,((wr.drewN nq).setCell ⟨s,k'+P,none⟩ (WV x)).rowIs s 29 c (fun i=>WV (q i))/\∀j,k'+P<=j->j<n->q j=pk M j)/\(∀j,j<k'->((wr.drewN nq).setCell ⟨s,k'+P,none⟩ (WV x)).cell? ⟨s,j,none⟩=some (WV (pk m j)))/\Fr (· =s) w0 ((wr.drewN nq).setCell ⟨s,k'+P,none⟩ (WV x)):=by
      intro x nq hx
      obtain ⟨⟨q',h1,h2⟩,h3,h4⟩:=nxt x hx
      exact ⟨⟨q',h1,h2⟩,h3,(HF.out.drewN nq).setCell (.inl rfl) _⟩
     have NX:=Lib.hid nxt;have NXQ:=Lib.hid nxtq;clear nxt nxtq
     rcases Nat.eq_zero_or_pos k' with hk1|hk1
     ·subst hk1
      obtain ⟨x,hx⟩:∃x,x=pk m 0<<<sh:=⟨_,rfl⟩
      have e1:IntKind.u64.wrap (wn (pk m 0)*(2:Int)^sh)=wn x:=by rw [hx];exact wn_shl _ _
      have hxM:x=pk M (0+P):=by rw [hx,Nat.zero_add,HUP0.out]
      have HXM:=Lib.hid hxM
      have b4:(P:Int)<n:=by omega
      have b5:P<n:=by omega
      rw [Nat.zero_add]at cd fd
      clear hq1 hq2 hsrc hfr hbk hx hxM q1
      go_wp2
      go_roundw
      case rel=>
       obtain ⟨h1,h2,h3⟩:=NX.out x HXM.out
       rw [Nat.zero_add]at h1 h2 h3
       exact ⟨0,by omega,by first|rfl|go_num,(by rw [Nat.zero_add];exact h1),h2,h3⟩
      case measure=>(simp [intOf];try omega)
     ·obtain ⟨p,rfl⟩:∃p,k'=p+1:=⟨k'-1,by omega⟩
      have cp:=hsrc p (by omega)
      have b6:(((p+1:Nat):Int)-1)=(p:Int):=by omega
      have b7:(0:Int)<((p+1:Nat):Int):=by omega
      have hpn:p<n:=by omega
      obtain ⟨x,hx⟩:∃x,x=pk m (p+1)<<<sh:=⟨_,rfl⟩
      obtain ⟨y,hy⟩:∃x,x=pk m p>>>(64-sh):=⟨_,rfl⟩
      have e1:IntKind.u64.wrap (wn (pk m (p+1))*(2:Int)^sh)=wn x:=by rw [hx];exact wn_shl _ _
      have e2:wn (pk m p)/(2:Int)^(64-sh)=wn y:=by rw [hy];exact wn_shr _ _
      have e3:bits .or .u64 (wn x) (wn y)=wn (x|||y):=wn_or _ _
      have hxM:x|||y=pk M (p+1+P):=by rw [hx,hy,HUP.out]
      have HXM:=Lib.hid hxM
      clear hq1 hq2 hsrc hfr hbk hx hy hxM q1
      go_wp2
      refine wp_region_quiet_tail 27 (by kernel_rfl) (by kernel_rfl) ?_
      simp only [List.take_succ_cons,List.take_zero,List.drop_succ_cons,List.drop_zero]
      repeat (go_big_quiet_step (fail))
      refine wpQuiet_nil ?_
      intro _ ⟨nq,hw'⟩
      subst hw'
      go_wp2
      go_roundw
      case rel=>
       obtain ⟨h1,h2,h3⟩:=NXQ.out (x|||y) nq HXM.out
       exact ⟨p+1,by omega,by go_num,h1,h2,h3⟩
      case measure=>(simp [intOf];try omega)
end Go.Proofs.YtobdfhlmipcjbaaGreatDoor
