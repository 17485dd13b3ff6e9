/- The numbers moved up into a new row: ShiftLeft. Conditions: what is made stays below 50,000. writeUint64Array into a bytes.Buffer, in one piece. Conditions: fewer than 128 words. -/
import Derived.Lib.LazyBuf
import Derived.Test.YtobdfhlmipcjbaaGreatDoorG05
import Derived.Test.YtobdfhlmipcjbaaGreatDoorG29
import Derived.Test.YtobdfhlmipcjbaaGreatDoorG30
set_option linter.unusedVariables false
set_option linter.unusedSimpArgs false
set_option maxHeartbeats 16000000
set_option maxRecDepth 100000
namespace Go.Proofs.YtobdfhlmipcjbaaGreatDoor
open Go.RowKit Pop
theorem shiftLeft_b(b s L c nb tp:Nat)(g:Nat->BitVec 64)(m:Nat->Bool)(w:World)(r:RS w b s L c g)(hg:∀i,i<nw L->g i=pk m i)(hnb:0<nb)(hlim:tp+nb<50000)(hL:tp<L)(hA:nw L<nw (tp+nb+1))
  (htop:∀w',w'=w->Calls Tryz.prog 104 #[.pointer (some ⟨b,0,none⟩)] w' fun e w''=>e= .returned (.tuple #[.int .u64 (tp:Int),.bool true])/\w''=w') (hz:∀j,tp<j->m j=false):
  Calls Tryz.prog 58 #[.pointer (some ⟨b,0,none⟩),.int .u64 (nb:Int)] w (UpPost w b s L c nb tp m):=by
 have hl:=r.hl
 have hIn:tp/64<nw L:=by unfold nw;omega
 have h0:=r.h0
 have h1:=r.h1
 have f0:=hp_free r.hb 0
 have f1:=hp_free r.hb 1
 obtain ⟨n,hn⟩:∃n,n=nw L:=⟨_,rfl⟩
 have hn1000:n<=1000:=by rw [hn];exact nw_bound hl
 have hnc:n<=c:=by rw [hn];exact r.hn
 have hb:=r.hb
 rw [<- hn]at hg hIn h1 hb
 have hrow:=r.hs
 have hsb:=r.ne
 have hcm:=r.hc
 obtain ⟨ns,hns⟩:∃ns,ns=nw (tp+nb+1):=⟨_,rfl⟩
 obtain ⟨I,hI⟩:∃I,tp/64=I:=⟨_,rfl⟩
 obtain ⟨pad,hpad⟩:∃I,tp%64=I:=⟨_,rfl⟩
 obtain ⟨P,hP⟩:∃I,nb/64=I:=⟨_,rfl⟩
 obtain ⟨sh,hsh⟩:∃I,nb%64=I:=⟨_,rfl⟩
 have hIn2:I<n:=by omega
 have hIb:I<=1000:=by omega
 have hPb:P<=1000:=by omega
 have hpadb:pad<64:=by omega
 have hshb:sh<64:=by omega
 have hnbe:nb=64*P+sh:=by omega
 have htpe:tp=64*I+pad:=by omega
 have hnsI:I+P<ns:=by rw [hns];unfold nw;omega
 have hnsb:ns<=1000:=by rw [hns];unfold nw;omega
 have a1:(tp:Int)/64=(I:Int):=by omega
 have a2:(tp:Int)%64=(pad:Int):=by omega
 have a3:(tp:Int).tmod 64=(pad:Int):=by rw [Int.tmod_eq_emod_of_nonneg (by omega)];exact a2
 have a4:(nb:Int)/64=(P:Int):=by omega
 have a5:(nb:Int)%64=(sh:Int):=by omega
 have a6:(nb:Int).tmod 64=(sh:Int):=by rw [Int.tmod_eq_emod_of_nonneg (by omega)];exact a5
 have n0:¬(nb:Int)=0:=by omega
 have n1:¬(tp:Int)+(nb:Int)<(nb:Int):=by omega
 have hwn:∀w,Calls Tryz.prog 102 #[.int .u64 ((tp:Int)+(nb:Int)+1)] w fun e w'=>e= .returned (.int .i64 (ns:Int))/\w'=w:=fun w=>by
  have h:=wordsNeeded_i ((tp:Int)+(nb:Int)+1) w (by omega) (by omega)
  rwa [show ((tp:Int)+(nb:Int)+1+63)/64=(ns:Int) by rw [hns];unfold nw;omega]at h
 have hup:=fun q=>pk_up m nb q P sh hnbe hshb
 have hup0:=pk_up0 m nb P sh hnbe hshb
 have hlow:=fun j=>pk_up_low m nb P j (by omega)
 have hhigh:=pk_up_high hz nb
 have hmz:=fun q (hq:I<q)=>pk_zero_above (m:=m) (t:=tp) (q:=q) hz (by omega)
 have hIhi:pad+sh<64->pk m I>>>(64-sh)=0:=fun hps=>by
  apply BitVec.eq_of_getLsbD_eq
  intro j hj
  rw [BitVec.getLsbD_ushiftRight,getLsbD_pk,hz (64*I+(64-sh+j)) (by omega)]
  simp
 obtain ⟨M,hM⟩:∃M,M=up m nb:=⟨_,rfl⟩
 unfold UpPost
 rw [<- hM]at hup hup0 hlow hhigh ⊢
 have HR:=Lib.hid r;have HG:=Lib.hid hg;have HT:=Lib.hid htop;have HN:=Lib.hid hn;have HNS:=Lib.hid hns;have HUP:=Lib.hid hup;have HUP0:=Lib.hid hup0;have HLO:=Lib.hid hlow;have HHI:=Lib.hid hhigh;have HMZ:=Lib.hid hmz;have HIH:=Lib.hid hIhi;have HWN:=Lib.hid hwn;have HNB:=Lib.hid hnbe;have HTP:=Lib.hid htpe;have HB:=Lib.hid hb;have HROW:=Lib.hid hrow
 clear r hg htop hn hns hup hup0 hlow hhigh hmz hIhi hwn hnbe htpe hM hb hrow hz hI hpad hP hsh hIn
 have hns':n<ns:=by rw [HNS.out,HN.out];exact hA
 have d2:decide (n<ns)=true:=by simp;omega
 have hLt:L<=tp+nb:=by have:=HNS.out;have:=HN.out;unfold nw at *;omega
 have d3:decide ((L:Int)<=(tp:Int)+(nb:Int))=true:=by simp;omega
 have LNWx:nw (max L (tp+nb+1))=ns:=by rw [Nat.max_eq_right (by omega)];exact HNS.out.symm
 have LMAXx:max L (tp+nb+1)=tp+nb+1:=Nat.max_eq_right (by omega)
 have LNWx:=Lib.hid LNWx;have LMAXx:=Lib.hid LMAXx
 have hmk:=make33 (ns:Int) (ns:Int) (by omega) (by omega) (by omega)
 rw [Int.toNat_natCast]at hmk
 have nb1:¬b=w.heap.size:=by have:=hp_lt HB.out;omega
 have ns1:¬s=w.heap.size:=by have:=HROW.out.lt;omega
 have hba:(w.alloc (.cells (madeCells #[.int .u64 0] ns) 29)).heap[b]? =some (.cells #[.int .u64 (L:Int),.slice (some ⟨s,0,none⟩) n c] 75 (0,0)):=(hp_alloc w _ (hp_lt HB.out)).trans HB.out
 have h0a:=hp_cell hba 0 (v:= .int .u64 (L:Int)) rfl
 have h1a:=hp_cell hba 1 (v:= .slice (some ⟨s,0,none⟩) n c) rfl
 have f0a:=hp_free hba 0
 clear hA hba
 by_cases hs0:sh=0
 ·subst hs0
  have hns2:ns=I+P+1:=by have:=HNS.out;have:=HNB.out;have:=HTP.out;unfold nw at *;omega
  have z1:(0:Int)<=(P:Int)/\(P:Int)<=ns:=by omega
  have z2:(ns:Int)<=ns:=by omega
  have z3:P<=ns:=by omega
  have HNS2:=Lib.hid hns2;clear hns2
  go_enter Tryz.func58,Tryz.ntmps58
  go_wp2_with (first|(go_at_call 103;refine (panicIfNull_c _ _).mono ?_;rintro e w' ⟨rfl,rfl⟩)|(go_at_call 104;refine (HT.out _ rfl).mono ?_;rintro e w' ⟨rfl,rfl⟩)|(go_at_call 102;refine (HWN.out _).mono ?_;rintro e w' ⟨rfl,rfl⟩))
  have base:((w'.alloc (.cells (madeCells #[.int .u64 0] ns) 29)).setCell ⟨b,0,none⟩ (.int .u64 ((tp:Int)+(nb:Int)+1))).heap[b]? =some (.cells #[.int .u64 ((tp:Int)+(nb:Int)+1),.slice (some ⟨s,0,none⟩) n c] 75 (0,0))/\Fr (fun r=>r=b\/r=s) w' ((w'.alloc (.cells (madeCells #[.int .u64 0] ns) 29)).setCell ⟨b,0,none⟩ (.int .u64 ((tp:Int)+(nb:Int)+1)))/\((w'.alloc (.cells (madeCells #[.int .u64 0] ns) 29)).setCell ⟨b,0,none⟩ (.int .u64 ((tp:Int)+(nb:Int)+1))).rowIs s 29 c (fun i=>WV (g i))/\((w'.alloc (.cells (madeCells #[.int .u64 0] ns) 29)).setCell ⟨b,0,none⟩ (.int .u64 ((tp:Int)+(nb:Int)+1))).rowIs w'.heap.size 29 ns (fun i=>WV ((fun _=>(0:BitVec 64)) i)):=
   ⟨hp_upd0 _ ((hp_alloc w' _ (hp_lt HB.out)).trans HB.out),((Fr.refl _ _).alloc _).setCell (a:=⟨b,0,none⟩) (.inl (.inl rfl)) _,(HROW.out.alloc _).setOther (a:=⟨b,0,none⟩) hsb _,(row_made w' ns).setOther (a:=⟨b,0,none⟩) (show w'.heap.size≠b from fun e=>by have:=hp_lt HB.out;omega) _⟩
  generalize ((w'.alloc (.cells (madeCells #[.int .u64 0] ns) 29)).setCell ⟨b,0,none⟩ (.int .u64 ((tp:Int)+(nb:Int)+1)))=w0 at*
  obtain ⟨hb1,hf1,hs1,hd1⟩:=base
  have HB0:=Lib.hid hb1;have HF0:=Lib.hid hf1;have HS0:=Lib.hid hs1;have HD0:=Lib.hid hd1
  have HB1:=HB0;have HF1:=HF0
  refine wp_region_quiet_tail 8 (by kernel_rfl) (by kernel_rfl) ?_
  have g1:=hp_cell hb1 1 (v:= .slice (some ⟨s,0,none⟩) n c) rfl
  clear hb1 hf1 hs1 hd1
  simp only [List.take_succ_cons,List.take_zero,List.drop_succ_cons,List.drop_zero]
  repeat (go_big_quiet_step (fail))
  refine wpQuiet_nil ?_
  intro _ ⟨nq,hw'⟩
  subst hw'
  obtain ⟨w9,hcp,hrow9,hfr9⟩:=copy33 (w0.drewN nq) 3 w'.heap.size P s 0 (ns-P) (ns-P) n c ns c (I+1) (fun _=>(0:BitVec 64)) g HD0.out HS0.out (by have:=HNS2.out;show I+1=min _ _;omega) (by have:=HNS2.out;omega) (by omega)
  have hF9:Fr (· =w'.heap.size) w0 w9:=((Fr.refl (· =w'.heap.size) w0).drewN nq).trans hfr9
  have hqb:∀j,0+P<=j->j<ns->(fun i=>if P<=i/\i<P+(I+1) then g (0+(i-P)) else (fun _=>(0:BitVec 64)) i) j=pk M j:=fun j h1 h2=>by
   show (if P<=j/\j<P+(I+1) then g (0+(j-P)) else (fun _=>(0:BitVec 64)) j)=_
   by_cases e:j<P+(I+1)
   ·rw [if_pos ⟨by omega,e⟩,Nat.zero_add,HG.out _ (by omega)]
    rcases Nat.eq_or_lt_of_le (show P<=j by omega) with e2|e2
    ·subst e2;rw [HUP0.out,Nat.sub_self];simp
    ·obtain ⟨q,rfl⟩:∃q,j=q+1+P:=⟨j-1-P,by omega⟩
     rw [HUP.out,show q+1+P-P=q+1 by omega,shr64];simp
   ·rw [if_neg (by omega),HHI.out j (by have:=HNB.out;have:=HTP.out;omega)]
    all_goals exact rfl
  have HQA:=Lib.hid hrow9;have HQB:=Lib.hid hqb;have HF:=Lib.hid hF9
  clear hrow9 hfr9 hqb hF9 z1 z2 z3
  go_wp2
  clear hcp g1
  go_loopw [13] (fun t wz=>∃k:Nat,k<=P/\t= .int .i64 (k:Int)/\(∃q:Nat->BitVec 64,wz.rowIs w'.heap.size 29 ns (fun i=>WV (q i))/\(∀j,P<=j->j<ns->q j=pk M j)/\∀j,j<k->q j=pk M j)/\Fr (· =w'.heap.size) w0 wz) (fun t _=>P-(intOf t).toNat)
  case atStart=>exact ⟨0,Nat.zero_le _,rfl,⟨_,HQA.out,fun j h1 h2=>HQB.out j (by omega) h2,fun j hj=>absurd hj (by omega)⟩,HF.out⟩
  case round=>
   obtain ⟨k,hk,rfl,⟨q,hq1,hq2,hq3⟩,hfr⟩:=hrel
   have hbk:=(hfr.keep b (hp_lt HB1.out) (fun e=>(show w'.heap.size≠b from fun e=>by have:=hp_lt HB.out;omega) e.symm)).trans HB1.out
   have HZA:=Lib.hid hq1;have HZB:=Lib.hid hq2;have HZC:=Lib.hid hq3;have HZF:=Lib.hid hfr;have HZK:=Lib.hid hbk
   by_cases hlt:k<P
   ·have cd:=hq1.cell (i:=k) (by omega)
    have fd:=hq1.frozen k
    have hkn:k<ns:=by omega
    clear hq1 hq2 hq3 hfr hbk
    go_wp2
    go_roundw
    case rel=>
     refine ⟨k+1,by omega,by go_num,⟨fun j=>if j=k then 0 else q j,(HZA.out.set k (WV 0)).congr (fun j _=>by by_cases e:j=k <;> simp [e]),fun j h1 h2=>?_,fun j hj=>?_⟩,HZF.out.setCell (.inl rfl) _⟩
     ·show (if j=k then 0 else q j)=_
      rw [if_neg (by omega)];exact HZB.out j h1 h2
     ·show (if j=k then 0 else q j)=_
      by_cases e:j=k
      ·rw [if_pos e,HLO.out j (by omega)]
      ·rw [if_neg e];exact HZC.out j (by omega)
    case measure=>(simp [intOf];try omega)
   ·have hkP:k=P:=by omega
    subst hkP
    have fb:=hp_free hbk 1
    have g1:=hp_cell hbk 1 (v:= .slice (some ⟨s,0,none⟩) n c) rfl
    clear hq1 hq2 hq3 hfr hbk
    go_wp2
    go_end0
    refine ⟨rfl,w'.heap.size,ns,q,⟨(show w'.heap.size≠b from fun e=>by have:=hp_lt HB.out;omega),by rw [LNWx.out];exact Nat.le_refl _,by omega,by omega,?_,HZA.out.setOther (a:=⟨b,1,none⟩) (show w'.heap.size≠b from fun e=>by have:=hp_lt HB.out;omega) _⟩,fun j hj=>?_,?_,.inr (Nat.le_refl _)⟩
    ·rw [LNWx.out,LMAXx.out];exact hp_upd1 _ HZK.out
    ·rw [LNWx.out]at hj
     rcases Nat.lt_or_ge j k with h|h
     ·exact HZC.out j h
     ·exact HZB.out j h hj
    ·exact (HF1.out.trans' HZF.out (fun r hr=> .inr (Nat.le_of_eq hr.symm))).setCell (a:=⟨b,1,none⟩) (.inl (.inl rfl)) _
 ·have s0:((sh:Int)==0)=false:=by simp;omega
  have s1:¬(sh:Int)=0:=by omega
  have j1:((64:Int)-(sh:Int)).toNat=64-sh:=by omega
  have j2:(0:Int)<=(64:Int)-(sh:Int)/\(64:Int)-(sh:Int)<=64:=by omega
  by_cases hps:64<=pad+sh
  ·have d5:decide ((64:Int)<=(pad:Int)+(sh:Int))=true:=by simp;omega
   have hpn:I+P+1<ns:=by have:=HNS.out;have:=HNB.out;have:=HTP.out;unfold nw at *;omega
   obtain ⟨x,hx⟩:∃x,x=pk m I>>>(64-sh):=⟨_,rfl⟩
   have e2:wn (pk m I)/(2:Int)^(64-sh)=wn x:=by rw [hx];exact wn_shr _ _
   have b3:((I:Int)+(P:Int)+1).toNat=I+P+1:=by omega
   have b1:(0:Int)<=(I:Int)+(P:Int)+1/\(I:Int)+(P:Int)+1<ns:=by omega
   have ck:w.cell? ⟨s,I,none⟩=some (WV (pk m I)):=by rw [<- HG.out I hIn2];exact HROW.out.cell (by omega)
   have ckE:((w.alloc (.cells (madeCells #[.int .u64 0] ns) 29)).setCell ⟨b,0,none⟩ (.int .u64 ((tp:Int)+(nb:Int)+1))).cell? ⟨s,I,none⟩=some (WV (pk m I)):=by rw [<- HG.out I hIn2];exact ((HROW.out.alloc _).setOther (a:=⟨b,0,none⟩) hsb _).cell (by omega)
   have cd:((w.alloc (.cells (madeCells #[.int .u64 0] ns) 29)).setCell ⟨b,0,none⟩ (.int .u64 ((tp:Int)+(nb:Int)+1))).cell? ⟨w.heap.size,I+P+1,none⟩=some (WV 0):=((row_made w ns).setOther (a:=⟨b,0,none⟩) (fun e=>nb1 e.symm) _).cell (by omega)
   have fd:((w.alloc (.cells (madeCells #[.int .u64 0] ns) 29)).setCell ⟨b,0,none⟩ (.int .u64 ((tp:Int)+(nb:Int)+1))).frozen? ⟨w.heap.size,I+P+1,none⟩=false:=((row_made w ns).setOther (a:=⟨b,0,none⟩) (fun e=>nb1 e.symm) _).frozen _
   have hxM:x=pk M (I+1+P):=by rw [HUP.out,HMZ.out (I+1) (by omega),hx];simp
   have HXM:=Lib.hid hxM
   clear hx hxM
   go_enter Tryz.func58,Tryz.ntmps58
   go_wp2_with (first|(go_at_call 103;refine (panicIfNull_c _ _).mono ?_;rintro e w' ⟨rfl,rfl⟩)|(go_at_call 104;refine (HT.out _ rfl).mono ?_;rintro e w' ⟨rfl,rfl⟩)|(go_at_call 102;refine (HWN.out _).mono ?_;rintro e w' ⟨rfl,rfl⟩))
   have base:((w'.alloc (.cells (madeCells #[.int .u64 0] ns) 29)).setCell ⟨b,0,none⟩ (.int .u64 ((tp:Int)+(nb:Int)+1))).heap[b]? =some (.cells #[.int .u64 ((tp:Int)+(nb:Int)+1),.slice (some ⟨s,0,none⟩) n c] 75 (0,0))/\Fr (fun r=>r=b\/r=s) w' ((w'.alloc (.cells (madeCells #[.int .u64 0] ns) 29)).setCell ⟨b,0,none⟩ (.int .u64 ((tp:Int)+(nb:Int)+1)))/\((w'.alloc (.cells (madeCells #[.int .u64 0] ns) 29)).setCell ⟨b,0,none⟩ (.int .u64 ((tp:Int)+(nb:Int)+1))).rowIs s 29 c (fun i=>WV (g i))/\((w'.alloc (.cells (madeCells #[.int .u64 0] ns) 29)).setCell ⟨b,0,none⟩ (.int .u64 ((tp:Int)+(nb:Int)+1))).rowIs w'.heap.size 29 ns (fun i=>WV ((fun _=>(0:BitVec 64)) i)):=
    ⟨hp_upd0 _ ((hp_alloc w' _ (hp_lt HB.out)).trans HB.out),((Fr.refl _ _).alloc _).setCell (a:=⟨b,0,none⟩) (.inl (.inl rfl)) _,(HROW.out.alloc _).setOther (a:=⟨b,0,none⟩) hsb _,(row_made w' ns).setOther (a:=⟨b,0,none⟩) (show w'.heap.size≠b from fun e=>by have:=hp_lt HB.out;omega) _⟩
   generalize ((w'.alloc (.cells (madeCells #[.int .u64 0] ns) 29)).setCell ⟨b,0,none⟩ (.int .u64 ((tp:Int)+(nb:Int)+1)))=w0 at*
   obtain ⟨hb1,hf1,hs1,hd1⟩:=base
   have HB0:=Lib.hid hb1;have HF0:=Lib.hid hf1;have HS0:=Lib.hid hs1;have HD0:=Lib.hid hd1
   have hW1:(w0.setCell ⟨w'.heap.size,I+P+1,none⟩ (WV x)).heap[b]? =some (.cells #[.int .u64 ((tp:Int)+(nb:Int)+1),.slice (some ⟨s,0,none⟩) n c] 75 (0,0))/\Fr (fun r=>r=b\/r=s) w' (w0.setCell ⟨w'.heap.size,I+P+1,none⟩ (WV x))/\(∀j,j<I+1->(w0.setCell ⟨w'.heap.size,I+P+1,none⟩ (WV x)).cell? ⟨s,j,none⟩=some (WV (pk m j)))/\((w0.setCell ⟨w'.heap.size,I+P+1,none⟩ (WV x)).rowIs w'.heap.size 29 ns (fun i=>WV ((fun j=>if j=I+P+1 then x else (fun _=>(0:BitVec 64)) j) i))/\∀j,I+1+P<=j->j<ns->(fun j=>if j=I+P+1 then x else (fun _=>(0:BitVec 64)) j) j=pk M j):=by
    refine ⟨(hp_other _ _ _ (fun e=>(show w'.heap.size≠b from fun e=>by have:=hp_lt HB.out;omega) e.symm)).trans HB0.out,HF0.out.setCell (a:=⟨w'.heap.size,I+P+1,none⟩) (.inr (Nat.le_refl _)) _,fun j hj=>?_,(HD0.out.set (I+P+1) (WV x)).congr (fun j _=>by by_cases e:j=I+P+1 <;> simp [e]),fun j h1 h2=>?_⟩
    ·have k':=I+1
     rw [cell_setCell_ne _ _ _ _ _ _ (fun e=>by have h9:=congrArg Addr.block e;simp at h9;have:=HROW.out.lt;omega),<- HG.out j (by omega)];exact HS0.out.cell (by omega)
    ·show (if j=I+P+1 then x else (fun _=>(0:BitVec 64)) j)=_
     by_cases e:j=I+P+1
     ·rw [if_pos e,HXM.out,e,show I+P+1=I+1+P by omega]
     ·rw [if_neg e,HHI.out j (by have:=HNB.out;have:=HTP.out;omega)]
      all_goals exact rfl
   clear hb1 hf1 hs1 hd1
   generalize w0.setCell ⟨w'.heap.size,I+P+1,none⟩ (WV x)=w1 at*
   have HB1:=Lib.hid hW1.1;have HF1:=Lib.hid hW1.2.1;have HSRC:=Lib.hid hW1.2.2.1;have HQ1:=Lib.hid hW1.2.2.2
   clear hW1 h0 h1 f0 f1 e2 b3 b1 ck ckE cd fd h0a h1a f0a
   go_loopw [12] (fun t wr=>∃k:Nat,k<=I+1/\t= .int .i64 ((k:Int)-1)/\(∃q:Nat->BitVec 64,wr.rowIs w'.heap.size 29 ns (fun i=>WV (q i))/\∀j,k+P<=j->j<ns->q j=pk M j)/\(∀j,j<k->wr.cell? ⟨s,j,none⟩=some (WV (pk m j)))/\Fr (· =w'.heap.size) w1 wr) (fun t _=>(intOf t+1).toNat)
   case atStart=>exact ⟨I+1,Nat.le_refl _,by first|rfl|go_num,⟨_,HQ1.out.1,HQ1.out.2⟩,HSRC.out,Fr.refl _ _⟩
   case round=>
    obtain ⟨k,hk,rfl,⟨q,hq1,hq2⟩,hsrc,hfr⟩:=hrel
    have hbk:=(hfr.keep b (hp_lt HB1.out) (fun e=>(show w'.heap.size≠b from fun e=>by have:=hp_lt HB.out;omega) e.symm)).trans HB1.out
    have g1:=hp_cell hbk 1 (v:= .slice (some ⟨s,0,none⟩) n c) rfl
    have HQA:=Lib.hid hq1;have HQB:=Lib.hid hq2;have HS:=Lib.hid hsrc;have HF:=Lib.hid hfr;have HBK:=Lib.hid hbk
    rcases Nat.eq_zero_or_pos k with hk0|hk0
    ·subst hk0
     have d1:decide ((0:Int)<=((0:Nat):Int)-1)=false:=by simp
     clear hq1 hq2 hsrc hfr hbk
     go_wp2
     clear d1 g1
     go_loopw [13] (fun t wz=>∃k:Nat,k<=P/\t= .int .i64 (k:Int)/\(∃q:Nat->BitVec 64,wz.rowIs w'.heap.size 29 ns (fun i=>WV (q i))/\(∀j,P<=j->j<ns->q j=pk M j)/\∀j,j<k->q j=pk M j)/\Fr (· =w'.heap.size) w1 wz) (fun t _=>P-(intOf t).toNat)
     case atStart=>exact ⟨0,Nat.zero_le _,rfl,⟨_,HQA.out,fun j h1 h2=>HQB.out j (by omega) h2,fun j hj=>absurd hj (by omega)⟩,HF.out⟩
     case round=>
      obtain ⟨k,hk,rfl,⟨q,hq1,hq2,hq3⟩,hfr⟩:=hrel
      have hbk:=(hfr.keep b (hp_lt HB1.out) (fun e=>(show w'.heap.size≠b from fun e=>by have:=hp_lt HB.out;omega) e.symm)).trans HB1.out
      have HZA:=Lib.hid hq1;have HZB:=Lib.hid hq2;have HZC:=Lib.hid hq3;have HZF:=Lib.hid hfr;have HZK:=Lib.hid hbk
      by_cases hlt:k<P
      ·have cd:=hq1.cell (i:=k) (by omega)
       have fd:=hq1.frozen k
       have hkn:k<ns:=by omega
       clear hq1 hq2 hq3 hfr hbk
       go_wp2
       go_roundw
       case rel=>
        refine ⟨k+1,by omega,by go_num,⟨fun j=>if j=k then 0 else q j,(HZA.out.set k (WV 0)).congr (fun j _=>by by_cases e:j=k <;> simp [e]),fun j h1 h2=>?_,fun j hj=>?_⟩,HZF.out.setCell (.inl rfl) _⟩
        ·show (if j=k then 0 else q j)=_
         rw [if_neg (by omega)];exact HZB.out j h1 h2
        ·show (if j=k then 0 else q j)=_
         by_cases e:j=k
         ·rw [if_pos e,HLO.out j (by omega)]
         ·rw [if_neg e];exact HZC.out j (by omega)
       case measure=>(simp [intOf];try omega)
      ·have hkP:k=P:=by omega
       subst hkP
       have fb:=hp_free hbk 1
       have g1:=hp_cell hbk 1 (v:= .slice (some ⟨s,0,none⟩) n c) rfl
       clear hq1 hq2 hq3 hfr hbk
       go_wp2
       go_end0
       refine ⟨rfl,w'.heap.size,ns,q,⟨(show w'.heap.size≠b from fun e=>by have:=hp_lt HB.out;omega),by rw [LNWx.out];exact Nat.le_refl _,by omega,by omega,?_,HZA.out.setOther (a:=⟨b,1,none⟩) (show w'.heap.size≠b from fun e=>by have:=hp_lt HB.out;omega) _⟩,fun j hj=>?_,?_,.inr (Nat.le_refl _)⟩
       ·rw [LNWx.out,LMAXx.out];exact hp_upd1 _ HZK.out
       ·rw [LNWx.out]at hj
        rcases Nat.lt_or_ge j k with h|h
        ·exact HZC.out j h
        ·exact HZB.out j h hj
       ·exact (HF1.out.trans' HZF.out (fun r hr=> .inr (Nat.le_of_eq hr.symm))).setCell (a:=⟨b,1,none⟩) (.inl (.inl rfl)) _
    ·obtain ⟨k',rfl⟩:∃k',k=k'+1:=⟨k-1,by omega⟩
     have q1:(((k'+1:Nat):Int)-1)=(k':Int):=by omega
     rw [q1]
     have ck:=hsrc k' (by omega)
     have hkn:k'<n:=by omega
     have cd:=hq1.cell (i:=k'+P) (by omega)
     have fd:=hq1.frozen (k'+P)
     have b3:((k':Int)+(P:Int)).toNat=k'+P:=by omega
     have b1:(0:Int)<=(k':Int)+(P:Int)/\(k':Int)+(P:Int)<ns:=by omega
     have nxt:∀x,x=pk M (k'+P)->(∃q:Nat->BitVec 64,(wr.setCell ⟨w'.heap.size,k'+P,none⟩ (WV x)).rowIs w'.heap.size 29 ns (fun i=>WV (q i))/\∀j,k'+P<=j->j<ns->q j=pk M j)/\(∀j,j<k'->(wr.setCell ⟨w'.heap.size,k'+P,none⟩ (WV x)).cell? ⟨s,j,none⟩=some (WV (pk m j)))/\Fr (· =w'.heap.size) w1 (wr.setCell ⟨w'.heap.size,k'+P,none⟩ (WV x)):=by
      intro x hx
      refine ⟨⟨fun j=>if j=k'+P then x else q j,(HQA.out.set (k'+P) (WV x)).congr (fun j _=>by by_cases e:j=k'+P <;> simp [e]),fun j h1 h2=>?_⟩,fun j hj=>?_,HF.out.setCell (.inl rfl) _⟩
      ·show (if j=k'+P then x else q j)=_
       by_cases e:j=k'+P
       ·rw [if_pos e,hx,e]
       ·rw [if_neg e];exact HQB.out j (by omega) h2
      ·rw [cell_setCell_ne _ _ _ _ _ _ (fun e=>by have h9:=congrArg Addr.block e;simp at h9;have:=HROW.out.lt;omega)];exact HS.out j (by omega)
     have nxtq:∀x nq,x=pk M (k'+P)->(∃q:Nat->BitVec 64,((wr.drewN nq).setCell ⟨w'.heap.size,k'+P,none⟩ (WV x)).rowIs w'.heap.size 29 ns (fun i=>WV (q i))/\∀j,k'+P<=j->j<ns->q j=pk M j)/\(∀j,j<k'->((wr.drewN nq).setCell ⟨w'.heap.size,k'+P,none⟩ (WV x)).cell? ⟨s,j,none⟩=some (WV (pk m j)))/\Fr (· =w'.heap.size) w1 ((wr.drewN nq).setCell ⟨w'.heap.size,k'+P,none⟩ (WV x)):=by
      intro x nq hx
      obtain ⟨⟨q',h1,h2⟩,h3,h4⟩:=nxt x hx
      exact ⟨⟨q',h1,h2⟩,h3,(HF.out.drewN nq).setCell (.inl rfl) _⟩
     have NX:=Lib.hid nxt;have NXQ:=Lib.hid nxtq;clear nxt nxtq
     rcases Nat.eq_zero_or_pos k' with hk1|hk1
     ·subst hk1
      obtain ⟨x,hx⟩:∃x,x=pk m 0<<<sh:=⟨_,rfl⟩
      have e1:IntKind.u64.wrap (wn (pk m 0)*(2:Int)^sh)=wn x:=by rw [hx];exact wn_shl _ _
      have hxM:x=pk M (0+P):=by rw [hx,Nat.zero_add,HUP0.out]
      have HXM:=Lib.hid hxM
      have b4:(P:Int)<ns:=by omega
      have b5:P<ns:=by omega
      rw [Nat.zero_add]at cd fd
      clear hq1 hq2 hsrc hfr hbk hx hxM q1
      go_wp2
      go_roundw
      case rel=>
       obtain ⟨h1,h2,h3⟩:=NX.out x HXM.out
       rw [Nat.zero_add]at h1 h2 h3
       exact ⟨0,by omega,by first|rfl|go_num,(by rw [Nat.zero_add];exact h1),h2,h3⟩
      case measure=>(simp [intOf];try omega)
     ·obtain ⟨p,rfl⟩:∃p,k'=p+1:=⟨k'-1,by omega⟩
      have cp:=hsrc p (by omega)
      have b6:(((p+1:Nat):Int)-1)=(p:Int):=by omega
      have b7:(0:Int)<((p+1:Nat):Int):=by omega
      have hpn:p<n:=by omega
      obtain ⟨x,hx⟩:∃x,x=pk m (p+1)<<<sh:=⟨_,rfl⟩
      obtain ⟨y,hy⟩:∃x,x=pk m p>>>(64-sh):=⟨_,rfl⟩
      have e1:IntKind.u64.wrap (wn (pk m (p+1))*(2:Int)^sh)=wn x:=by rw [hx];exact wn_shl _ _
      have e2:wn (pk m p)/(2:Int)^(64-sh)=wn y:=by rw [hy];exact wn_shr _ _
      have e3:bits .or .u64 (wn x) (wn y)=wn (x|||y):=wn_or _ _
      have hxM:x|||y=pk M (p+1+P):=by rw [hx,hy,HUP.out]
      have HXM:=Lib.hid hxM
      clear hq1 hq2 hsrc hfr hbk hx hy hxM q1
      go_wp2
      refine wp_region_quiet_tail 27 (by kernel_rfl) (by kernel_rfl) ?_
      simp only [List.take_succ_cons,List.take_zero,List.drop_succ_cons,List.drop_zero]
      repeat (go_big_quiet_step (fail))
      refine wpQuiet_nil ?_
      intro _ ⟨nq,hw'⟩
      subst hw'
      go_wp2
      go_roundw
      case rel=>
       obtain ⟨h1,h2,h3⟩:=NXQ.out (x|||y) nq HXM.out
       exact ⟨p+1,by omega,by go_num,h1,h2,h3⟩
      case measure=>(simp [intOf];try omega)
  ·have d5:decide ((64:Int)<=(pad:Int)+(sh:Int))=false:=by simp;omega
   go_enter Tryz.func58,Tryz.ntmps58
   go_wp2_with (first|(go_at_call 103;refine (panicIfNull_c _ _).mono ?_;rintro e w' ⟨rfl,rfl⟩)|(go_at_call 104;refine (HT.out _ rfl).mono ?_;rintro e w' ⟨rfl,rfl⟩)|(go_at_call 102;refine (HWN.out _).mono ?_;rintro e w' ⟨rfl,rfl⟩))
   have base:((w'.alloc (.cells (madeCells #[.int .u64 0] ns) 29)).setCell ⟨b,0,none⟩ (.int .u64 ((tp:Int)+(nb:Int)+1))).heap[b]? =some (.cells #[.int .u64 ((tp:Int)+(nb:Int)+1),.slice (some ⟨s,0,none⟩) n c] 75 (0,0))/\Fr (fun r=>r=b\/r=s) w' ((w'.alloc (.cells (madeCells #[.int .u64 0] ns) 29)).setCell ⟨b,0,none⟩ (.int .u64 ((tp:Int)+(nb:Int)+1)))/\((w'.alloc (.cells (madeCells #[.int .u64 0] ns) 29)).setCell ⟨b,0,none⟩ (.int .u64 ((tp:Int)+(nb:Int)+1))).rowIs s 29 c (fun i=>WV (g i))/\((w'.alloc (.cells (madeCells #[.int .u64 0] ns) 29)).setCell ⟨b,0,none⟩ (.int .u64 ((tp:Int)+(nb:Int)+1))).rowIs w'.heap.size 29 ns (fun i=>WV ((fun _=>(0:BitVec 64)) i)):=
    ⟨hp_upd0 _ ((hp_alloc w' _ (hp_lt HB.out)).trans HB.out),((Fr.refl _ _).alloc _).setCell (a:=⟨b,0,none⟩) (.inl (.inl rfl)) _,(HROW.out.alloc _).setOther (a:=⟨b,0,none⟩) hsb _,(row_made w' ns).setOther (a:=⟨b,0,none⟩) (show w'.heap.size≠b from fun e=>by have:=hp_lt HB.out;omega) _⟩
   generalize ((w'.alloc (.cells (madeCells #[.int .u64 0] ns) 29)).setCell ⟨b,0,none⟩ (.int .u64 ((tp:Int)+(nb:Int)+1)))=w0 at*
   obtain ⟨hb1,hf1,hs1,hd1⟩:=base
   have HB0:=Lib.hid hb1;have HF0:=Lib.hid hf1;have HS0:=Lib.hid hs1;have HD0:=Lib.hid hd1
   have hsrc:∀j,j<I+1->w0.cell? ⟨s,j,none⟩=some (WV (pk m j)):=fun j hj=>by rw [<- HG.out j (by omega)];exact hs1.cell (by omega)
   have hq1:w0.rowIs w'.heap.size 29 ns (fun i=>WV ((fun _=>(0:BitVec 64)) i))/\∀j,I+1+P<=j->j<ns->(fun _=>(0:BitVec 64)) j=pk M j:=⟨hd1,fun j h1 h2=>by
    rcases Nat.lt_or_ge (I+1+P) j with h|h
    ·rw [HHI.out j (by have:=HNB.out;have:=HTP.out;omega)];all_goals exact rfl
    ·rw [show j=I+1+P by omega,HUP.out,HMZ.out (I+1) (by omega),HIH.out (by omega)]
     rw [show I+1+P=j by omega]
     refine (rfl:(fun _=>(0:BitVec 64)) j=0).trans ?_
     simp⟩
   have HB1:=HB0;have HF1:=HF0;have HSRC:=Lib.hid hsrc;have HQ1:=Lib.hid hq1
   clear hb1 hf1 hs1 hd1 hsrc hq1 h0 h1 f0 f1
   go_loopw [12] (fun t wr=>∃k:Nat,k<=I+1/\t= .int .i64 ((k:Int)-1)/\(∃q:Nat->BitVec 64,wr.rowIs w'.heap.size 29 ns (fun i=>WV (q i))/\∀j,k+P<=j->j<ns->q j=pk M j)/\(∀j,j<k->wr.cell? ⟨s,j,none⟩=some (WV (pk m j)))/\Fr (· =w'.heap.size) w0 wr) (fun t _=>(intOf t+1).toNat)
   case atStart=>exact ⟨I+1,Nat.le_refl _,by first|rfl|go_num,⟨_,HQ1.out.1,HQ1.out.2⟩,HSRC.out,Fr.refl _ _⟩
   case round=>
    obtain ⟨k,hk,rfl,⟨q,hq1,hq2⟩,hsrc,hfr⟩:=hrel
    have hbk:=(hfr.keep b (hp_lt HB1.out) (fun e=>(show w'.heap.size≠b from fun e=>by have:=hp_lt HB.out;omega) e.symm)).trans HB1.out
    have g1:=hp_cell hbk 1 (v:= .slice (some ⟨s,0,none⟩) n c) rfl
    have HQA:=Lib.hid hq1;have HQB:=Lib.hid hq2;have HS:=Lib.hid hsrc;have HF:=Lib.hid hfr;have HBK:=Lib.hid hbk
    rcases Nat.eq_zero_or_pos k with hk0|hk0
    ·subst hk0
     have d1:decide ((0:Int)<=((0:Nat):Int)-1)=false:=by simp
     clear hq1 hq2 hsrc hfr hbk
     go_wp2
     clear d1 g1
     go_loopw [13] (fun t wz=>∃k:Nat,k<=P/\t= .int .i64 (k:Int)/\(∃q:Nat->BitVec 64,wz.rowIs w'.heap.size 29 ns (fun i=>WV (q i))/\(∀j,P<=j->j<ns->q j=pk M j)/\∀j,j<k->q j=pk M j)/\Fr (· =w'.heap.size) w0 wz) (fun t _=>P-(intOf t).toNat)
     case atStart=>exact ⟨0,Nat.zero_le _,rfl,⟨_,HQA.out,fun j h1 h2=>HQB.out j (by omega) h2,fun j hj=>absurd hj (by omega)⟩,HF.out⟩
     case round=>
      obtain ⟨k,hk,rfl,⟨q,hq1,hq2,hq3⟩,hfr⟩:=hrel
      have hbk:=(hfr.keep b (hp_lt HB1.out) (fun e=>(show w'.heap.size≠b from fun e=>by have:=hp_lt HB.out;omega) e.symm)).trans HB1.out
      have HZA:=Lib.hid hq1;have HZB:=Lib.hid hq2;have HZC:=Lib.hid hq3;have HZF:=Lib.hid hfr;have HZK:=Lib.hid hbk
      by_cases hlt:k<P
      ·have cd:=hq1.cell (i:=k) (by omega)
       have fd:=hq1.frozen k
       have hkn:k<ns:=by omega
       clear hq1 hq2 hq3 hfr hbk
       go_wp2
       go_roundw
       case rel=>
        refine ⟨k+1,by omega,by go_num,⟨fun j=>if j=k then 0 else q j,(HZA.out.set k (WV 0)).congr (fun j _=>by by_cases e:j=k <;> simp [e]),fun j h1 h2=>?_,fun j hj=>?_⟩,HZF.out.setCell (.inl rfl) _⟩
        ·show (if j=k then 0 else q j)=_
         rw [if_neg (by omega)];exact HZB.out j h1 h2
        ·show (if j=k then 0 else q j)=_
         by_cases e:j=k
         ·rw [if_pos e,HLO.out j (by omega)]
         ·rw [if_neg e];exact HZC.out j (by omega)
       case measure=>(simp [intOf];try omega)
      ·have hkP:k=P:=by omega
       subst hkP
       have fb:=hp_free hbk 1
       have g1:=hp_cell hbk 1 (v:= .slice (some ⟨s,0,none⟩) n c) rfl
       clear hq1 hq2 hq3 hfr hbk
       go_wp2
       go_end0
       refine ⟨rfl,w'.heap.size,ns,q,⟨(show w'.heap.size≠b from fun e=>by have:=hp_lt HB.out;omega),by rw [LNWx.out];exact Nat.le_refl _,by omega,by omega,?_,HZA.out.setOther (a:=⟨b,1,none⟩) (show w'.heap.size≠b from fun e=>by have:=hp_lt HB.out;omega) _⟩,fun j hj=>?_,?_,.inr (Nat.le_refl _)⟩
       ·rw [LNWx.out,LMAXx.out];exact hp_upd1 _ HZK.out
       ·rw [LNWx.out]at hj
        rcases Nat.lt_or_ge j k with h|h
        ·exact HZC.out j h
        ·exact HZB.out j h hj
       ·exact (HF1.out.trans' HZF.out (fun r hr=> .inr (Nat.le_of_eq hr.symm))).setCell (a:=⟨b,1,none⟩) (.inl (.inl rfl)) _
    ·obtain ⟨k',rfl⟩:∃k',k=k'+1:=⟨k-1,by omega⟩
     have q1:(((k'+1:Nat):Int)-1)=(k':Int):=by omega
     rw [q1]
     have ck:=hsrc k' (by omega)
     have hkn:k'<n:=by omega
     have cd:=hq1.cell (i:=k'+P) (by omega)
     have fd:=hq1.frozen (k'+P)
     have b3:((k':Int)+(P:Int)).toNat=k'+P:=by omega
     have b1:(0:Int)<=(k':Int)+(P:Int)/\(k':Int)+(P:Int)<ns:=by omega
     have nxt:∀x,x=pk M (k'+P)->(∃q:Nat->BitVec 64,(wr.setCell ⟨w'.heap.size,k'+P,none⟩ (WV x)).rowIs w'.heap.size 29 ns (fun i=>WV (q i))/\∀j,k'+P<=j->j<ns->q j=pk M j)/\(∀j,j<k'->(wr.setCell ⟨w'.heap.size,k'+P,none⟩ (WV x)).cell? ⟨s,j,none⟩=some (WV (pk m j)))/\Fr (· =w'.heap.size) w0 (wr.setCell ⟨w'.heap.size,k'+P,none⟩ (WV x)):=by
      intro x hx
      refine ⟨⟨fun j=>if j=k'+P then x else q j,(HQA.out.set (k'+P) (WV x)).congr (fun j _=>by by_cases e:j=k'+P <;> simp [e]),fun j h1 h2=>?_⟩,fun j hj=>?_,HF.out.setCell (.inl rfl) _⟩
      ·show (if j=k'+P then x else q j)=_
       by_cases e:j=k'+P
       ·rw [if_pos e,hx,e]
       ·rw [if_neg e];exact HQB.out j (by omega) h2
      ·rw [cell_setCell_ne _ _ _ _ _ _ (fun e=>by have h9:=congrArg Addr.block e;simp at h9;have:=HROW.out.lt;omega)];exact HS.out j (by omega)
     have nxtq:∀x nq,x=pk M (k'+P)->(∃q:Nat->BitVec 64,((wr.drewN nq).setCell ⟨w'.heap.size,k'+P,none⟩ (WV x)).rowIs w'.heap.size 29 ns (fun i=>WV (q i))/\∀j,k'+P<=j->j<ns->q j=pk M j)/\(∀j,j<k'->((wr.drewN nq).setCell ⟨w'.heap.size,k'+P,none⟩ (WV x)).cell? ⟨s,j,none⟩=some (WV (pk m j)))/\Fr (· =w'.heap.size) w0 ((wr.drewN nq).setCell ⟨w'.heap.size,k'+P,none⟩ (WV x)):=by
      intro x nq hx
      obtain ⟨⟨q',h1,h2⟩,h3,h4⟩:=nxt x hx
      exact ⟨⟨q',h1,h2⟩,h3,(HF.out.drewN nq).setCell (.inl rfl) _⟩
     have NX:=Lib.hid nxt;have NXQ:=Lib.hid nxtq;clear nxt nxtq
     rcases Nat.eq_zero_or_pos k' with hk1|hk1
     ·subst hk1
      obtain ⟨x,hx⟩:∃x,x=pk m 0<<<sh:=⟨_,rfl⟩
      have e1:IntKind.u64.wrap (wn (pk m 0)*(2:Int)^sh)=wn x:=by rw [hx];exact wn_shl _ _
      have hxM:x=pk M (0+P):=by rw [hx,Nat.zero_add,HUP0.out]
      have HXM:=Lib.hid hxM
      have b4:(P:Int)<ns:=by omega
      have b5:P<ns:=by omega
      rw [Nat.zero_add]at cd fd
      clear hq1 hq2 hsrc hfr hbk hx hxM q1
      go_wp2
      go_roundw
      case rel=>
       obtain ⟨h1,h2,h3⟩:=NX.out x HXM.out
       rw [Nat.zero_add]at h1 h2 h3
       exact ⟨0,by omega,by first|rfl|go_num,(by rw [Nat.zero_add];exact h1),h2,h3⟩
      case measure=>(simp [intOf];try omega)
     ·obtain ⟨p,rfl⟩:∃p,k'=p+1:=⟨k'-1,by omega⟩
      have cp:=hsrc p (by omega)
      have b6:(((p+1:Nat):Int)-1)=(p:Int):=by omega
      have b7:(0:Int)<((p+1:Nat):Int):=by omega
      have hpn:p<n:=by omega
      obtain ⟨x,hx⟩:∃x,x=pk m (p+1)<<<sh:=⟨_,rfl⟩
      obtain ⟨y,hy⟩:∃x,x=pk m p>>>(64-sh):=⟨_,rfl⟩
      have e1:IntKind.u64.wrap (wn (pk m (p+1))*(2:Int)^sh)=wn x:=by rw [hx];exact wn_shl _ _
      have e2:wn (pk m p)/(2:Int)^(64-sh)=wn y:=by rw [hy];exact wn_shr _ _
      have e3:bits .or .u64 (wn x) (wn y)=wn (x|||y):=wn_or _ _
      have hxM:x|||y=pk M (p+1+P):=by rw [hx,hy,HUP.out]
      have HXM:=Lib.hid hxM
      clear hq1 hq2 hsrc hfr hbk hx hy hxM q1
      go_wp2
      refine wp_region_quiet_tail 27 (by kernel_rfl) (by kernel_rfl) ?_
      simp only [List.take_succ_cons,List.take_zero,List.drop_succ_cons,List.drop_zero]
      repeat (go_big_quiet_step (fail))
      refine wpQuiet_nil ?_
      intro _ ⟨nq,hw'⟩
      subst hw'
      go_wp2
      go_roundw
      case rel=>
       obtain ⟨h1,h2,h3⟩:=NXQ.out (x|||y) nq HXM.out
       exact ⟨p+1,by omega,by go_num,h1,h2,h3⟩
      case measure=>(simp [intOf];try omega)
end Go.Proofs.YtobdfhlmipcjbaaGreatDoor
namespace Go.Proofs.YtobdfhlmipcjbaaGreatDoor
open Go.RowKit
theorem Fr.setCells{T:Nat->Prop}{w:World}{g:Nat}(hg:T g\/w.heap.size<=g):∀(vs:List Value) (o:Nat) (w':World),Fr T w w'->Fr T w (w'.setCells g o vs):=by
 intro vs
 induction vs with
 |nil=>intro o w' h;exact h
 |cons v vs ih=>intro o w' h;exact ih (o+1) _ (h.setCell (a:=⟨g,o,none⟩) hg v)
def flatW(f:Nat->BitVec 64):Nat->List Value
 |0=>[]
 |j+1=>flatW f j++Lib.byteCells (Lib.beBytes 8 (f j).toNat)
theorem flatW_length(f:Nat->BitVec 64)(n:Nat):(flatW f n).length=8*n:=by
 induction n with
 |zero=>rfl
 |succ n ih=>simp only [flatW,List.length_append,ih,Lib.byteCells_length,Lib.beBytes_length];omega
theorem flatW_one(f:Nat->BitVec 64)(n:Nat):∀v∈flatW f n,v.oneCell'=true:=by
 induction n with
 |zero=>intro v hv;cases hv
 |succ n ih=>
  intro v hv
  rcases List.mem_append.1 hv with h|h
  ·exact ih v h
  ·exact byteCells_one _ v h
theorem be_beL(x:BitVec 64):Lib.byteCells (Lib.beBytes 8 x.toNat)=beL x:=by
 have hx:=x.isLt
 simp only [Lib.byteCells,Lib.beBytes,Lib.leBytes,List.reverse_cons,List.reverse_nil,List.nil_append,List.cons_append,List.map_cons,List.map_nil,Lib.toUInt8_mod]
 unfold beL beB
 rw [show List.range 8= [0,1,2,3,4,5,6,7] from rfl]
 simp only [List.map_cons,List.map_nil,IntKind.wrap_u8,wn]
 simp only [show (2:Int)^(56-8*0)=72057594037927936 from rfl,show (2:Int)^(56-8*1)=281474976710656 from rfl,show (2:Int)^(56-8*2)=1099511627776 from rfl,show (2:Int)^(56-8*3)=4294967296 from rfl,show (2:Int)^(56-8*4)=16777216 from rfl,show (2:Int)^(56-8*5)=65536 from rfl,show (2:Int)^(56-8*6)=256 from rfl,show (2:Int)^(56-8*7)=1 from rfl,List.cons.injEq,Value.int.injEq,true_and,and_true]
 refine ⟨?_,?_,?_,?_,?_,?_,?_,?_⟩ <;> omega
@[go_sem] theorem meth_write (p:Value) (w:World):(method 289 124 p "Write").run Tryz.prog w= .ok (116,p) w:=by kernel_rfl
theorem make38(n:Nat)(hn:n<=100000)(w:World):
  (Instr.makeSlice 38 (.int .i64 (n:Int)) (.int .i64 (n:Int))).run Tryz.prog w= .ok (.slice (some ⟨w.heap.size,0,none⟩) n n) (w.alloc (.cells (madeCells #[.int .u8 0] n) 5)):=by
 obtain ⟨i,hi,hz,hs,hb⟩:=info_parts info5
 have hr:=run_make (P:=Tryz.prog) w 38 5 i _ Tryz.underlying38 hi hz .i64 .i64 n n (by omega) (by omega) (by rw [hb];omega) (by omega)
 simpa [hs,Value.cells] using hr
def WrP(w:World)(b:Nat)(bs:List Value)(e:Ending)(w':World):Prop:=e= .returned .nilIface/\Lib.IsBuffer 121 5 b b bs w'/\Fr (fun r=>b<=r) w w'
theorem wU_c(b s n c:Nat)(A:Option Addr)(f:Nat->BitVec 64)(bs:List Value)(w:World)(hn:n<128)(hc:n<=c)(hA:0<n->A=some ⟨s,0,none⟩)(hf:∀i,i<n->w.cell? ⟨s,i,none⟩=some (WV (f i)))
  (hb:Lib.IsBuffer 121 5 b b bs w) (h1:∀v∈bs,v.oneCell'=true) (hl:bs.length<=100000):
  Calls Tryz.prog 132 #[.iface 124 (.pointer (some ⟨b,0,none⟩)),.slice A n c] w (WrP w b (bs++flatW f n)):=by
 have hmk:=make38 1024 (by omega) w
 rw [show ((1024:Nat):Int)=1024 from rfl]at hmk
 have hlt:=hb.lt
 have HF:=Lib.hid hf;have HB:=Lib.hid hb;have H1:=Lib.hid h1;have HL:=Lib.hid hl;have HA:=Lib.hid hA
 clear hf hb h1 hl hA
 go_enter Tryz.func132,Tryz.ntmps132
 go_wp2
 clear hmk
 have hr0:=World.rowIs_made w (.int .u8 0) 1024 5
 have hf0:Fr (fun _=>False) w (w.alloc (.cells (madeCells #[.int .u8 0] 1024) 5)):=(Fr.refl _ w).alloc _
 have HR0:=Lib.hid hr0;have HF0:=Lib.hid hf0
 clear hr0 hf0
 obtain ⟨g,hg⟩:∃g,g=w.heap.size:=⟨_,rfl⟩
 rw [<- hg]at HR0 ⊢
 have HG:=Lib.hid hg;clear hg
 generalize w.alloc (.cells (madeCells #[.int .u8 0] 1024) 5)=w1 at*
 go_loopw [6,7] (fun x i wr=>(i= .int .i64 0/\x= .slice (some ⟨g,0,none⟩) 1024 1024/\wr=w1)\/(i= .int .i64 128/\Lib.IsBuffer 121 5 b b (bs++flatW f n) wr/\Fr (fun r=>b<=r) w wr)) (fun x i _=>128-(intOf i).toNat)
 case atStart=>exact .inl ⟨rfl,rfl,rfl⟩
 case round=>
  rcases hrel with ⟨rfl,rfl,rfl⟩|⟨rfl,hb,hf⟩
  ·rcases Nat.eq_zero_or_pos n with hn0|hn0
   ·subst hn0
    go_wp2
    go_ret
    exact ⟨rfl,by rw [show flatW f 0= [] from rfl,List.append_nil];exact bufKeep HB.out HF0.out,HF0.out.mono (fun r (h:False)=>h.elim)⟩
   ·obtain rfl:=HA.out hn0
    have d0:decide ((0:Int)<(n:Int))=true:=by simp;omega
    have d1:decide ((n:Int)<128)=true:=by simp;omega
    have hc0:¬c=0:=by omega
    have i1:(0:Int)<=8*(n:Int)/\8*(n:Int)<=1024:=by omega
    have i2:(8*(n:Int)).toNat=8*n:=by omega
    go_wp2
    clear i1 i2
    go_loopw [45] (fun i wx=>∃k:Nat,k<=n/\i= .int .i64 (k:Int)/\(∃F,wx.rowIs g 5 1024 F/\∀j y,(flatW f k)[j]? =some y->F j=y)/\Fr (fun _=>False) w wx) (fun i _=>n-(intOf i).toNat)
    case atStart=>exact ⟨0,by omega,rfl,⟨_,HR0.out,fun j y hj=>by simp [flatW]at hj⟩,HF0.out⟩
    case round=>
     obtain ⟨k,hk,rfl,⟨F,hrow,hF⟩,hfr⟩:=hrel
     have HRW:=Lib.hid hrow;have HFF:=Lib.hid hF;have HFR:=Lib.hid hfr
     clear hrow hF hfr
     by_cases hlt2:k<n
     ·have cx:=(HFR.out.cell (a:=⟨s,k,none⟩) (block_lt_of_cell (HF.out k hlt2)) (fun h=>h)).trans (HF.out k hlt2)
      obtain ⟨x,hx⟩:∃x,x=f k:=⟨_,rfl⟩
      rw [<- hx]at cx
      have HX:=Lib.hid hx;clear hx
      have i3:(0:Int)<=8*(k:Int)/\8*(k:Int)<=8*(n:Int):=by omega
      have i4:(8*(k:Int)).toNat=8*k:=by omega
      have i5:¬1024=8*k:=by omega
      go_wp2
      refine wp_region_quiet_tail 6 (by kernel_rfl) (by kernel_rfl) ?_
      simp only [List.take_succ_cons,List.take_zero,List.drop_succ_cons,List.drop_zero]
      repeat (go_big_quiet_step (fail))
      refine wpQuiet_nil ?_
      intro _ ⟨nq,hw'⟩
      subst hw'
      have ce:∀j,j<8->(wr.drewN nq).cell? ⟨g,8*k+j,none⟩=some (F (8*k+j)):=fun j hj=>HRW.out.cell (by omega)
      have cf:∀j,(wr.drewN nq).frozen? ⟨g,j,none⟩=false:=fun j=>HRW.out.frozen j
      have CP:=Tryz.binary_BE_PutUint64 g (8*k) (8*n-8*k) (1024-8*k) x.toNat x.isLt _ _ _ _ _ _ _ _ (wr.drewN nq) (by omega) (ce 0 (by omega)) (ce 1 (by omega)) (ce 2 (by omega)) (ce 3 (by omega)) (ce 4 (by omega)) (ce 5 (by omega)) (ce 6 (by omega)) (ce 7 (by omega)) (cf _) (cf _) (cf _) (cf _) (cf _) (cf _) (cf _) (cf _)
      have HCP:=Lib.hid CP;clear CP ce cf
      go_wp2_with (go_at_call 131;refine HCP.out.mono ?_;rintro e w5 ⟨rfl,hw5⟩;have HW5:=Lib.hid hw5;clear hw5)
      go_roundw
      case rel=>
       refine ⟨k+1,by omega,by go_num,?_,?_⟩
       ·rw [HW5.out]
        refine ⟨_,Go.rowIs_setCells _ _ _ _ ((HRW.out.alloc _)),fun j y hy=>?_⟩
        rw [flatW,<- HX.out]at hy
        rw [Lib.byteCells_length,Lib.beBytes_length]
        by_cases h8:j<8*k
        ·rw [if_neg (by omega)]
         rw [List.getElem?_append_left (by rw [flatW_length];exact h8)]at hy
         exact HFF.out j y hy
        ·rw [List.getElem?_append_right (by rw [flatW_length];omega),flatW_length]at hy
         have h9:j-8*k<8:=by
          have:=(List.getElem?_eq_some_iff.1 hy).1
          rw [Lib.byteCells_length,Lib.beBytes_length]at this;exact this
         rw [if_pos (by omega),hy];rfl
       ·rw [HW5.out]
        exact Fr.setCells (.inr (by rw [HG.out];exact Nat.le_refl _)) _ _ _ ((HFR.out.drewN nq).alloc _)
      case measure=>simp [intOf];omega
     ·have hkn:k=n:=by omega
      have HKN:=Lib.hid hkn;clear hkn
      have CW:=Tryz.Buffer_Write_any b b bs (flatW f n) ⟨g,0,none⟩ (8*n) 1024 wr (bufKeep HB.out HFR.out) (by have:=HFR.out.size;omega) H1.out (flatW_length f n) (by have:=HG.out;simp;omega) (fun j y hj=>by
       have h9:=(List.getElem?_eq_some_iff.1 hj).1
       rw [flatW_length]at h9
       rw [add_at,Nat.zero_add,HRW.out.cell (by omega),HFF.out j y (by rw [HKN.out];exact hj)]) (flatW_one f n) (by have:=HL.out;omega)
      have HCW:=Lib.hid CW;clear CW
      go_wp2_with (go_at_call 116;refine HCW.out.mono ?_;rintro e w5 ⟨rfl,hb5,hbl5,_⟩;have HB5:=Lib.hid hb5;have HF5:=Lib.hid ((HFR.out.mono (fun r (h:False)=>h.elim)).trans (Fr.ofB hbl5));clear hb5 hbl5)
      go_roundw
      case rel=>exact .inr ⟨by go_num,HB5.out,HF5.out⟩
      case measure=>simp [intOf]
  ·have d0:decide ((128:Int)<(n:Int))=false:=by simp;omega
   have HB2:=Lib.hid hb;have HF2:=Lib.hid hf
   clear hb hf
   go_wp2
   go_ret
   exact ⟨rfl,HB2.out,HF2.out⟩
end Go.Proofs.YtobdfhlmipcjbaaGreatDoor
