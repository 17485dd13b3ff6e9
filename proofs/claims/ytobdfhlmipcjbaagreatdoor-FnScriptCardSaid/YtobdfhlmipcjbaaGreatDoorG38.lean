/- ReadFrom a bytes.Reader that holds a set's bytes, into the zero set; UnmarshalBinary. -/
import Derived.Deep.RegionHeld3
import Derived.Test.YtobdfhlmipcjbaaGreatDoorG01
import Derived.Test.YtobdfhlmipcjbaaGreatDoorG02
import Derived.Test.YtobdfhlmipcjbaaGreatDoorG04
import Derived.Test.YtobdfhlmipcjbaaGreatDoorG05
import Derived.Test.YtobdfhlmipcjbaaGreatDoorG21
import Derived.Test.YtobdfhlmipcjbaaGreatDoorG26
import Derived.Test.YtobdfhlmipcjbaaGreatDoorG33
import Derived.Test.YtobdfhlmipcjbaaGreatDoorG35
import Derived.Test.YtobdfhlmipcjbaaGreatDoorG36
import Derived.Test.YtobdfhlmipcjbaaGreatDoorG37
set_option linter.unusedVariables false
set_option linter.unusedSimpArgs false
set_option maxHeartbeats 2000000
set_option maxRecDepth 100000
namespace Go.Proofs.YtobdfhlmipcjbaaGreatDoor
open Go.RowKit
theorem clean_zeroR(b:Nat)(w:World)(h0:w.cell? ⟨b,0,none⟩=some (.int .u64 ((0:Nat):Int))):
  Calls Tryz.prog 41 #[.pointer (some ⟨b,0,none⟩)] w fun e w'=>e= .returned (.tuple #[])/\w'=w:=by
 have hd:(!decide (0%64=0))=false:=by simp
 go_enter Tryz.func41,Tryz.ntmps41
 go_wp2_with (go_at_call 98;refine (isLenExact_c _ 0 _ (by omega) h0).mono ?_;rintro e w' ⟨rfl,hw⟩;obtain rfl:=hw.symm)
 go_end0
 exact ⟨rfl,rfl⟩
def RfP(w:World)(d rd L:Nat)(m:Nat->Bool)(e:Ending)(w':World):Prop:=
 (∃z,e= .returned (.tuple #[z,.nilIface]))/\∃v,BA w' d v L m/\Fr (fun r=>r=d\/r=rd) w w'/\∀r,v.ownBlock=some r->w.heap.size<=r
theorem readFrom_c(d rd s N cs L:Nat)(xs:Nat->Value)(m:Nat->Bool)(w:World)(hL:L<=8000)(hm:∀i,L<=i->m i=false)(hd:w.heap[d]? =some (.cells #[.int .u64 0,.slice none 0 0] 75 (0,0)))(hr:Rdr w rd s N cs 0 xs)(hN:8+8*nw L<=N)(hdr:d≠rd)(hds:d≠s)
  (hx0:∀j,j<8->xs j=beAt (BitVec.ofNat 64 L) j) (hx:∀k,k<nw L->∀j,j<8->xs (8+(8*k+j))=beAt (pk m k) j):
  Calls Tryz.prog 110 #[.pointer (some ⟨d,0,none⟩),.iface 126 (.pointer (some ⟨rd,0,none⟩))] w (RfP w d rd L m):=by
 have hlr:rd<w.heap.size:=by obtain ⟨z,hb⟩:=hr.blk;exact hp_lt hb
 have hls:s<w.heap.size:=block_lt_of_cell (hr.src 0 (by omega))
 have hld:=hp_lt hd
 obtain ⟨n,hn⟩:∃n,n=nw L:=⟨_,rfl⟩
 have hnb:n<128:=by rw [hn];unfold nw;omega
 rw [<- hn]at hN hx
 have hnL:64*n<=L+63/\L<=64*n:=by rw [hn];unfold nw;omega
 have HD:=Lib.hid hd;have HR:=Lib.hid hr;have HX0:=Lib.hid hx0;have HX:=Lib.hid hx;have HNN:=Lib.hid hn;have HM:=Lib.hid hm
 clear hd hr hx0 hx hn hm
 go_enter Tryz.func110,Tryz.ntmps110
 go_wp2_with (go_at_call 134;refine Hid.out ?_)
 refine Lib.hid ?_
 have hr1:(w.alloc (.cells #[.int .u8 0,.int .u8 0,.int .u8 0,.int .u8 0,.int .u8 0,.int .u8 0,.int .u8 0,.int .u8 0] 141)).rowIs w.heap.size 141 8 (fun _=> .int .u8 0):=
  ⟨_,hp_new w _,rfl,fun i hi=>by rcases(by omega:i=0\/i=1\/i=2\/i=3\/i=4\/i=5\/i=6\/i=7) with rfl|rfl|rfl|rfl|rfl|rfl|rfl|rfl <;> rfl⟩
 have hf1:Fr (fun _=>False) w (w.alloc (.cells #[.int .u8 0,.int .u8 0,.int .u8 0,.int .u8 0,.int .u8 0,.int .u8 0,.int .u8 0,.int .u8 0] 141)):=(Fr.refl _ w).alloc _
 obtain ⟨g,hg⟩:∃g,g=w.heap.size:=⟨_,rfl⟩
 rw [<- hg]at hr1 ⊢
 have HG:=Lib.hid hg;clear hg
 generalize w.alloc (.cells #[.int .u8 0,.int .u8 0,.int .u8 0,.int .u8 0,.int .u8 0,.int .u8 0,.int .u8 0,.int .u8 0] 141)=w1 at*
 refine (readFull_c rd s N cs 0 8 8 g 141 8 xs (fun _=> .int .u8 0) w1 (by
  obtain ⟨⟨z,hb⟩,hsrc,hone,hl,hne⟩:=HR.out
  exact ⟨⟨z,(hf1.keep rd (hp_lt hb) (fun h=>h)).trans hb⟩,fun j hj=>(hf1.cell (a:=⟨s,j,none⟩) (block_lt_of_cell (hsrc j hj)) (fun h=>h)).trans (hsrc j hj),hone,hl,hne⟩) (by omega) (by omega) hr1 (by omega) (by omega) (by have:=HG.out;omega) (by have:=HG.out;omega)).mono ?_
 rintro e w2 ⟨rfl,h1,h2,h3⟩
 have hf2:Fr (· =rd) w w2:=(hf1.mono (fun r (h:False)=>h.elim)).trans' h3 (fun r hr=>hr.elim (fun e=> .inr (by rw [e,HG.out];exact Nat.le_refl _)) .inl)
 have HR2:=Lib.hid h1;have HF2:=Lib.hid hf2
 have CB:∀w',Fr (fun _=>False) w2 w'->Calls Tryz.prog 135 #[.agg #[],.slice (some ⟨g,0,none⟩) 8 8] w' (fun e w5=>e= .returned (.int .u64 (L:Int))/\Fr (fun _=>False) w2 w5):=fun w' hf=>by
  refine (be64_c g 0 8 8 (BitVec.ofNat 64 L) w' (by omega) (fun j hj=>?_)).mono fun e w5 h=>⟨by rw [h.1,WV,<- wn_nat L (by omega)],hf.trans h.2⟩
  have hcell:=h2.cell (i:=j) hj
  rw [if_pos hj,Nat.zero_add,HX0.out j hj]at hcell
  rw [Nat.zero_add]
  exact (hf.cell (a:=⟨g,j,none⟩) (block_lt_of_cell hcell) (fun h=>h)).trans hcell
 have HCB:=Lib.hid CB
 clear hr1 hf1 h1 h2 h3 hf2 CB
 go_wp2
 go_region_held3 (fun w'=>True) (trivial) (first
  |(go_at_call 135;refine (HCB.out _ (by repeat (first|exact Fr.refl _ _|apply Fr.drew|apply Fr.drewN|apply Fr.alloc))).mono ?_;rintro e w3 ⟨rfl,hf3⟩;have HF3:=Lib.hid hf3;clear hf3)
  |fail)
 have hR3:Rdr w3 rd s N cs (0+8) xs:=by
  obtain ⟨⟨z,hb⟩,hsrc,hone,hl,hne⟩:=HR2.out
  exact ⟨⟨z,(HF3.out.keep rd (hp_lt hb) (fun h=>h)).trans hb⟩,fun j hj=>(HF3.out.cell (a:=⟨s,j,none⟩) (block_lt_of_cell (hsrc j hj)) (fun h=>h)).trans (hsrc j hj),hone,hl,hne⟩
 have hf3:Fr (· =rd) w w3:=HF2.out.trans (HF3.out.mono (fun r (h:False)=>h.elim))
 have hd3:=(hf3.keep d hld hdr).trans HD.out
 have d0:=hp_cell hd3 0 rfl
 have d1:=hp_cell hd3 1 rfl
 have z0:=hp_free hd3 0
 have z1:=hp_free hd3 1
 have HR3:=Lib.hid hR3;have HFW:=Lib.hid hf3;have HD3:=Lib.hid hd3
 clear hR3 hf3 hd3 HF2 HF3 HR2
 have CWN:Calls Tryz.prog 102 #[.int .u64 (L:Int)] w3 fun e w'=>e= .returned (.int .i64 (n:Int))/\w'=w3:=by
  rw [HNN.out];exact wordsNeeded_c L w3 (by omega)
 have HCWN:=Lib.hid CWN;clear CWN
 have tn:((L:Int) != (L:Int))=false:=by simp
 rcases Nat.eq_zero_or_pos n with hn0|hn0
 ·have hL0:L=0:=by omega
  subst hL0
  subst hn0
  go_wp2_with (go_at_call 102;refine HCWN.out.mono ?_;rintro e w' ⟨rfl,hw⟩;obtain rfl:=hw.symm)
  have hd4:=hp_upd (.int .u64 0) (.slice none 0 0) HD3.out
  have hf4:Fr (· =d) w3 ((w3.setCell ⟨d,1,none⟩ (.slice none 0 0)).setCell ⟨d,0,none⟩ (.int .u64 0)):=((Fr.refl (· =d) w3).setCell (a:=⟨d,1,none⟩) (.inl rfl) _).setCell (a:=⟨d,0,none⟩) (.inl rfl) _
  generalize (w3.setCell ⟨d,1,none⟩ (.slice none 0 0)).setCell ⟨d,0,none⟩ (.int .u64 0)=w4 at*
  have HD4:=Lib.hid hd4;have HF4:=Lib.hid hf4
  clear hd4 hf4 d0 d1 z0 z1
  go_wp2_with (refine (readU_none rd none 0 w4).mono ?_;rintro e w5 ⟨rfl,hf5⟩;have HF5:=Lib.hid hf5;clear hf5;refine Hid.out ?_)
  refine Lib.hid ?_
  have hd5:=(HF5.out.keep d (hp_lt HD4.out) (fun h=>h)).trans HD4.out
  have HD5:=Lib.hid hd5
  have q0:=hp_cell hd5 0 rfl
  clear hd5
  go_wp2_with (first|(go_at_call 41;refine (clean_zeroR d w5 q0).mono ?_;rintro e w' ⟨rfl,hw⟩;obtain rfl:=hw.symm)|(go_at_call 133;refine (bsz_c d 0 w5 (by omega) q0).mono ?_;rintro e w' ⟨rfl,hw⟩;obtain rfl:=hw.symm))
  go_ret2
  exact ⟨⟨_,rfl⟩,.slice none 0 0,⟨HM.out,⟨HD5.out,by omega,.inl ⟨rfl,rfl⟩⟩⟩,((HFW.out.mono (fun r hr=> .inr hr)).trans (HF4.out.mono (fun r hr=> .inl hr))).trans (HF5.out.mono (fun r (h:False)=>h.elim)),fun r hr=>by cases hr⟩
 ·have hmk:=make33 (n:Int) (n:Int) (by omega) (by omega) (by omega)
  rw [Int.toNat_natCast]at hmk
  have hlw:=HFW.out.size
  have ldw:d<w3.heap.size:=by omega
  have ndw:¬d=w3.heap.size:=by omega
  go_wp2_with (go_at_call 102;refine HCWN.out.mono ?_;rintro e w' ⟨rfl,hw⟩;obtain rfl:=hw.symm)
  clear hmk
  obtain ⟨q,hq⟩:∃q,q=w3.heap.size:=⟨_,rfl⟩
  rw [<- hq]
  have hdq:d≠q:=by rw [hq];omega
  have hfs:Fr (· =d) w3 ((w3.setCell ⟨d,1,none⟩ (.slice (some ⟨q,0,none⟩) n n)).setCell ⟨d,0,none⟩ (.int .u64 (L:Int))):=((Fr.refl (· =d) w3).setCell (a:=⟨d,1,none⟩) (.inl rfl) _).setCell (a:=⟨d,0,none⟩) (.inl rfl) _
  have hdb:=hp_upd (.int .u64 (L:Int)) (.slice (some ⟨q,0,none⟩) n n) HD3.out
  have hsb:((w3.setCell ⟨d,1,none⟩ (.slice (some ⟨q,0,none⟩) n n)).setCell ⟨d,0,none⟩ (.int .u64 (L:Int))).heap.size=q:=by rw [hq];simp
  generalize (w3.setCell ⟨d,1,none⟩ (.slice (some ⟨q,0,none⟩) n n)).setCell ⟨d,0,none⟩ (.int .u64 (L:Int))=wb at*
  have hr3:=row_made wb n
  rw [hsb]at hr3
  have hd4:=(hp_alloc wb (.cells (madeCells #[.int .u64 0] n) 29) (hp_lt hdb)).trans hdb
  have hf34:Fr (· =d) w3 (wb.alloc (.cells (madeCells #[.int .u64 0] n) 29)):=hfs.alloc _
  generalize wb.alloc (.cells (madeCells #[.int .u64 0] n) 29)=w4 at*
  clear hdb hsb hfs
  have CU:=readU_c rd s N cs (0+8) q n n xs (pk m) (fun _=>WV 0) w4 hnb hn0 (Nat.le_refl _) (by
   obtain ⟨⟨z,hb⟩,hsrc,hone,hl,hne⟩:=HR3.out
   exact ⟨⟨z,(hf34.keep rd (hp_lt hb) (fun e=>hdr e.symm)).trans hb⟩,fun j hj=>(hf34.cell (a:=⟨s,j,none⟩) (block_lt_of_cell (hsrc j hj)) (fun e=>hds e.symm)).trans (hsrc j hj),hone,hl,hne⟩) (by omega) hr3 (by omega) (by omega) (fun k hk j hj=>HX.out k hk j hj)
  have HD4:=Lib.hid hd4;have HF34:=Lib.hid hf34;have HQ:=Lib.hid hq;have HCU:=Lib.hid CU
  clear hd4 hf34 hr3 hq CU d0 d1 z0 z1
  have d1:=hp_cell HD4.out 1 rfl
  go_wp2_with (go_at_call 137;refine HCU.out.mono ?_;rintro e w5 ⟨rfl,h1,h2⟩;refine Hid.out ?_)
  refine Lib.hid ?_
  have hd5:=(h2.keep d (hp_lt HD4.out) (fun h=>h.elim hdq hdr)).trans HD4.out
  have hrs:RS w5 d q L n (pk m):=⟨fun e=>hdq e.symm,Nat.le_of_eq HNN.out.symm,by omega,by omega,by rw [<- HNN.out];exact hd5,h1.congr (fun j hj=>by rw [if_pos hj])⟩
  have HRS:=Lib.hid hrs
  have HF5:=Lib.hid h2
  clear h1 h2 hd5 hrs d1
  have hqs:Hid (w.heap.size<=q):=by show _<=_;rw [HQ.out];exact hlw
  go_wp2_with (go_at_call 41;refine (clean_c d q L n (pk m) w5 HRS.out).mono ?_;rintro e w6 ⟨rfl,g',h1,h2,h3⟩;refine Hid.out ?_)
  refine Lib.hid ?_
  have hBA:BA w6 d (.slice (some ⟨q,0,none⟩) (nw L) n) L m:=h1.ba (fun j hj=>by
   rw [h2 j hj]
   apply BitVec.eq_of_getLsbD_eq
   intro i hi
   rw [BitVec.getLsbD_and,getLsbD_pk,getLsbD_pk]
   by_cases hb:64*j+i<L
   ·simp [below,hb];intro h _;exact h
   ·rw [HM.out _ (by omega)];simp) HM.out
  have q0:=hp_cell h1.hb 0 rfl
  have hfin:Fr (fun r=>r=d\/r=rd) w w6:=(((HFW.out.mono (fun r hr=> .inr hr)).trans (HF34.out.mono (fun r hr=> .inl hr))).trans' HF5.out (fun r hr=>hr.elim (fun e=> .inr (by rw [e];exact hqs.out)) (fun e=> .inl (.inr e)))).trans' h3 (fun r hr=> .inr (by rw [hr];exact hqs.out))
  have HBA:=Lib.hid hBA;have HFN:=Lib.hid hfin
  clear h1 h2 h3 hBA hfin
  go_wp2_with (go_at_call 133;refine (bsz_c d L w6 (by omega) q0).mono ?_;rintro e w' ⟨rfl,hw⟩;obtain rfl:=hw.symm)
  go_ret2
  exact ⟨⟨_,rfl⟩,_,HBA.out,HFN.out,fun r hr=>by cases hr;exact hqs.out⟩
theorem tls_63x(a b c fr to n x q:Nat)(xs:List Value)(wd:BitVec 64)(many:Value)(w:World)(hq:q=xs.length)(hqq:q<=100000)(h1:∀v∈xs,v.oneCell'=true)
  (hc:∀w1,Fr (fun _=>False) w w1->Calls Tryz.prog 78 #[.pointer (some ⟨x,0,none⟩)] w1 fun e w'=>∃v,e= .returned (.tuple #[v,.nilIface])/\Lst w' 5 1 v q xs/\Fr (fun _=>False) w1 w'):
  Calls Tryz.prog 37 #[istV 63 a b c fr to n wd many,.pointer (some ⟨x,0,none⟩)] w (TellP w 63 true 0 (.int .u64 0) { data:= #[] } [] xs):=by
 have HM:=Lib.hid (telMid 63 a b c fr to n wd many w)
 have HC:=Lib.hid (hc _ HM.out.fr)
 have HQ:=Lib.hid hq;have HLL:=Lib.hid hqq;have H1:=Lib.hid h1
 clear hc hq hqq h1
 unfold tldO istO at HM HC
 unfold istV
 go_enter Tryz.func37,Tryz.ntmps37
 go_wp2_with (go_at_call 78;refine HC.out.mono ?_;rintro e w2 ⟨v2,rfl,hv,hf⟩;refine Hid.out ?_)
 refine Lib.hid ?_
 have HT:=Lib.hid (TelW.keep HM.out hf)
 have HK:=Lib.hid (clone38_c v2 q xs w2 hv.src H1.out HLL.out)
 clear hv hf
 go_wp2_with (go_at_call 79;refine HK.out.mono ?_;rintro e w3 ⟨v3,rfl,hv,hf,ho⟩;refine Hid.out ?_)
 refine Lib.hid ?_
 have HT3:=Lib.hid (TelW.keep HT.out hf)
 obtain ⟨A3,c3,rfl,_⟩:=hv.src
 have HV:=Lib.hid hv
 have ho3:∀r,(Value.slice A3 q c3).ownBlock=some r->w.heap.size+1+1+1<=r:=fun r hr=>by have h1:=ho r hr;have h2:=hp_lt HT.out.p1;omega
 have HO:=Lib.hid ho3
 clear hf hv ho ho3
 obtain ⟨⟨e0,f0,e1,f1,e2,f2,e3,f3,e4,f4,e5,f5,e6,f6⟩,⟨g0,h0,g1,h1,g2,h2,g3,h3,g4,h4,g5,h5,g6,h6⟩⟩:=HT3.out.sev
 go_wp2
 clear e0 e1 e2 e3 e4 e5 e6 f0 f1 f2 f3 f4 f5 f6 g0 h0 g1 h1 g2 h2 g3 h3 g4 h4 g5 h5 g6 h6
 obtain ⟨w4,hw4,e0,e1,e2,e3,e4,e5,e6,HF,HG⟩:=telEnd (w3:=((w3.setCell ⟨w.heap.size+1+1,6,none⟩ (.slice A3 q c3)).setCell ⟨w.heap.size+1+1,1,none⟩ (.bool true))) HT3.out (((Fr.refl (· =w.heap.size+1+1) w3).setCell (.inl rfl) _).setCell (.inl rfl) _) (.int .i64 63) (.bool true) (.int .u64 0) (.int .u64 0) (.string { data:= #[] }) (.slice none 0 0) (.slice A3 q c3)
 rw [hw4];clear hw4
 simp [bodyPost,results,Tryz.f37,go_sem,e0,e1,e2,e3,e4,e5,e6]
 exact ⟨_,_,rfl,Lst.nil _ 28 1,by rw [<- HQ.out];exact HV.out.keep HG.out (fun r hr h=>by have:=HO.out r hr;omega),by intro r h;exact absurd h (by simp [Value.ownBlock]),fun r hr=>by have:=HO.out r hr;omega,HF.out⟩
theorem tls_63(a b c fr to n x L:Nat)(v:Value)(m:Nat->Bool)(wd:BitVec 64)(many:Value)(w:World)(hL:L<=8000)(h:BA w x v L m):
  Calls Tryz.prog 37 #[istV 63 a b c fr to n wd many,.pointer (some ⟨x,0,none⟩)] w (TellP w 63 true 0 (.int .u64 0) { data:= #[] } [] (setB m L)):=by
 have hlen:=setB_length m L
 have hN:nw L<=125:=by unfold nw;omega
 exact tls_63x a b c fr to n x _ _ wd many w rfl (by omega) (setB_one m L) fun w1 hf=>(marshal_c x L v m w1 hL (h.keep hf (fun _ _ h=>h))).mono fun e w' ⟨v2,he,hv,hf2,_⟩=>⟨v2,he,hv,hf2⟩
def tldL(v:Value):Obj:= .cells #[.int .i64 64,.bool false,.int .u64 0,.int .u64 0,.string { data:= #[] },v,.slice none 0 0] 50
theorem tls_64x(a b c fr to n x q cw:Nat)(A:Option Addr)(ws:List (BitVec 64))(wd:BitVec 64)(many:Value)(w:World)(hq:q=ws.length)(hqq:q<=100000)
  (hx:w.cell? ⟨x,1,none⟩=some (.slice A q cw)) (hu:Src w 1 (.slice A q cw) q (ws.map WV)):
  Calls Tryz.prog 37 #[istV 64 a b c fr to n wd many,.pointer (some ⟨x,0,none⟩)] w (TellP w 64 false 0 (.int .u64 0) { data:= #[] } (ws.map WV) []):=by
 have HM:=Lib.hid (telMid 64 a b c fr to n wd many w)
 have HC:=Lib.hid (words_c x (.slice A q cw) _ ((HM.out.fr.cell (a:=⟨x,1,none⟩) (block_lt_of_cell hx) (fun h=>h)).trans hx))
 obtain ⟨A1,c1,e1,hl,hcc⟩:=hu
 cases e1
 have HS:=Lib.hid hcc;have HL:=Lib.hid hl;have HQ:=Lib.hid hq;have HLL:=Lib.hid hqq
 clear hcc hl hq hqq hx
 obtain ⟨i0,hi0,hz0,hz1,hz2⟩:=info_parts info28
 unfold istV
 go_enter Tryz.func37,Tryz.ntmps37
 go_wp2_with (go_at_call 80;refine (HC.out).mono ?_;rintro e w2 ⟨rfl,rfl⟩;refine Hid.out ?_)
 refine Lib.hid ?_
 go_wp2
 go_loopw [70] (fun i wr=>∃(k:Nat) (v:Value),k<=q/\i= .int .i64 (k:Int)/\wr.heap[w.heap.size+1]? =some (tldO 0)/\wr.heap[w.heap.size+1+1]? =some (tldL v)/\Lst wr 28 1 v k ((ws.take k).map WV)/\Fr (fun _=>False) w wr/\∀r,v.ownBlock=some r->w.heap.size+1+1+1<=r) (fun i _=>q-(intOf i).toNat)
 case atStart=>exact ⟨0,.slice none 0 0,by omega,rfl,HM.out.p0,HM.out.p1,Lst.nil _ _ _,HM.out.fr,by simp [Value.ownBlock]⟩
 case round=>
  obtain ⟨k,v,hk,rfl,hp0,hp1,hrow,hfr,hown⟩:=hrel
  obtain ⟨Av,cv,rfl,_⟩:=hrow.src
  have hqq:=HLL.out
  by_cases hlt:k<q
  ·obtain ⟨ad,rfl,hcc⟩:=HS.out (by omega)
   have hlen:k<ws.length:=by have:=HQ.out;omega
   obtain ⟨y,hy0⟩:∃y,ws[k]? =some y:=⟨_,List.getElem?_eq_getElem hlen⟩
   have hy:(ws.map WV)[k]? =some (WV y):=by simp [hy0]
   have hcell:=(hfr.cell (a:=ad.add k) (block_lt_of_cell (hcc k _ hy)) (fun h=>h)).trans (hcc k _ hy)
   have htk:ws.take k++ [y]=ws.take (k+1):=take_succ_get _ _ _ hy0
   have c5:wr.cell? ⟨w.heap.size+1+1,5,none⟩=some (.slice Av k cv):=hp_cell hp1 5 rfl
   have hsz:=hp_lt hp1
   have HY:=Lib.hid htk;have HR:=Lib.hid hrow;have HF:=Lib.hid hfr;have HO:=Lib.hid hown;have HP0:=Lib.hid hp0;have HP1:=Lib.hid hp1;have HSZ:=Lib.hid hsz
   have HL2:=Lib.hid (show k+1<=1000000 by have:=HLL.out;omega)
   clear hrow hfr hown hcc hy hy0 hlen htk hp0 hp1 hsz
   go_wp2_with (at_builtin;refine wpList_app 30 28 i0 _ 1 8 Tryz.underlying30 hi0 hz0 hz1 hz2 rfl (by omega) (by omega) (.tmp 75) (.tmp 77) rfl rfl _ _ _ _ (HR.out.alloc _) _ _ _ (src_one wr (WV y) 28) (by simp [one_WV]) HL2.out rfl rfl ?_;intro v1 w1 hv1 hf1 hat1;refine Hid.out ?_)
   refine Lib.hid ?_
   obtain ⟨A1,c1,rfl,_⟩:=hv1.src
   have hsz1:=HF.out.size
   have k1:w1.heap[w.heap.size+1]? =some (tldO 0):=(hf1.keep _ (by rw [World.size_alloc];have:=HSZ.out;omega) (fun h=>by have:=HO.out _ h;omega)).trans (alloc_at HP0.out _)
   have k2:w1.heap[w.heap.size+1+1]? =some (tldL (.slice Av k cv)):=(hf1.keep _ (by rw [World.size_alloc];have:=HSZ.out;omega) (fun h=>by have:=HO.out _ h;omega)).trans (alloc_at HP1.out _)
   have d5:w1.cell? ⟨w.heap.size+1+1,5,none⟩=some (.slice Av k cv):=hp_cell k2 5 rfl
   have g5:w1.frozen? ⟨w.heap.size+1+1,5,none⟩=false:=hp_free k2 5
   have hF1:Fr (fun _=>False) w w1:=(HF.out.alloc _).trans' hf1 (fun r hr=> .inr (by have:=HO.out r hr;omega))
   have hO1:∀r,(Value.slice A1 (k+1) c1).ownBlock=some r->w.heap.size+1+1+1<=r:=by
    intro r hr
    rcases hat1 with e|e
    ·exact HO.out r (by rw [<- e];exact hr)
    ·rw [hr]at e;cases e;rw [World.size_alloc];have:=HSZ.out;omega
   have K1:=Lib.hid k1;have K2:=Lib.hid k2;have HF1:=Lib.hid hF1;have HO1:=Lib.hid hO1;have HV1:=Lib.hid hv1
   clear k1 k2 hF1 hO1 hv1 hf1 hat1 hsz1 c5 hcell
   go_wp2
   go_roundw
   case rel=>
    refine ⟨k+1,_,by omega,by go_num,(hp_other _ _ _ (by simp)).trans K1.out,?_,?_,HF1.out.setCell (.inr (by simp;omega)) _,HO1.out⟩
    ·exact hp_same _ _ 5 _ K2.out
    ·rw [<- HY.out,List.map_append];exact HV1.out.keep ((Fr.refl (· =w.heap.size+1+1) w1).setCell (.inl rfl) _) (fun r hr h=>by have:=HO1.out r hr;omega)
   case measure=>simp [intOf];omega
  ·have hkk:k=q:=by omega
   subst hkk
   have hl:=HL.out;have hq2:=HQ.out
   rw [List.take_of_length_le (by omega)]at hrow
   obtain ⟨e0,f0,e1,f1,e2,f2,e3,f3,e4,f4,e5,f5,e6,f6⟩:=sev hp0
   have g0:=hp_cell hp1 0 rfl;have g1:=hp_cell hp1 1 rfl;have g2:=hp_cell hp1 2 rfl;have g3:=hp_cell hp1 3 rfl;have g4:=hp_cell hp1 4 rfl;have g5:=hp_cell hp1 5 rfl;have g6:=hp_cell hp1 6 rfl
   have HR:=Lib.hid hrow;have HF:=Lib.hid hfr;have HO:=Lib.hid hown;have HP0:=Lib.hid hp0
   clear hrow hfr hown hl hq2 hp0 hp1
   go_wp2
   clear e0 e1 e2 e3 e4 e5 e6 f0 f1 f2 f3 f4 f5 f6 g0 g1 g2 g3 g4 g5 g6
   obtain ⟨w4,hw4,e0,e1,e2,e3,e4,e5,e6,HX,HG⟩:=telEndX (w:=w) HP0.out HF.out (.int .i64 64) (.bool false) (.int .u64 0) (.int .u64 0) (.string { data:= #[] }) (.slice Av k cv) (.slice none 0 0)
   rw [hw4];clear hw4
   simp [bodyPost,results,Tryz.f37,go_sem,e0,e1,e2,e3,e4,e5,e6]
   exact ⟨_,_,rfl,by rw [List.length_map,<- HQ.out];exact HR.out.keep HG.out (fun r hr h=>by have:=HO.out r hr;omega),Lst.nil _ 5 1,fun r hr=>by have:=HO.out r hr;omega,by intro r h;exact absurd h (by simp [Value.ownBlock]),HX.out⟩
theorem tls_64(a b c fr to n x L:Nat)(v:Value)(m:Nat->Bool)(wd:BitVec 64)(many:Value)(w:World)(hL:L<=8000)(h:BA w x v L m):
  Calls Tryz.prog 37 #[istV 64 a b c fr to n wd many,.pointer (some ⟨x,0,none⟩)] w (TellP w 64 false 0 (.int .u64 0) { data:= #[] } (((List.range (nw L)).map (pk m)).map WV) []):=by
 obtain ⟨A,s,cw,h1,hc,hA,hr⟩:=h.view3
 have hN:nw L<=125:=by unfold nw;omega
 refine tls_64x a b c fr to n x (nw L) cw A _ wd many w (by simp) (by omega) h1 ⟨A,cw,rfl,by simp,fun h0=>?_⟩
 rcases hA with ⟨_,h2,_⟩|rfl
 ·omega
 ·refine ⟨_,rfl,fun j y hy=>?_⟩
  have hj:j<nw L:=by
   have:=(List.getElem?_eq_some_iff.1 hy).1
   simpa using this
  rw [List.getElem?_map,List.getElem?_map,List.getElem?_range hj]at hy
  cases hy
  rw [add_at,Nat.zero_add]
  exact hr j hj
theorem make30(w:World):(Instr.makeSlice 30 (.int .i64 20) (.int .i64 20)).run Tryz.prog w= .ok (.slice (some ⟨w.heap.size,0,none⟩) 20 20) (w.alloc (.cells (madeCells #[.int .u64 0] 20) 28)):=by
 obtain ⟨i,hi,hz,hs,hb⟩:=info_parts info28
 have hr:=run_make (P:=Tryz.prog) w 30 28 i _ Tryz.underlying30 hi hz .i64 .i64 20 20 (by omega) (by omega) (by rw [hb];omega) (by omega)
 simpa [hs,Value.cells] using hr
attribute [local go_sem] make30
def Nx57(g:Nat)(Q:List Value->Nat->Prop)(W:World)(e:Ending)(w':World):Prop:=
 ∃(q z:Nat) (ys:List Value),e= .returned (.tuple #[.int .u64 (z:Int),.slice (some ⟨g,0,none⟩) q 20])/\Src w' 1 (.slice (some ⟨g,0,none⟩) q 20) q ys/\(∀y∈ys,y.oneCell'=true)/\q=ys.length/\q<=20/\Q ys z/\Fr (· =g) W w'
def Tl57(w:World)(Q:List Value->Nat->Prop)(e:Ending)(w':World):Prop:=∃ys z,Q ys z/\TellP w 57 false z (.int .u64 0) { data:= #[] } ys [] e w'
theorem tls_57x(a b c fr to n x:Nat)(wd:BitVec 64)(many:Value)(Q:List Value->Nat->Prop)(w:World)
  (hc:∀W,Fr (fun _=>False) w W->(∃f,W.rowIs (w.heap.size+1+1+1) 28 20 f)->Calls Tryz.prog 92 #[.pointer (some ⟨x,0,none⟩),.int .u64 (n:Int),.slice (some ⟨w.heap.size+1+1+1,0,none⟩) 20 20] W (Nx57 (w.heap.size+1+1+1) Q W)):
  Calls Tryz.prog 39 #[istV 57 a b c fr to n wd many,.pointer (some ⟨x,0,none⟩)] w (Tl57 w Q):=by
 have HM:=Lib.hid (telMid 57 a b c fr to n wd many w)
 have hsz:(((w.alloc (istO 57 a b c fr to n wd many)).alloc (tldO 0)).alloc (tldO 57)).heap.size=w.heap.size+1+1+1:=by simp
 have hro:=World.rowIs_made (((w.alloc (istO 57 a b c fr to n wd many)).alloc (tldO 0)).alloc (tldO 57)) (.int .u64 0) 20 28
 rw [hsz]at hro
 have HW:Hid (Fr (fun _=>False) (((w.alloc (istO 57 a b c fr to n wd many)).alloc (tldO 0)).alloc (tldO 57)) ((((w.alloc (istO 57 a b c fr to n wd many)).alloc (tldO 0)).alloc (tldO 57)).alloc (.cells (madeCells #[.int .u64 0] 20) 28)).drew):=((Fr.refl _ _).alloc _).drew
 have HC:=Lib.hid (hc _ (HM.out.fr.trans HW.out) ⟨_,rowIs_keep hro ((Fr.refl (fun _=>False) _).drew) (fun h=>h)⟩)
 have HS:=Lib.hid hsz
 have hb6:(((((w.alloc (istO 57 a b c fr to n wd many)).alloc (tldO 0)).alloc (tldO 57)).alloc (.cells (madeCells #[.int .u64 0] 20) 28)).drew).cell? ⟨w.heap.size,6,none⟩=some (.int .u64 (n:Int)):=hp_cell (alloc_at (alloc_at (alloc_at (hp_new w (istO 57 a b c fr to n wd many)) _) _) _) 6 rfl
 have HB6:=Lib.hid hb6
 clear hc hro hsz hb6
 unfold tldO istO at HM HC HW HS HB6
 unfold istV
 go_enter Tryz.func39,Tryz.ntmps39
 go_wp2
 go_region_held3 (fun w'=>w'.cell? ⟨w.heap.size,6,none⟩=some (.int .u64 (n:Int))) (first|go_keep|(with_reducible exact HK.out)) (first|(go_at_call 92;refine HC.out.mono ?_;rintro e w2 ⟨q,z,ys,rfl,h1,h2,h3,h4,h5,h6⟩;have HQ:=Lib.hid h3;clear h3;have HK:=Lib.hid ((h6.cell (a:=⟨w.heap.size,6,none⟩) (block_lt_of_cell HB6.out) (show ¬(w.heap.size=w.heap.size+1+1+1) by omega)).trans HB6.out);have HT:=Lib.hid (TelW.keep HM.out (HW.out.trans' h6 (fun r hr=>Or.inr (by have:=HS.out;omega))));have H1:=Lib.hid h1;have H2:=Lib.hid h2;have H5:=Lib.hid h5;clear h1 h2 h5 h6)|fail)
 have HC3:=Lib.hid (clone30_c _ q ys w2 H1.out H2.out (by omega))
 go_wp2_with (go_at_call 93;refine HC3.out.mono ?_;rintro e w3 ⟨v3,rfl,hv,hf,ho⟩;refine Hid.out ?_)
 refine Lib.hid ?_
 have HT3:=Lib.hid (TelW.keep HT.out hf)
 obtain ⟨A3,c3,rfl,_⟩:=hv.src
 have HV:=Lib.hid hv
 have ho3:∀r,(Value.slice A3 q c3).ownBlock=some r->w.heap.size+1+1+1<=r:=fun r hr=>by have h1:=ho r hr;have h2:=hp_lt HT.out.p1;omega
 have HO:=Lib.hid ho3
 clear hf hv ho ho3
 obtain ⟨⟨e0,f0,e1,f1,e2,f2,e3,f3,e4,f4,e5,f5,e6,f6⟩,⟨g0,h0,g1,h1,g2,h2,g3,h3,g4,h4,g5,h5,g6,h6⟩⟩:=HT3.out.sev
 go_wp2
 clear e0 e1 e2 e3 e4 e5 e6 f0 f1 f2 f3 f4 f5 f6 g0 h0 g1 h1 g2 h2 g3 h3 g4 h4 g5 h5 g6 h6
 obtain ⟨w4,hw4,e0,e1,e2,e3,e4,e5,e6,HF,HG⟩:=telEnd (w3:=((w3.setCell ⟨w.heap.size+1+1,2,none⟩ (.int .u64 (z:Int))).setCell ⟨w.heap.size+1+1,5,none⟩ (.slice A3 q c3))) HT3.out (((Fr.refl (· =w.heap.size+1+1) w3).setCell (.inl rfl) _).setCell (.inl rfl) _) (.int .i64 57) (.bool false) (.int .u64 (z:Int)) (.int .u64 0) (.string { data:= #[] }) (.slice A3 q c3) (.slice none 0 0)
 rw [hw4];clear hw4
 simp [bodyPost,results,Tryz.f39,go_sem,e0,e1,e2,e3,e4,e5,e6]
 exact ⟨ys,z,H5.out,_,_,rfl,by rw [<- HQ.out];exact HV.out.keep HG.out (fun r hr h=>by have:=HO.out r hr;omega),Lst.nil _ 5 1,fun r hr=>by have:=HO.out r hr;omega,by intro r h;exact absurd h (by simp [Value.ownBlock]),HF.out⟩
def M57(m:Nat->Bool)(i:Nat)(ys:List Value)(z:Nat):Prop:=
 ∃t,i<=t/\(numsN (frm m i) t).length<=20/\(((numsN (frm m i) t).length=20/\∃r,t=r+1/\i<=r/\m r=true)\/∀j,t<=j->m j=false)/\z=lastN (numsN (frm m i) t)/\ys=(numsN (frm m i) t).map numV
theorem tls_57(a b c fr to n x L:Nat)(v:Value)(m:Nat->Bool)(wd:BitVec 64)(many:Value)(w:World)(hT:Tab64 w)(hn:n<=50000)(hx:BA w x v L m):
  Calls Tryz.prog 39 #[istV 57 a b c fr to n wd many,.pointer (some ⟨x,0,none⟩)] w (Tl57 w (M57 m n)):=by
 refine tls_57x a b c fr to n x wd many _ w fun W hf hr=>?_
 have hown:=hx.2.own_lt
 refine (nextSetMany_c x n (w.heap.size+1+1+1) L v m W (hT.keep hf (fun h=>h)) (by omega) hn (hx.keep hf (fun _ _ h=>h)) (fun h=>by have:=hown _ h;omega) hr).mono ?_
 rintro e w' ⟨t,ht,rfl,⟨hle,f,hrow,hfj⟩,hfr,hq⟩
 refine ⟨_,_,(numsN (frm m n) t).map numV,rfl,⟨_,_,rfl,by simp,fun _=>⟨_,rfl,fun j y hy=>?_⟩⟩,fun y hy=>?_,by simp,hle,⟨t,ht,hle,hq,rfl,rfl⟩,hfr⟩
 ·have hj:j<(numsN (frm m n) t).length:=by
   have:=(List.getElem?_eq_some_iff.1 hy).1
   simpa using this
  rw [List.getElem?_map,List.getElem?_eq_getElem hj]at hy
  cases hy
  rw [add_at,Nat.zero_add,hrow.cell (by omega),hfj j hj,List.getD,List.getElem?_eq_getElem hj]
  rfl
 ·obtain ⟨k,_,rfl⟩:=List.mem_map.1 hy
  rfl
theorem newReader_c(A:Option Addr)(n c:Nat)(w:World):
  Calls Tryz.prog 111 #[.slice A n c] w fun e w'=>e= .returned (.pointer (some ⟨w.heap.size,0,none⟩))/\w'.heap[w.heap.size]? =some (.cells #[.slice A n c,.int .i64 ((0:Nat):Int),.int .i64 (-1)] 153 (0,0))/\Fr (fun _=>False) w w':=by
 go_enter Tryz.func111,Tryz.ntmps111
 go_wp2
 go_ret
 exact ⟨rfl,hp_new w _,(Fr.refl _ w).alloc _⟩
theorem byteCells_at(l:List UInt8)(j:Nat)(h:j<l.length):(Lib.byteCells l)[j]? =some (.int .u8 ((l.getD j 0).toNat:Int)):=by
 unfold Lib.byteCells
 rw [List.getElem?_map,List.getD,List.getElem?_eq_getElem h];rfl
theorem flatW_at(f:Nat->BitVec 64)(n k j:Nat)(hk:k<n)(hj:j<8):(flatW f n)[8*k+j]? =some (beAt (f k) j):=by
 induction n with
 |zero=>omega
 |succ n ih=>
  unfold flatW
  by_cases e:k=n
  ·subst e
   rw [List.getElem?_append_right (by rw [flatW_length];omega),flatW_length,show 8*k+j-8*k=j by omega]
   exact byteCells_at _ _ (by rw [Lib.beBytes_length];exact hj)
  ·rw [List.getElem?_append_left (by rw [flatW_length];omega)]
   exact ih (by omega)
def xsB(m:Nat->Bool)(L j:Nat):Value:=(setB m L).getD j (.int .u8 0)
theorem xsB_head(m:Nat->Bool)(L j:Nat)(hL:L<=8000)(hj:j<8):xsB m L j=beAt (BitVec.ofNat 64 L) j:=by
 have h:=byteCells_at (Lib.beBytes 8 L) j (by rw [Lib.beBytes_length];exact hj)
 unfold xsB setB beAt
 rw [List.getD,List.getElem?_append_left (by rw [Lib.byteCells_length,Lib.beBytes_length];exact hj),h,BitVec.toNat_ofNat,Nat.mod_eq_of_lt (by omega)]
 rfl
theorem xsB_word(m:Nat->Bool)(L k j:Nat)(hk:k<nw L)(hj:j<8):xsB m L (8+(8*k+j))=beAt (pk m k) j:=by
 unfold xsB setB
 rw [List.getD,List.getElem?_append_right (by rw [Lib.byteCells_length,Lib.beBytes_length];omega),Lib.byteCells_length,Lib.beBytes_length,show 8+(8*k+j)-8=8*k+j by omega,flatW_at _ _ _ _ hk hj]
 rfl
theorem rdr_of{w w':World}{L rd:Nat}{m:Nat->Bool}{v:Value}(hL:L<=8000)(h:Lst w 5 1 v (setB m L).length (setB m L))(hrd:rd=w.heap.size)(hf:Fr (fun _=>False) w w')
  (hb:w'.heap[rd]? =some (.cells #[v,.int .i64 ((0:Nat):Int),.int .i64 (-1)] 153 (0,0))):∃s c,v= .slice (some ⟨s,0,none⟩) (setB m L).length c/\Rdr w' rd s (setB m L).length c 0 (xsB m L)/\s<w.heap.size:=by
 have hlen:=setB_length m L
 have hN:nw L<=125:=by unfold nw;omega
 obtain ⟨s,c,rfl,_⟩:=h.at (i:=0) (by omega)
 have hs:=h.own_lt s rfl
 refine ⟨s,c,rfl,⟨⟨_,hb⟩,fun j hj=>?_,fun j hj=>?_,⟨by omega,h.cap rfl⟩,by omega⟩,hs⟩
 ·obtain ⟨s2,c2,e2,y,hy,hc⟩:=h.at (i:=j) hj
  cases e2
  rw [show xsB m L j=y by unfold xsB;rw [List.getD,hy];rfl]
  exact (hf.cell (a:=⟨s,j,none⟩) hs (fun h=>h)).trans hc
 ·have h1:=List.getElem?_eq_getElem hj
  rw [show xsB m L j=(setB m L)[j] by unfold xsB;rw [List.getD,h1];rfl]
  exact setB_one m L _ (List.getElem_mem hj)
def UmP(w:World)(d L:Nat)(m:Nat->Bool)(e:Ending)(w':World):Prop:=e= .returned .nilIface/\∃v,BA w' d v L m/\Fr (fun r=>r=d) w w'/\∀r,v.ownBlock=some r->w.heap.size<=r
theorem unmarshal_c(d L:Nat)(v:Value)(m:Nat->Bool)(w:World)(hL:L<=8000)(hm:∀i,L<=i->m i=false)(hd:w.heap[d]? =some (.cells #[.int .u64 0,.slice none 0 0] 75 (0,0)))(hv:Lst w 5 1 v (setB m L).length (setB m L)):
  Calls Tryz.prog 113 #[.pointer (some ⟨d,0,none⟩),v] w (UmP w d L m):=by
 obtain ⟨A,c,rfl⟩:=hv.sl
 have HV:=Lib.hid hv;have HD:=Lib.hid hd;have HM:=Lib.hid hm
 clear hv hd hm
 go_enter Tryz.func113,Tryz.ntmps113
 go_wp2_with (go_at_call 111;refine (newReader_c _ _ _ w).mono ?_;rintro e w1 ⟨rfl,hb,hf⟩;refine Hid.out ?_)
 refine Lib.hid ?_
 have hlen:=setB_length m L
 obtain ⟨s,c2,e2,hr,hs⟩:=rdr_of hL HV.out rfl hf hb
 have hds:d≠s:=fun e=>by
  obtain ⟨s3,c3,e3,y,_,hc⟩:=HV.out.at (i:=0) (by omega)
  rw [e2]at e3
  cases e3
  have h1:=HV.out.2
  rcases h1 with ⟨h1,_⟩|⟨g,cap,cur,h1,_,hg,_⟩
  ·rw [h1]at e2;cases e2
  ·rw [h1]at e2;cases e2
   rw [<- e,HD.out]at hg
   simp at hg
 have hld:=hp_lt HD.out
 have CR:=readFrom_c d w.heap.size s _ c2 L (xsB m L) m w1 hL HM.out ((hf.keep d hld (fun h=>h)).trans HD.out) hr (by omega) (by omega) hds (fun j hj=>xsB_head m L j hL hj) (fun k hk j hj=>xsB_word m L k j hk hj)
 have HCR:=Lib.hid CR;have HF:=Lib.hid hf
 clear CR hr hb hf hds hlen
 go_wp2_with (go_at_call 110;refine HCR.out.mono ?_;rintro e w2 ⟨⟨z,rfl⟩,v2,h1,h2,h3⟩;refine Hid.out ?_)
 refine Lib.hid ?_
 have hfin:UmP w d L m (.returned .nilIface) w2:=⟨rfl,v2,h1,(HF.out.mono (fun r (h:False)=>h.elim)).trans' h2 (fun r hr=>hr.elim .inl (fun e=> .inr (by rw [e];exact Nat.le_refl _))),fun r hr=>Nat.le_trans HF.out.size (h3 r hr)⟩
 have HFIN:=Lib.hid hfin
 clear h1 h2 h3 hfin
 go_wp2
 go_ret
 exact HFIN.out
def ReadP(w:World)(L:Nat)(m:Nat->Bool)(e:Ending)(w':World):Prop:=∃b v,e= .returned (.tuple #[.pointer (some ⟨b,0,none⟩),.bool true])/\BA w' b v L m/\Fr (fun _=>False) w w'/\∀r,Own b v r->w.heap.size<=r
theorem read_stream(p L:Nat)(v:Value)(m:Nat->Bool)(w:World)(hL:L<=8000)(h:BA w p v L m):Calls Tryz.prog 70 #[.pointer (some ⟨p,0,none⟩),.bool true] w (ReadP w L m):=by
 have ho:=h.2.own_lt
 have hm:=h.1
 have HH:=Lib.hid h;have HO:=Lib.hid ho;have HM:=Lib.hid hm
 clear h ho hm
 go_enter Tryz.func70,Tryz.ntmps70
 go_wp2_with (go_at_call 109;refine Hid.out ?_)
 refine Lib.hid ?_
 have hp0:=hp_new w (.cells #[.int .u64 0,.slice none 0 0] 75)
 have hf0:Fr (fun _=>False) w (w.alloc (.cells #[.int .u64 0,.slice none 0 0] 75)):=(Fr.refl _ w).alloc _
 have hs0:(w.alloc (.cells #[.int .u64 0,.slice none 0 0] 75)).heap.size=w.heap.size+1:=World.size_alloc _ _
 generalize w.alloc (.cells #[.int .u64 0,.slice none 0 0] 75)=w0 at*
 have hb1:=Lib.fresh_isBuffer 121 5 w0
 have hf1:Fr (fun _=>False) w0 (w0.alloc (.cells #[.slice none 0 0,.int .i64 0,.int .i8 0] 121)):=(Fr.refl _ w0).alloc _
 rw [hs0]at hb1
 have hB1:BA (w0.alloc (.cells #[.slice none 0 0,.int .i64 0,.int .i8 0] 121)) p v L m:=⟨HH.out.1,HH.out.2.keep (hf0.trans hf1) (fun _ _ h=>h)⟩
 refine (writeTo_c p (w.heap.size+1) L v m _ hL hB1 hb1 (fun r hr=>by have:=HO.out r hr;omega)).mono ?_
 rintro e w2 ⟨⟨z,rfl⟩,hb2,hf2⟩
 have hd2:=(hf2.keep w.heap.size (by rw [World.size_alloc,hs0];omega) (by omega)).trans ((hf1.keep w.heap.size (by rw [hs0];omega) (fun h=>h)).trans hp0)
 have hF2:Fr (fun r=>w.heap.size+1<=r) w w2:=((hf0.trans hf1).mono (fun r (h:False)=>h.elim)).trans hf2
 have HB:=Lib.hid hb2;have HD2:=Lib.hid hd2;have HF:=Lib.hid hF2
 clear hp0 hf0 hs0 hb1 hf1 hB1 hb2 hf2 hd2 hF2
 go_wp2_with (go_at_call 112;refine (Tryz.Buffer_Bytes (w.heap.size+1) (w.heap.size+1) _ w2 HB.out).mono ?_;rintro e w3 ⟨v3,rfl,hv3,q,hq3⟩;obtain ⟨A3,c3,e3⟩:=(ownsRow_lst hv3).1.sl;subst e3;have HQ3:=Lib.hid hq3;have HV:=Lib.hid (ownsRow_lst hv3);clear hv3 hq3;refine Hid.out ?_)
 refine Lib.hid ?_
 have HF3:Hid (Fr (fun r=>w.heap.size+1<=r) w w3/\w3.heap[w.heap.size]? =some (.cells #[.int .u64 0,.slice none 0 0] 75 (0,0))):=by
  rw [HQ3.out];exact ⟨HF.out.drewN q,HD2.out⟩
 go_wp2_with (go_at_call 111;refine (newReader_c _ _ _ w3).mono ?_;rintro e w4 ⟨rfl,hb4,hf4⟩;refine Hid.out ?_)
 refine Lib.hid ?_
 obtain ⟨s,c2,e2,hr,hs⟩:=rdr_of hL HV.out.1 rfl hf4 hb4
 have hsz3:=HF3.out.1.size
 have hld:=hp_lt HF3.out.2
 have hds:w.heap.size≠s:=fun e=>by have:=HV.out.2 s (by rw [e2];rfl);omega
 have hlen:=setB_length m L
 have CR:=readFrom_c w.heap.size w3.heap.size s _ c2 L (xsB m L) m w4 hL HM.out ((hf4.keep _ hld (fun h=>h)).trans HF3.out.2) hr (by omega) (by omega) hds (fun j hj=>xsB_head m L j hL hj) (fun k hk j hj=>xsB_word m L k j hk hj)
 have HCR:=Lib.hid CR;have HF4:=Lib.hid hf4
 clear CR hr hb4 hf4 hds hlen
 go_wp2_with (go_at_call 110;refine HCR.out.mono ?_;rintro e w5 ⟨⟨z5,rfl⟩,v5,h1,h2,h3⟩;refine Hid.out ?_)
 refine Lib.hid ?_
 have hfin:∀n,ReadP w L m (.returned (.tuple #[.pointer (some ⟨w.heap.size,0,none⟩),.bool true])) (w5.drewN n):=fun n=>by
  have hf:=(HF3.out.1.trans (HF4.out.mono (fun r (h:False)=>h.elim))).trans' h2 (fun r hr=>hr.elim (fun e=> .inr (by rw [e];exact Nat.le_refl _)) (fun e=> .inr (by omega)))
  refine ⟨w.heap.size,v5,rfl,⟨h1.1,h1.2.drewN n⟩,⟨hf.os,hf.tape,hf.output,hf.size,fun r hr _=>hf.keep r hr (by omega)⟩,fun r hr=>?_⟩
  rcases hr with rfl|hr
  ·exact Nat.le_refl _
  ·have:=h3 r hr;have:=HF4.out.size;omega
 have HFIN:=Lib.hid hfin
 clear h1 h2 h3 hfin
 go_wp2
 go_quiet (fail)
 go_wp2
 go_ret2
 exact HFIN.out nq
theorem read_plain(p L:Nat)(v:Value)(m:Nat->Bool)(w:World)(hL:L<=8000)(h:BA w p v L m):Calls Tryz.prog 70 #[.pointer (some ⟨p,0,none⟩),.bool false] w (ReadP w L m):=by
 have hm:=h.1
 have HH:=Lib.hid h;have HM:=Lib.hid hm
 clear h hm
 go_enter Tryz.func70,Tryz.ntmps70
 go_wp2_with (go_at_call 78;refine Hid.out ?_)
 refine Lib.hid ?_
 have hp0:=hp_new w (.cells #[.int .u64 0,.slice none 0 0] 75)
 have hf0:Fr (fun _=>False) w (w.alloc (.cells #[.int .u64 0,.slice none 0 0] 75)):=(Fr.refl _ w).alloc _
 have hs0:(w.alloc (.cells #[.int .u64 0,.slice none 0 0] 75)).heap.size=w.heap.size+1:=World.size_alloc _ _
 generalize w.alloc (.cells #[.int .u64 0,.slice none 0 0] 75)=w0 at*
 have hB1:BA w0 p v L m:=⟨HH.out.1,HH.out.2.keep hf0 (fun _ _ h=>h)⟩
 refine (marshal_c p L v m w0 hL hB1).mono ?_
 rintro e w2 ⟨v2,rfl,hv2,hf2,ho2⟩
 have hd2:=(hf2.keep w.heap.size (by omega) (fun h=>h)).trans hp0
 obtain ⟨A2,c2,rfl⟩:=hv2.sl
 have HD2:=Lib.hid hd2;have HF:=Lib.hid (hf0.trans hf2);have HV:=Lib.hid hv2
 have HSZ:=Lib.hid (show w.heap.size<w2.heap.size by have:=hf2.size;omega)
 clear hp0 hf0 hs0 hB1 hf2 hd2 hv2 ho2
 have CC:∀w',Fr (fun _=>False) w2 w'->Calls Tryz.prog 79 #[.slice A2 (setB m L).length c2] w' (fun e w3=>∃v3,e= .returned v3/\Lst w3 5 1 v3 (setB m L).length (setB m L)/\Fr (fun _=>False) w2 w3):=fun w' hf=>
  (clone38_c _ _ _ w' ((HV.out.keep hf (fun _ _ h=>h)).src) (setB_one m L) (by rw [setB_length];unfold nw;omega)).mono fun e w3 h=>by
   obtain ⟨v3,he,hv3,hf3,_⟩:=h
   exact ⟨v3,he,hv3,hf.trans hf3⟩
 have CU:∀w',Fr (fun _=>False) w2 w'->∀v3,Lst w' 5 1 v3 (setB m L).length (setB m L)->Calls Tryz.prog 113 #[.pointer (some ⟨w.heap.size,0,none⟩),v3] w' (fun e w5=>e= .returned .nilIface/\∀n,ReadP w L m (.returned (.tuple #[.pointer (some ⟨w.heap.size,0,none⟩),.bool true])) (w5.drewN n)):=fun w' hf v3 hv3=>by
  refine (unmarshal_c w.heap.size L v3 m w' hL HM.out ((hf.keep w.heap.size HSZ.out (fun h=>h)).trans HD2.out) hv3).mono ?_
  rintro e w5 ⟨he,v5,h1,h2,h3⟩
  refine ⟨he,fun n=>?_⟩
  have hfr:Fr (fun _=>False) w w5:=(HF.out.trans hf).trans' h2 (fun r hr=> .inr (by rw [hr];exact Nat.le_refl _))
  refine ⟨w.heap.size,v5,rfl,⟨h1.1,h1.2.drewN n⟩,hfr.drewN n,fun r hr=>?_⟩
  rcases hr with rfl|hr
  ·exact Nat.le_refl _
  ·have:=h3 r hr;have:=(HF.out.trans hf).size;omega
 have HCC:=Lib.hid CC;have HCU:=Lib.hid CU
 clear CC CU
 go_wp2
 go_region_held3 (fun w'=>True) (trivial) (first
  |(go_at_call 79;refine (HCC.out _ (by repeat (first|exact Fr.refl _ _|apply Fr.drew|apply Fr.drewN|apply Fr.alloc))).mono ?_;rintro e w3 ⟨v3,rfl,hv3,hf3⟩)
  |(go_at_call 113;refine (HCU.out _ (by repeat (first|exact hf3|apply Fr.drew|apply Fr.drewN|apply Fr.alloc)) v3 (by first|exact hv3|exact hv3.drew)).mono ?_;rintro e w5 ⟨rfl,hfin⟩;have HFIN:=Lib.hid hfin;clear hfin)
  |fail)
 go_wp2
 go_ret2
 exact HFIN.out 0
structure Row4(w:World)(R:Nat)(bk:Nat->Nat):Prop where
 cell:∀i,i<4->w.cell? ⟨R,i,none⟩=some (.pointer (some ⟨bk i,0,none⟩))
 free:∀i,i<4->w.frozen? ⟨R,i,none⟩=false
theorem Row4.lt{w:World}{R:Nat}{bk:Nat->Nat}(h:Row4 w R bk):R<w.heap.size:=block_lt_of_cell (h.cell 0 (by omega))
def tldV(op:Int)(is:Bool)(n z:Int)(s:ByteArray)(l b:Value):Value:= .agg #[.int .i64 op,.bool is,.int .u64 n,.int .u64 z,.string s,l,b]
def OldT(w:World)(R r:Nat):Prop:=r<w.heap.size/\r≠R
def DoC(w:World)(R:Nat)(op:Int)(P:World->World->Prop)(e:Ending)(w':World):Prop:=
 e= .returned (tldV op false 0 0 { data:= #[] } (.slice none 0 0) (.slice none 0 0))/\∃w1 w2,Fr (fun _=>False) w w1/\w.heap.size+2<=w1.heap.size/\P w1 w2/\Fr (OldT w R) w1 w2/\Fr (· =w.heap.size+1) w2 w'
structure DiW(w w2:World)(R:Nat)(op:Int)(a b c fr to n:Nat)(wd:BitVec 64)(many:Value):Prop where
 p0:w2.heap[w.heap.size]? =some (istO op a b c fr to n wd many)
 p1:w2.heap[w.heap.size+1]? =some (tldO 0)
theorem diMid(R:Nat)(op:Int)(a b c fr to n nq:Nat)(wd:BitVec 64)(many:Value)(w:World):
  ∃w1,((w.alloc (istO op a b c fr to n wd many)).alloc (tldO 0)).drewN nq=w1/\Hid (DiW w w1 R op a b c fr to n wd many)/\Hid (Fr (fun _=>False) w w1)/\Hid (w.heap.size+2<=w1.heap.size):=by
 have h2:=hp_new (w.alloc (istO op a b c fr to n wd many)) (tldO 0)
 rw [World.size_alloc]at h2
 have hf:=(((Fr.refl (fun _=>False) w).alloc (istO op a b c fr to n wd many)).alloc (tldO 0)).drewN nq
 have hk:Fr (fun _=>False) ((w.alloc (istO op a b c fr to n wd many)).alloc (tldO 0)) (((w.alloc (istO op a b c fr to n wd many)).alloc (tldO 0)).drewN nq):=(Fr.refl _ _).drewN nq
 have hp0:=alloc_at (hp_new w (istO op a b c fr to n wd many)) (tldO 0)
 refine ⟨_,rfl,⟨(hk.keep _ (hp_lt hp0) (fun h=>h)).trans hp0,(hk.keep _ (hp_lt h2) (fun h=>h)).trans h2⟩,hf,?_⟩
 exact (by simp:w.heap.size+2<=(((w.alloc (istO op a b c fr to n wd many)).alloc (tldO 0)).drewN nq).heap.size)
theorem DiW.keep{w w1 w2:World}{R:Nat}{op:Int}{a b c fr to n:Nat}{wd:BitVec 64}{many:Value}(h:DiW w w1 R op a b c fr to n wd many)(k:Fr (OldT w R) w1 w2):DiW w w2 R op a b c fr to n wd many:=
 ⟨(k.keep _ (hp_lt h.p0) (fun h=>by have:=h.1;omega)).trans h.p0,(k.keep _ (hp_lt h.p1) (fun h=>by have:=h.1;omega)).trans h.p1⟩
theorem DiW.box{w w1:World}{R:Nat}{op:Int}{a b c fr to n:Nat}{wd:BitVec 64}{many:Value}(h:DiW w w1 R op a b c fr to n wd many):
  w1.cell? ⟨w.heap.size,0,none⟩=some (.int .i64 op)/\w1.cell? ⟨w.heap.size,1,none⟩=some (.int .i64 (a:Int))/\w1.cell? ⟨w.heap.size,2,none⟩=some (.int .i64 (b:Int))/\w1.cell? ⟨w.heap.size,3,none⟩=some (.int .i64 (c:Int))/\w1.cell? ⟨w.heap.size,4,none⟩=some (.int .u64 (fr:Int))/\
   w1.cell? ⟨w.heap.size,5,none⟩=some (.int .u64 (to:Int))/\w1.cell? ⟨w.heap.size,6,none⟩=some (.int .u64 (n:Int))/\w1.cell? ⟨w.heap.size,7,none⟩=some (WV wd)/\w1.cell? ⟨w.heap.size,8,none⟩=some many:=
 ⟨hp_cell h.p0 0 rfl,hp_cell h.p0 1 rfl,hp_cell h.p0 2 rfl,hp_cell h.p0 3 rfl,hp_cell h.p0 4 rfl,hp_cell h.p0 5 rfl,hp_cell h.p0 6 rfl,hp_cell h.p0 7 rfl,hp_cell h.p0 8 rfl⟩
theorem Row4.keep{w w':World}{T:Nat->Prop}{R:Nat}{bk:Nat->Nat}(h:Row4 w R bk)(k:Fr T w w')(hT:¬T R):Row4 w' R bk:=
 ⟨fun i hi=>(k.cell (a:=⟨R,i,none⟩) h.lt hT).trans (h.cell i hi),fun i hi=>by
  have hb:=k.keep R h.lt hT
  have hf:=h.free i hi
  unfold World.frozen? at hf ⊢
  rw [hb];exact hf⟩
theorem Row4.set{w:World}{R:Nat}{bk:Nat->Nat}(h:Row4 w R bk)(c d:Nat)(hc:c<4):Row4 (w.setCell ⟨R,c,none⟩ (.pointer (some ⟨d,0,none⟩))) R (upd bk c d):=by
 refine ⟨fun i hi=>?_,fun i hi=>by rw [World.frozen?_setCell];exact h.free i hi⟩
 unfold upd
 split
 ·next e=>subst e;exact World.cell?_setCell_same _ _ _ (h.cell i hi)
 ·next e=>rw [World.cell?_setCell_other _ _ _ _ (by intro h;cases h;exact e rfl)];exact h.cell i hi
def DoM(w:World)(R:Nat)(bk:Nat->Nat)(c:Nat)(op:Int)(is:Bool)(L:Nat)(m:Nat->Bool)(e:Ending)(w':World):Prop:=
 e= .returned (tldV op is 0 0 { data:= #[] } (.slice none 0 0) (.slice none 0 0))/\∃d v,BA w' d v L m/\(∀r,Own d v r->w.heap.size+2<=r)/\Fr (· =R) w w'/\Row4 w' R (upd bk c d)
theorem doM_end{w w1 w2 w4:World}{R c d L:Nat}{bk:Nat->Nat}{op:Int}{is:Bool}{v:Value}{m:Nat->Bool}(hc:c<4)(hr:Row4 w R bk)(hf1:Fr (fun _=>False) w w1)(hs1:w.heap.size+2<=w1.heap.size)
  (hba:BA w2 d v L m) (hf:Fr (fun _=>False) w1 w2) (ho:∀r,Own d v r->w1.heap.size<=r) (hg:Fr (· =w.heap.size+1) (w2.setCell ⟨R,c,none⟩ (.pointer (some ⟨d,0,none⟩))) w4):
  DoM w R bk c op is L m (.returned (.agg #[.int .i64 op,.bool is,.int .u64 0,.int .u64 0,.string { data:= #[] },.slice none 0 0,.slice none 0 0])) w4:=by
 have hR:=hr.lt
 have h2:=hf1.trans hf
 have h3:Fr (· =R) w2 (w2.setCell ⟨R,c,none⟩ (.pointer (some ⟨d,0,none⟩))):=(Fr.refl (· =R) w2).setCell (a:=⟨R,c,none⟩) (.inl rfl) _
 refine ⟨rfl,d,v,(hba.keep h3 (fun r hr e=>by have:=ho r hr;have e:r=R:=e;omega)).keep hg (fun r hr e=>by have:=ho r hr;have e:r=_:=e;omega),fun r hr=>by have:=ho r hr;omega,?_,?_⟩
 ·exact ((h2.mono (fun r (h:False)=>h.elim)).trans h3).trans' hg (fun r hr=> .inr (by have hr:r=_:=hr;omega))
 ·exact ((hr.keep h2 (fun h=>h)).set c d hc).keep hg (by omega)
def AskQ(w:World)(op:Int)(Q:Bool->Nat->Int->ByteArray->List Value->List Value->Prop)(e:Ending)(w':World):Prop:=
 ∃is n z s xs bs,Q is n z s xs bs/\TellP w op is n (.int .u64 z) s xs bs e w'
theorem askQ_end{w w1 w2 w4:World}{op:Int}{Q:Bool->Nat->Int->ByteArray->List Value->List Value->Prop}{is:Bool}{n n1 n2 c1 c2:Nat}{z:Int}{s:ByteArray}{xs bs:List Value}{A1 A2:Option Addr}
  (hn1:xs.length=n1) (hn2:bs.length=n2) (hq:Q is n z s xs bs) (hl:Lst w2 28 1 (.slice A1 n1 c1) n1 xs) (hb:Lst w2 5 1 (.slice A2 n2 c2) n2 bs) (hol:∀r,(Value.slice A1 n1 c1).ownBlock=some r->w1.heap.size<=r) (hob:∀r,(Value.slice A2 n2 c2).ownBlock=some r->w1.heap.size<=r)
  (hf1:Fr (fun _=>False) w w1) (hs1:w.heap.size+2<=w1.heap.size) (hf:Fr (fun _=>False) w1 w2) (hg:Fr (· =w.heap.size+1) w2 w4):
  AskQ w op Q (.returned (.agg #[.int .i64 op,.bool is,.int .u64 (n:Int),.int .u64 z,.string s,.slice A1 n1 c1,.slice A2 n2 c2])) w4:=by
 subst hn1;subst hn2
 exact ⟨is,n,z,s,xs,bs,hq,_,_,rfl,hl.keep hg (fun r hr e=>by have:=hol r hr;have e:r=_:=e;omega),hb.keep hg (fun r hr e=>by have:=hob r hr;have e:r=_:=e;omega),fun r hr=>by have:=hol r hr;omega,fun r hr=>by have:=hob r hr;omega,(hf1.trans hf).trans' hg (fun r hr=> .inr (by have hr:r=_:=hr;omega))⟩
theorem mde_16(a b c fr to n x y L:Nat)(wd:BitVec 64)(many:Value)(m:Nat->Bool)(w:World)(hc:∀w1,Fr (fun _=>False) w w1->Calls Tryz.prog 60 #[.pointer (some ⟨x,0,none⟩),.pointer (some ⟨y,0,none⟩)] w1 (MadeA w1 L m)):
  Calls Tryz.prog 36 #[istV 16 a b c fr to n wd many,.pointer (some ⟨x,0,none⟩),.pointer (some ⟨y,0,none⟩)] w (ReadP w L m):=by
 have H1:=Lib.hid ((Fr.refl (fun _=>False) w).alloc (istO 16 a b c fr to n wd many))
 have HC:=Lib.hid (hc _ H1.out)
 clear hc
 unfold istO at H1 HC
 unfold istV
 go_enter Tryz.func36,Tryz.ntmps36
 go_wp2_with (go_at_call 60;refine HC.out.mono ?_;rintro e w' ⟨d,v,rfl,hp⟩;refine Hid.out ?_)
 refine Lib.hid ?_
 have HP:=Lib.hid hp;clear hp
 go_wp2
 go_ret2
 have hs:=H1.out.size
 exact ⟨d,v,rfl,HP.out.1,H1.out.trans HP.out.2.1,fun r hr=>Nat.le_trans hs (HP.out.2.2 r hr)⟩
theorem mde_17(a b c fr to n x y L:Nat)(wd:BitVec 64)(many:Value)(m:Nat->Bool)(w:World)(hc:∀w1,Fr (fun _=>False) w w1->Calls Tryz.prog 61 #[.pointer (some ⟨x,0,none⟩),.pointer (some ⟨y,0,none⟩)] w1 (MadeA w1 L m)):
  Calls Tryz.prog 36 #[istV 17 a b c fr to n wd many,.pointer (some ⟨x,0,none⟩),.pointer (some ⟨y,0,none⟩)] w (ReadP w L m):=by
 have H1:=Lib.hid ((Fr.refl (fun _=>False) w).alloc (istO 17 a b c fr to n wd many))
 have HC:=Lib.hid (hc _ H1.out)
 clear hc
 unfold istO at H1 HC
 unfold istV
 go_enter Tryz.func36,Tryz.ntmps36
 go_wp2_with (go_at_call 61;refine HC.out.mono ?_;rintro e w' ⟨d,v,rfl,hp⟩;refine Hid.out ?_)
 refine Lib.hid ?_
 have HP:=Lib.hid hp;clear hp
 go_wp2
 go_ret2
 have hs:=H1.out.size
 exact ⟨d,v,rfl,HP.out.1,H1.out.trans HP.out.2.1,fun r hr=>Nat.le_trans hs (HP.out.2.2 r hr)⟩
theorem mde_18(a b c fr to n x y L:Nat)(wd:BitVec 64)(many:Value)(m:Nat->Bool)(w:World)(hc:∀w1,Fr (fun _=>False) w w1->Calls Tryz.prog 62 #[.pointer (some ⟨x,0,none⟩),.pointer (some ⟨y,0,none⟩)] w1 (MadeA w1 L m)):
  Calls Tryz.prog 36 #[istV 18 a b c fr to n wd many,.pointer (some ⟨x,0,none⟩),.pointer (some ⟨y,0,none⟩)] w (ReadP w L m):=by
 have H1:=Lib.hid ((Fr.refl (fun _=>False) w).alloc (istO 18 a b c fr to n wd many))
 have HC:=Lib.hid (hc _ H1.out)
 clear hc
 unfold istO at H1 HC
 unfold istV
 go_enter Tryz.func36,Tryz.ntmps36
 go_wp2_with (go_at_call 62;refine HC.out.mono ?_;rintro e w' ⟨d,v,rfl,hp⟩;refine Hid.out ?_)
 refine Lib.hid ?_
 have HP:=Lib.hid hp;clear hp
 go_wp2
 go_ret2
 have hs:=H1.out.size
 exact ⟨d,v,rfl,HP.out.1,H1.out.trans HP.out.2.1,fun r hr=>Nat.le_trans hs (HP.out.2.2 r hr)⟩
theorem mde_19(a b c fr to n x y L:Nat)(wd:BitVec 64)(many:Value)(m:Nat->Bool)(w:World)(hc:∀w1,Fr (fun _=>False) w w1->Calls Tryz.prog 63 #[.pointer (some ⟨x,0,none⟩),.pointer (some ⟨y,0,none⟩)] w1 (MadeA w1 L m)):
  Calls Tryz.prog 36 #[istV 19 a b c fr to n wd many,.pointer (some ⟨x,0,none⟩),.pointer (some ⟨y,0,none⟩)] w (ReadP w L m):=by
 have H1:=Lib.hid ((Fr.refl (fun _=>False) w).alloc (istO 19 a b c fr to n wd many))
 have HC:=Lib.hid (hc _ H1.out)
 clear hc
 unfold istO at H1 HC
 unfold istV
 go_enter Tryz.func36,Tryz.ntmps36
 go_wp2_with (go_at_call 63;refine HC.out.mono ?_;rintro e w' ⟨d,v,rfl,hp⟩;refine Hid.out ?_)
 refine Lib.hid ?_
 have HP:=Lib.hid hp;clear hp
 go_wp2
 go_ret2
 have hs:=H1.out.size
 exact ⟨d,v,rfl,HP.out.1,H1.out.trans HP.out.2.1,fun r hr=>Nat.le_trans hs (HP.out.2.2 r hr)⟩
theorem mde_20(a b c fr to n x y L:Nat)(wd:BitVec 64)(many:Value)(m:Nat->Bool)(w:World)(hc:∀w1,Fr (fun _=>False) w w1->Calls Tryz.prog 64 #[.pointer (some ⟨x,0,none⟩)] w1 (MadeA w1 L m)):
  Calls Tryz.prog 36 #[istV 20 a b c fr to n wd many,.pointer (some ⟨x,0,none⟩),.pointer (some ⟨y,0,none⟩)] w (ReadP w L m):=by
 have H1:=Lib.hid ((Fr.refl (fun _=>False) w).alloc (istO 20 a b c fr to n wd many))
 have HC:=Lib.hid (hc _ H1.out)
 clear hc
 unfold istO at H1 HC
 unfold istV
 go_enter Tryz.func36,Tryz.ntmps36
 go_wp2_with (go_at_call 64;refine HC.out.mono ?_;rintro e w' ⟨d,v,rfl,hp⟩;refine Hid.out ?_)
 refine Lib.hid ?_
 have HP:=Lib.hid hp;clear hp
 go_wp2
 go_ret2
 have hs:=H1.out.size
 exact ⟨d,v,rfl,HP.out.1,H1.out.trans HP.out.2.1,fun r hr=>Nat.le_trans hs (HP.out.2.2 r hr)⟩
theorem mde_21(a b c fr to n x y L:Nat)(wd:BitVec 64)(many:Value)(m:Nat->Bool)(w:World)(hc:∀w1,Fr (fun _=>False) w w1->Calls Tryz.prog 65 #[.pointer (some ⟨x,0,none⟩)] w1 (MadeA w1 L m)):
  Calls Tryz.prog 36 #[istV 21 a b c fr to n wd many,.pointer (some ⟨x,0,none⟩),.pointer (some ⟨y,0,none⟩)] w (ReadP w L m):=by
 have H1:=Lib.hid ((Fr.refl (fun _=>False) w).alloc (istO 21 a b c fr to n wd many))
 have HC:=Lib.hid (hc _ H1.out)
 clear hc
 unfold istO at H1 HC
 unfold istV
 go_enter Tryz.func36,Tryz.ntmps36
 go_wp2_with (go_at_call 65;refine HC.out.mono ?_;rintro e w' ⟨d,v,rfl,hp⟩;refine Hid.out ?_)
 refine Lib.hid ?_
 have HP:=Lib.hid hp;clear hp
 go_wp2
 go_ret2
 have hs:=H1.out.size
 exact ⟨d,v,rfl,HP.out.1,H1.out.trans HP.out.2.1,fun r hr=>Nat.le_trans hs (HP.out.2.2 r hr)⟩
theorem mde_26(a b c fr to n x y L:Nat)(wd:BitVec 64)(many:Value)(m:Nat->Bool)(w:World)(hc:∀w1,Fr (fun _=>False) w w1->Calls Tryz.prog 66 #[.pointer (some ⟨x,0,none⟩),.pointer (some ⟨y,0,none⟩)] w1 (MadeA w1 L m)):
  Calls Tryz.prog 36 #[istV 26 a b c fr to n wd many,.pointer (some ⟨x,0,none⟩),.pointer (some ⟨y,0,none⟩)] w (ReadP w L m):=by
 have H1:=Lib.hid ((Fr.refl (fun _=>False) w).alloc (istO 26 a b c fr to n wd many))
 have HC:=Lib.hid (hc _ H1.out)
 clear hc
 unfold istO at H1 HC
 unfold istV
 go_enter Tryz.func36,Tryz.ntmps36
 go_wp2_with (go_at_call 66;refine HC.out.mono ?_;rintro e w' ⟨d,v,rfl,hp⟩;refine Hid.out ?_)
 refine Lib.hid ?_
 have HP:=Lib.hid hp;clear hp
 go_wp2
 go_ret2
 have hs:=H1.out.size
 exact ⟨d,v,rfl,HP.out.1,H1.out.trans HP.out.2.1,fun r hr=>Nat.le_trans hs (HP.out.2.2 r hr)⟩
theorem mde_27(a b c fr to n x y L:Nat)(wd:BitVec 64)(many:Value)(m:Nat->Bool)(w:World)(hc:∀w1,Fr (fun _=>False) w w1->Calls Tryz.prog 67 #[.pointer (some ⟨x,0,none⟩),.pointer (some ⟨y,0,none⟩)] w1 (MadeA w1 L m)):
  Calls Tryz.prog 36 #[istV 27 a b c fr to n wd many,.pointer (some ⟨x,0,none⟩),.pointer (some ⟨y,0,none⟩)] w (ReadP w L m):=by
 have H1:=Lib.hid ((Fr.refl (fun _=>False) w).alloc (istO 27 a b c fr to n wd many))
 have HC:=Lib.hid (hc _ H1.out)
 clear hc
 unfold istO at H1 HC
 unfold istV
 go_enter Tryz.func36,Tryz.ntmps36
 go_wp2_with (go_at_call 67;refine HC.out.mono ?_;rintro e w' ⟨d,v,rfl,hp⟩;refine Hid.out ?_)
 refine Lib.hid ?_
 have HP:=Lib.hid hp;clear hp
 go_wp2
 go_ret2
 have hs:=H1.out.size
 exact ⟨d,v,rfl,HP.out.1,H1.out.trans HP.out.2.1,fun r hr=>Nat.le_trans hs (HP.out.2.2 r hr)⟩
theorem mde_30(a b c fr to n x y L:Nat)(wd:BitVec 64)(many:Value)(m:Nat->Bool)(w:World)(hc:∀w1,Fr (fun _=>False) w w1->Calls Tryz.prog 71 #[.int .u64 (n:Int)] w1 (MadeA w1 L m)):
  Calls Tryz.prog 36 #[istV 30 a b c fr to n wd many,.pointer (some ⟨x,0,none⟩),.pointer (some ⟨y,0,none⟩)] w (ReadP w L m):=by
 have H1:=Lib.hid ((Fr.refl (fun _=>False) w).alloc (istO 30 a b c fr to n wd many))
 have HC:=Lib.hid (hc _ H1.out)
 clear hc
 unfold istO at H1 HC
 unfold istV
 go_enter Tryz.func36,Tryz.ntmps36
 go_wp2_with (go_at_call 71;refine HC.out.mono ?_;rintro e w' ⟨d,v,rfl,hp⟩;refine Hid.out ?_)
 refine Lib.hid ?_
 have HP:=Lib.hid hp;clear hp
 go_wp2
 go_ret2
 have hs:=H1.out.size
 exact ⟨d,v,rfl,HP.out.1,H1.out.trans HP.out.2.1,fun r hr=>Nat.le_trans hs (HP.out.2.2 r hr)⟩
theorem mde_29(a b c fr to n x y L:Nat)(t:Bool)(wd:BitVec 64)(many:Value)(m:Nat->Bool)(w:World)(ht:(((n:Int)%2)==1)=t)(hc:∀w1,Fr (fun _=>False) w w1->Calls Tryz.prog 70 #[.pointer (some ⟨x,0,none⟩),.bool t] w1 (ReadP w1 L m)):
  Calls Tryz.prog 36 #[istV 29 a b c fr to n wd many,.pointer (some ⟨x,0,none⟩),.pointer (some ⟨y,0,none⟩)] w (ReadP w L m):=by
 have H1:=Lib.hid ((Fr.refl (fun _=>False) w).alloc (istO 29 a b c fr to n wd many))
 have HC:=Lib.hid (hc _ H1.out)
 clear hc
 unfold istO at H1 HC
 unfold istV
 go_enter Tryz.func36,Tryz.ntmps36
 go_wp2_with (go_at_call 70;refine HC.out.mono ?_;rintro e w' ⟨d,v,rfl,hp⟩;refine Hid.out ?_)
 refine Lib.hid ?_
 have HP:=Lib.hid hp;clear hp
 go_wp2
 go_ret2
 have hs:=H1.out.size
 exact ⟨d,v,rfl,HP.out.1,H1.out.trans HP.out.2.1,fun r hr=>Nat.le_trans hs (HP.out.2.2 r hr)⟩
theorem mde_28(a b c fr to n x y k:Nat)(wd:BitVec 64)(many:Value)(ws:List (BitVec 64))(w:World)(hk:k=ws.length)(hm:ws.length<=500)(hs:Src w 1 many k (ws.map WV)):
  Calls Tryz.prog 36 #[istV 28 a b c fr to n wd many,.pointer (some ⟨x,0,none⟩),.pointer (some ⟨y,0,none⟩)] w (ReadP w (64*k) (mW ws)):=by
 have H1:=Lib.hid ((Fr.refl (fun _=>False) w).alloc (istO 28 a b c fr to n wd many))
 have HC:=Lib.hid (words69_w many k ws _ (hs.keep H1.out (fun _ _ h=>h)) (by omega))
 have HK:=Lib.hid hk
 have HM:=Lib.hid hm
 clear hk hm
 clear hs
 unfold istO at H1 HC
 unfold istV
 go_enter Tryz.func36,Tryz.ntmps36
 go_wp2_with (go_at_call 69;refine HC.out.mono ?_;rintro e w' ⟨v,rfl,hp⟩;refine Hid.out ?_)
 refine Lib.hid ?_
 have HF:=Lib.hid (from_c v ws w' (by rw [<- HK.out];exact hp.1) hp.2.1 HM.out)
 have HP:=Lib.hid hp;clear hp
 go_wp2_with (go_at_call 68;refine HF.out.mono ?_;rintro e w2 ⟨d,rfl,hp,hp2,rfl⟩;refine Hid.out ?_)
 refine Lib.hid ?_
 have HQ:=Lib.hid (And.intro hp hp2);clear hp hp2
 go_wp2
 go_ret2
 have hs:=H1.out.size
 have hs2:=HP.out.2.2.1.size
 refine ⟨_,v,rfl,by rw [HK.out];exact HQ.out.1,(H1.out.trans HP.out.2.2.1).trans HQ.out.2,?_⟩
 rintro r (rfl|hr)
 ·omega
 ·have:=HP.out.2.2.2 r hr;omega
theorem dim_lo(op:Int)(a b c fr to n R cR:Nat)(wd:BitVec 64)(many:Value)(bk:Nat->Nat)(P:World->World->Prop)(w:World)(hop:op<16)(ha:a<4)(hb:b<4)(hc4:c<4)(hr:Row4 w R bk)
  (hc:∀w1,Fr (fun _=>False) w w1->w.heap.size+2<=w1.heap.size->Calls Tryz.prog 35 #[istV op a b c fr to n wd many,.pointer (some ⟨bk a,0,none⟩),.pointer (some ⟨bk b,0,none⟩)] w1 (fun e w'=>e= .returned (.tuple #[])/\P w1 w'/\Fr (OldT w R) w1 w')):
  Calls Tryz.prog 30 #[istV op a b c fr to n wd many,.slice (some ⟨R,0,none⟩) 4 cR] w (DoC w R op P):=by
 have ca:=hr.cell a ha
 have ia:(0:Int)<=(a:Int)/\(a:Int)<(4:Nat):=by omega
 have cb:=hr.cell b hb
 have ib:(0:Int)<=(b:Int)/\(b:Int)<(4:Nat):=by omega
 have hR:=hr.lt
 have n0:¬R=w.heap.size:=by omega
 have n1:¬R=w.heap.size+1:=by omega
 have l1:R<w.heap.size+1:=by omega
 have t22:(op==22)=false:=by simp;omega
 have t23:(op==23)=false:=by simp;omega
 have t16:decide (op<16)=true:=by simp;omega
 have HC:=Lib.hid hc
 have HR4:=Lib.hid hr
 clear hc hr hop
 unfold istV
 go_enter Tryz.func30,Tryz.ntmps30
 go_wp2
 go_quiet (fail)
 obtain ⟨w1,hw1,HD,HF1,HS1⟩:=diMid R op a b c fr to n nq wd many w
 unfold istO tldO at hw1
 rw [hw1];clear hw1
 obtain ⟨b0,b1,b2,b3,b4,b5,b6,b7,b8⟩:=HD.out.box
 go_wp2_with (go_at_call 35;refine (HC.out _ HF1.out HS1.out).mono ?_;rintro e w2 ⟨rfl,hp,hf⟩;refine Hid.out ?_)
 refine Lib.hid ?_
 have HK:=Lib.hid (HD.out.keep hf);have HP:=Lib.hid hp;have HF:=Lib.hid hf
 clear hp hf b0 b1 b2 b3 b4 b5 b6 b7 b8
 obtain ⟨b0,-⟩:=HK.out.box
 obtain ⟨e0,f0,e1,f1,e2,f2,e3,f3,e4,f4,e5,f5,e6,f6⟩:=sev HK.out.p1
 go_wp2
 clear e0 e1 e2 e3 e4 e5 e6 f0 f1 f2 f3 f4 f5 f6 b0
 obtain ⟨w4,hw4,e0,e1,e2,e3,e4,e5,e6,HG⟩:=telEndY (w:=w) HK.out.p1 (.int .i64 (op)) (.bool false) (.int .u64 0) (.int .u64 0) (.string { data:= #[] }) (.slice none 0 0) (.slice none 0 0)
 rw [hw4];clear hw4
 simp [bodyPost,results,Tryz.f30,go_sem,e0,e1,e2,e3,e4,e5,e6]
 exact ⟨rfl,w1,w2,HF1.out,HS1.out,HP.out,HF.out,HG.out⟩
theorem dim_24(a b c fr to n R cR:Nat)(wd:BitVec 64)(many:Value)(bk:Nat->Nat)(P:World->World->Prop)(w:World)(ha:a<4)(hb:b<4)(hc4:c<4)(hr:Row4 w R bk)
  (hc:∀w1,Fr (fun _=>False) w w1->w.heap.size+2<=w1.heap.size->Calls Tryz.prog 35 #[istV 24 a b c fr to n wd many,.pointer (some ⟨bk a,0,none⟩),.pointer (some ⟨bk b,0,none⟩)] w1 (fun e w'=>e= .returned (.tuple #[])/\P w1 w'/\Fr (OldT w R) w1 w')):
  Calls Tryz.prog 30 #[istV 24 a b c fr to n wd many,.slice (some ⟨R,0,none⟩) 4 cR] w (DoC w R 24 P):=by
 have ca:=hr.cell a ha
 have ia:(0:Int)<=(a:Int)/\(a:Int)<(4:Nat):=by omega
 have cb:=hr.cell b hb
 have ib:(0:Int)<=(b:Int)/\(b:Int)<(4:Nat):=by omega
 have hR:=hr.lt
 have n0:¬R=w.heap.size:=by omega
 have n1:¬R=w.heap.size+1:=by omega
 have l1:R<w.heap.size+1:=by omega
 have HC:=Lib.hid hc
 have HR4:=Lib.hid hr
 clear hc hr
 unfold istV
 go_enter Tryz.func30,Tryz.ntmps30
 go_wp2
 go_quiet (fail)
 obtain ⟨w1,hw1,HD,HF1,HS1⟩:=diMid R 24 a b c fr to n nq wd many w
 unfold istO tldO at hw1
 rw [hw1];clear hw1
 obtain ⟨b0,b1,b2,b3,b4,b5,b6,b7,b8⟩:=HD.out.box
 go_wp2_with (go_at_call 35;refine (HC.out _ HF1.out HS1.out).mono ?_;rintro e w2 ⟨rfl,hp,hf⟩;refine Hid.out ?_)
 refine Lib.hid ?_
 have HK:=Lib.hid (HD.out.keep hf);have HP:=Lib.hid hp;have HF:=Lib.hid hf
 clear hp hf b0 b1 b2 b3 b4 b5 b6 b7 b8
 obtain ⟨b0,-⟩:=HK.out.box
 obtain ⟨e0,f0,e1,f1,e2,f2,e3,f3,e4,f4,e5,f5,e6,f6⟩:=sev HK.out.p1
 go_wp2
 clear e0 e1 e2 e3 e4 e5 e6 f0 f1 f2 f3 f4 f5 f6 b0
 obtain ⟨w4,hw4,e0,e1,e2,e3,e4,e5,e6,HG⟩:=telEndY (w:=w) HK.out.p1 (.int .i64 (24)) (.bool false) (.int .u64 0) (.int .u64 0) (.string { data:= #[] }) (.slice none 0 0) (.slice none 0 0)
 rw [hw4];clear hw4
 simp [bodyPost,results,Tryz.f30,go_sem,e0,e1,e2,e3,e4,e5,e6]
 exact ⟨rfl,w1,w2,HF1.out,HS1.out,HP.out,HF.out,HG.out⟩
theorem dim_25(a b c fr to n R cR:Nat)(wd:BitVec 64)(many:Value)(bk:Nat->Nat)(P:World->World->Prop)(w:World)(ha:a<4)(hb:b<4)(hc4:c<4)(hr:Row4 w R bk)
  (hc:∀w1,Fr (fun _=>False) w w1->w.heap.size+2<=w1.heap.size->Calls Tryz.prog 35 #[istV 25 a b c fr to n wd many,.pointer (some ⟨bk a,0,none⟩),.pointer (some ⟨bk b,0,none⟩)] w1 (fun e w'=>e= .returned (.tuple #[])/\P w1 w'/\Fr (OldT w R) w1 w')):
  Calls Tryz.prog 30 #[istV 25 a b c fr to n wd many,.slice (some ⟨R,0,none⟩) 4 cR] w (DoC w R 25 P):=by
 have ca:=hr.cell a ha
 have ia:(0:Int)<=(a:Int)/\(a:Int)<(4:Nat):=by omega
 have cb:=hr.cell b hb
 have ib:(0:Int)<=(b:Int)/\(b:Int)<(4:Nat):=by omega
 have hR:=hr.lt
 have n0:¬R=w.heap.size:=by omega
 have n1:¬R=w.heap.size+1:=by omega
 have l1:R<w.heap.size+1:=by omega
 have HC:=Lib.hid hc
 have HR4:=Lib.hid hr
 clear hc hr
 unfold istV
 go_enter Tryz.func30,Tryz.ntmps30
 go_wp2
 go_quiet (fail)
 obtain ⟨w1,hw1,HD,HF1,HS1⟩:=diMid R 25 a b c fr to n nq wd many w
 unfold istO tldO at hw1
 rw [hw1];clear hw1
 obtain ⟨b0,b1,b2,b3,b4,b5,b6,b7,b8⟩:=HD.out.box
 go_wp2_with (go_at_call 35;refine (HC.out _ HF1.out HS1.out).mono ?_;rintro e w2 ⟨rfl,hp,hf⟩;refine Hid.out ?_)
 refine Lib.hid ?_
 have HK:=Lib.hid (HD.out.keep hf);have HP:=Lib.hid hp;have HF:=Lib.hid hf
 clear hp hf b0 b1 b2 b3 b4 b5 b6 b7 b8
 obtain ⟨b0,-⟩:=HK.out.box
 obtain ⟨e0,f0,e1,f1,e2,f2,e3,f3,e4,f4,e5,f5,e6,f6⟩:=sev HK.out.p1
 go_wp2
 clear e0 e1 e2 e3 e4 e5 e6 f0 f1 f2 f3 f4 f5 f6 b0
 obtain ⟨w4,hw4,e0,e1,e2,e3,e4,e5,e6,HG⟩:=telEndY (w:=w) HK.out.p1 (.int .i64 (25)) (.bool false) (.int .u64 0) (.int .u64 0) (.string { data:= #[] }) (.slice none 0 0) (.slice none 0 0)
 rw [hw4];clear hw4
 simp [bodyPost,results,Tryz.f30,go_sem,e0,e1,e2,e3,e4,e5,e6]
 exact ⟨rfl,w1,w2,HF1.out,HS1.out,HP.out,HF.out,HG.out⟩
theorem dim_23(a b c fr to n R cR:Nat)(wd:BitVec 64)(many:Value)(bk:Nat->Nat)(P:World->World->Prop)(w:World)(ha:a<4)(hb:b<4)(hc4:c<4)(hr:Row4 w R bk)
  (hc:∀w1,Fr (fun _=>False) w w1->w.heap.size+2<=w1.heap.size->Calls Tryz.prog 34 #[.pointer (some ⟨bk a,0,none⟩),.pointer (some ⟨bk c,0,none⟩)] w1 (fun e w'=>e= .returned (.tuple #[])/\P w1 w'/\Fr (OldT w R) w1 w')):
  Calls Tryz.prog 30 #[istV 23 a b c fr to n wd many,.slice (some ⟨R,0,none⟩) 4 cR] w (DoC w R 23 P):=by
 have ca:=hr.cell a ha
 have ia:(0:Int)<=(a:Int)/\(a:Int)<(4:Nat):=by omega
 have cb:=hr.cell b hb
 have ib:(0:Int)<=(b:Int)/\(b:Int)<(4:Nat):=by omega
 have hR:=hr.lt
 have n0:¬R=w.heap.size:=by omega
 have n1:¬R=w.heap.size+1:=by omega
 have l1:R<w.heap.size+1:=by omega
 have ic:(0:Int)<=(c:Int)/\(c:Int)<(4:Nat):=by omega
 have HC:=Lib.hid hc
 have HR4:=Lib.hid hr
 clear hc hr
 unfold istV
 go_enter Tryz.func30,Tryz.ntmps30
 go_wp2
 go_quiet (fail)
 obtain ⟨w1,hw1,HD,HF1,HS1⟩:=diMid R 23 a b c fr to n nq wd many w
 unfold istO tldO at hw1
 rw [hw1];clear hw1
 obtain ⟨b0,b1,b2,b3,b4,b5,b6,b7,b8⟩:=HD.out.box
 have cc:=(HF1.out.cell (a:=⟨R,c,none⟩) (show R<w.heap.size from hR) (fun h=>h)).trans (HR4.out.cell c hc4)
 go_wp2_with (go_at_call 34;refine (HC.out _ HF1.out HS1.out).mono ?_;rintro e w2 ⟨rfl,hp,hf⟩;refine Hid.out ?_)
 refine Lib.hid ?_
 have HK:=Lib.hid (HD.out.keep hf);have HP:=Lib.hid hp;have HF:=Lib.hid hf
 clear hp hf b0 b1 b2 b3 b4 b5 b6 b7 b8
 obtain ⟨b0,-⟩:=HK.out.box
 obtain ⟨e0,f0,e1,f1,e2,f2,e3,f3,e4,f4,e5,f5,e6,f6⟩:=sev HK.out.p1
 go_wp2
 clear e0 e1 e2 e3 e4 e5 e6 f0 f1 f2 f3 f4 f5 f6 b0
 obtain ⟨w4,hw4,e0,e1,e2,e3,e4,e5,e6,HG⟩:=telEndY (w:=w) HK.out.p1 (.int .i64 (23)) (.bool false) (.int .u64 0) (.int .u64 0) (.string { data:= #[] }) (.slice none 0 0) (.slice none 0 0)
 rw [hw4];clear hw4
 simp [bodyPost,results,Tryz.f30,go_sem,e0,e1,e2,e3,e4,e5,e6]
 exact ⟨rfl,w1,w2,HF1.out,HS1.out,HP.out,HF.out,HG.out⟩
end Go.Proofs.YtobdfhlmipcjbaaGreatDoor
