/- Words packed by a mask: pext. No condition. Shrink and Compact: the set made shorter, its numbers below the new length stay. No condition beyond the set's own. spec: big, place: a word's eight bytes; an answer that is a place. No condition. Two sets alike: Equal. No condition beyond the sets' own. InsertAt and DeleteAt: a place is put between, is left out. Conditions: the place lies below the length, the length below 50,000. The next number from one on: NextSet, NextClear. Conditions: the table of the first bit lies as laid. -/
import Derived.Test.YtobdfhlmipcjbaaGreatDoorG01
import Derived.Test.YtobdfhlmipcjbaaGreatDoorG03
set_option linter.unusedVariables false
set_option linter.unusedSimpArgs false
set_option maxHeartbeats 2000000
set_option maxRecDepth 100000
namespace Go.Proofs.YtobdfhlmipcjbaaGreatDoor
open Go.RowKit Pop
def byteOf(x:BitVec 64)(k:Nat):BitVec 8:=(x>>>(8*k)).setWidth 8
theorem byteOf_bit(x:BitVec 64)(k j:Nat)(hj:j<8):(byteOf x k).getLsbD j=x.getLsbD (8*k+j):=by
 unfold byteOf
 rw [BitVec.getLsbD_setWidth,BitVec.getLsbD_ushiftRight];simp [hj]
theorem byteOf_wn(x:BitVec 64)(k:Nat):wn (x>>>(8*k))%256=bn (byteOf x k):=by
 unfold wn bn byteOf
 rw [BitVec.toNat_setWidth];rfl
theorem bn_wide(e:BitVec 8):bn e=wn (e.setWidth 64):=by
 unfold wn bn
 rw [BitVec.toNat_setWidth,Nat.mod_eq_of_lt (by have:=e.isLt;omega)]
theorem exL_add(b m:Nat->Bool)(a n:Nat):exL b m (a+n)=exL b m a++exL (fun i=>b (a+i)) (fun i=>m (a+i)) n:=by
 induction n with
 |zero=>simp [exL]
 |succ n ih=>
  show exL b m (a+n)++(if m (a+n) then [b (a+n)] else [])=_
  rw [ih,List.append_assoc];rfl
theorem cntN_add2(m:Nat->Bool)(a n:Nat):cntN m (a+n)=cntN m a+cntN (fun i=>m (a+i)) n:=by
 induction n with
 |zero=>rfl
 |succ n ih=>
  show cntN m (a+n)+(if m (a+n) then 1 else 0)=cntN m a+(cntN (fun i=>m (a+i)) n+(if m (a+n) then 1 else 0))
  rw [ih];omega
theorem pext_c(x m:BitVec 64)(w:World):
  Calls Tryz.prog 129 #[WV x,WV m] w fun e w'=>(∃r,e= .returned (WV r)/\∀p,p<64->r.getLsbD p=(exL x.getLsbD m.getLsbD 64).getD p false)/\w'=w:=by
 go_enter Tryz.func129,Tryz.ntmps129
 go_wp2
 go_loopw [4,5,6] (fun r p i wr=>∃(k:Nat) (y:BitVec 64),k<=8/\i= .int .i64 (k:Int)/\p= .int .u64 ((cntN m.getLsbD (8*k):Nat):Int)/\r=WV y/\(∀p,p<64->y.getLsbD p=(exL x.getLsbD m.getLsbD (8*k)).getD p false)/\wr=w) (fun _ _ i _=>8-(intOf i).toNat)
 case atStart=>exact ⟨0,0,by omega,rfl,rfl,rfl,fun p _=>by simp [exL],rfl⟩
 case round=>
  obtain ⟨k,y,hk,rfl,rfl,rfl,hx,rfl⟩:=hrel
  have hcl:=cntN_le m.getLsbD (8*k)
  have HX:=Lib.hid hx;clear hx
  by_cases hlt:k<8
  ·obtain ⟨q,hq⟩:∃q,q=cntN m.getLsbD (8*k):=⟨_,rfl⟩
   rw [<- hq]at hcl ⊢
   obtain ⟨xa,hxa⟩:∃y,y=x>>>(8*k):=⟨_,rfl⟩
   obtain ⟨ma,hma⟩:∃y,y=m>>>(8*k):=⟨_,rfl⟩
   obtain ⟨xb,hxb⟩:∃y,y=byteOf x k:=⟨_,rfl⟩
   obtain ⟨mb,hmb⟩:∃y,y=byteOf m k:=⟨_,rfl⟩
   have j1:((k:Int)*8).toNat=8*k:=by omega
   have e1:wn x/(2:Int)^(8*k)=wn xa:=by rw [hxa];exact wn_shr _ _
   have e2:wn m/(2:Int)^(8*k)=wn ma:=by rw [hma];exact wn_shr _ _
   have e3:wn xa%256=bn xb:=by rw [hxa,hxb];exact byteOf_wn _ _
   have e4:wn ma%256=bn mb:=by rw [hma,hmb];exact byteOf_wn _ _
   have hb1:0<=bn xb/\bn xb<=255:=by unfold bn;have:=xb.isLt;omega
   have hb2:0<=bn mb/\bn mb<=255:=by unfold bn;have:=mb.isLt;omega
   obtain ⟨c8,hc8⟩:∃c,c=cntN mb.getLsbD 8:=⟨_,rfl⟩
   have hc8b:c8<=8:=by rw [hc8];exact cntN_le _ _
   have hpop:∀w,Calls Tryz.prog 142 #[.int .u8 (bn mb)] w fun e w'=>e= .returned (.int .u8 (c8:Int))/\w'=w:=fun w=>by rw [hc8];exact popByte_c mb w
   have hpos:cntN m.getLsbD (8*(k+1))=q+c8:=by
    rw [show 8*(k+1)=8*k+8 by omega,cntN_add2,<- hq,hc8]
    congr 1
    exact cntN_ext _ (fun i hi=>by rw [hmb,byteOf_bit m k i hi])
   have hlen:(exL x.getLsbD m.getLsbD (8*k)).length=q:=by rw [exL_length,hq]
   have hex:exL x.getLsbD m.getLsbD (8*(k+1))=exL x.getLsbD m.getLsbD (8*k)++exL xb.getLsbD mb.getLsbD 8:=by
    rw [show 8*(k+1)=8*k+8 by omega,exL_add]
    congr 1
    exact exL_ext _ (fun i hi=>⟨by rw [hmb,byteOf_bit m k i hi],fun _=>by rw [hxb,byteOf_bit x k i hi]⟩)
   have hlen8:(exL xb.getLsbD mb.getLsbD 8).length<=8:=by rw [exL_length];exact cntN_le _ _
   have HPOP:=Lib.hid hpop;have HPOS:=Lib.hid hpos;have HLEN:=Lib.hid hlen;have HEX:=Lib.hid hex;have HL8:=Lib.hid hlen8
   clear hpop hpos hlen hex hxa hma hxb hmb hc8 hq hlen8
   go_wp2_with (first|(go_at_call 141;refine (pextByte_c xb mb _).mono ?_;rintro e w' ⟨⟨ex,rfl,hex⟩,rfl⟩;have HE:=Lib.hid hex;clear hex;refine Hid.out ?_)|(go_at_call 142;refine (HPOP.out _).mono ?_;rintro e w' ⟨rfl,rfl⟩))
   refine Lib.hid ?_
   obtain ⟨E,hE⟩:∃E,E=ex.setWidth 64:=⟨_,rfl⟩
   have e5:bn ex=wn E:=by rw [hE];exact bn_wide ex
   obtain ⟨F,hF⟩:∃F,F=E<<<q:=⟨_,rfl⟩
   have e6:IntKind.u64.wrap (wn E*(2:Int)^q)=wn F:=by rw [hF];exact wn_shl _ _
   have e7:=wn_or y F
   have hbE:=wn_bd E
   have hbits:∀p,p<64->(y|||F).getLsbD p=(exL x.getLsbD m.getLsbD (8*(k+1))).getD p false:=fun p hp=>by
    rw [BitVec.getLsbD_or,HX.out p hp,hF,BitVec.getLsbD_shiftLeft,HEX.out]
    simp only [List.getD,List.getElem?_append,HLEN.out]
    have d1:decide (p<64)=true:=by simpa using hp
    rw [d1]
    rcases Nat.lt_or_ge p q with h|h
    ·have d2:decide (p<q)=true:=by simpa using h
     rw [if_pos h,d2];simp
    ·have d2:decide (p<q)=false:=by simp;omega
     rw [if_neg (by omega),d2,show (exL x.getLsbD m.getLsbD (8*k))[p]? =none from List.getElem?_eq_none (by rw [HLEN.out];omega),hE,BitVec.getLsbD_setWidth]
     rcases Nat.lt_or_ge (p-q) 8 with h8|h8
     ·rw [HE.out _ h8]
      have d3:decide (p-q<64)=true:=by simp;omega
      rw [d3];simp [List.getD]
     ·rw [BitVec.getLsbD_of_ge ex _ h8,List.getElem?_eq_none (by have:=HL8.out;omega)];simp
   have HBT:=Lib.hid hbits;clear hbits hE hF
   go_wp2_with (first|(go_at_call 142;refine (HPOP.out _).mono ?_;rintro e w' ⟨rfl,rfl⟩))
   go_roundw
   case rel=>exact ⟨k+1,y|||F,by omega,by go_num,by rw [HPOS.out];go_num,by first|rfl|(rw [wn_or]),HBT.out,by first|rfl|trivial⟩
   case measure=>(simp [intOf];try omega)
  ·have hk8:k=8:=by omega
   subst hk8
   go_wp2
   go_ret
   exact ⟨⟨y,rfl,HX.out⟩,rfl⟩
theorem pdep_c(x m:BitVec 64)(w:World):
  Calls Tryz.prog 130 #[WV x,WV m] w fun e w'=>(∃r,e= .returned (WV r)/\∀p,p<64->r.getLsbD p=dpB x.getLsbD m.getLsbD p)/\w'=w:=by
 go_enter Tryz.func130,Tryz.ntmps130
 go_wp2
 go_loopw [4,5,6] (fun r p i wr=>∃(k:Nat) (y:BitVec 64),k<=8/\i= .int .i64 (k:Int)/\p= .int .u64 ((cntN m.getLsbD (8*k):Nat):Int)/\r=WV y/\(∀p,p<64->y.getLsbD p=(decide (p<8*k)&&dpB x.getLsbD m.getLsbD p))/\wr=w) (fun _ _ i _=>8-(intOf i).toNat)
 case atStart=>exact ⟨0,0,by omega,rfl,rfl,rfl,fun p _=>by simp,rfl⟩
 case round=>
  obtain ⟨k,y,hk,rfl,rfl,rfl,hx,rfl⟩:=hrel
  have hcl:=cntN_le m.getLsbD (8*k)
  have HX:=Lib.hid hx;clear hx
  by_cases hlt:k<8
  ·obtain ⟨q,hq⟩:∃q,q=cntN m.getLsbD (8*k):=⟨_,rfl⟩
   rw [<- hq]at hcl ⊢
   obtain ⟨xa,hxa⟩:∃y,y=x>>>q:=⟨_,rfl⟩
   obtain ⟨ma,hma⟩:∃y,y=m>>>(8*k):=⟨_,rfl⟩
   obtain ⟨xb,hxb⟩:∃y,y=xa.setWidth 8:=⟨_,rfl⟩
   obtain ⟨mb,hmb⟩:∃y,y=byteOf m k:=⟨_,rfl⟩
   have j1:((k:Int)*8).toNat=8*k:=by omega
   have e1:wn x/(2:Int)^q=wn xa:=by rw [hxa];exact wn_shr _ _
   have e2:wn m/(2:Int)^(8*k)=wn ma:=by rw [hma];exact wn_shr _ _
   have e3:wn xa%256=bn xb:=by rw [hxb];unfold wn bn;rw [BitVec.toNat_setWidth];rfl
   have e4:wn ma%256=bn mb:=by rw [hma,hmb];exact byteOf_wn _ _
   have hb1:0<=bn xb/\bn xb<=255:=by unfold bn;have:=xb.isLt;omega
   have hb2:0<=bn mb/\bn mb<=255:=by unfold bn;have:=mb.isLt;omega
   obtain ⟨c8,hc8⟩:∃c,c=cntN mb.getLsbD 8:=⟨_,rfl⟩
   have hc8b:c8<=8:=by rw [hc8];exact cntN_le _ _
   have hpop:∀w,Calls Tryz.prog 142 #[.int .u8 (bn mb)] w fun e w'=>e= .returned (.int .u8 (c8:Int))/\w'=w:=fun w=>by rw [hc8];exact popByte_c mb w
   have hcnt:∀i,i<=8->cntN m.getLsbD (8*k+i)=q+cntN mb.getLsbD i:=fun i hi=>by
    rw [cntN_add2,<- hq]
    congr 1
    exact cntN_ext _ (fun j hj=>by rw [hmb,byteOf_bit m k j (by omega)])
   have hpos:cntN m.getLsbD (8*(k+1))=q+c8:=by
    rw [show 8*(k+1)=8*k+8 by omega,hcnt 8 (Nat.le_refl _),hc8]
   have hdp:∀i,i<8->dpB xb.getLsbD mb.getLsbD i=dpB x.getLsbD m.getLsbD (8*k+i):=fun i hi=>by
    unfold dpB
    have hle:=cntN_le mb.getLsbD i
    rw [hcnt i (by omega),hxb,BitVec.getLsbD_setWidth,hxa,BitVec.getLsbD_ushiftRight]
    have d:decide (cntN mb.getLsbD i<8)=true:=by simp;omega
    rw [d,hmb,byteOf_bit m k i hi];simp
   have HPOP:=Lib.hid hpop;have HPOS:=Lib.hid hpos;have HDP:=Lib.hid hdp
   clear hpop hpos hxa hma hxb hmb hc8 hq hcnt hdp
   go_wp2_with (first|(go_at_call 142;refine (HPOP.out _).mono ?_;rintro e w' ⟨rfl,rfl⟩)|(go_at_call 143;refine (pdepByte_c xb mb _).mono ?_;rintro e w' ⟨⟨ex,rfl,hex⟩,rfl⟩;have HE:=Lib.hid hex;clear hex;refine Hid.out ?_))
   refine Lib.hid ?_
   obtain ⟨E,hE⟩:∃E,E=ex.setWidth 64:=⟨_,rfl⟩
   have e5:bn ex=wn E:=by rw [hE];exact bn_wide ex
   obtain ⟨F,hF⟩:∃F,F=E<<<(8*k):=⟨_,rfl⟩
   have e6:IntKind.u64.wrap (wn E*(2:Int)^(8*k))=wn F:=by rw [hF];exact wn_shl _ _
   have e7:=wn_or y F
   have hbE:=wn_bd E
   have hbits:∀p,p<64->(y|||F).getLsbD p=(decide (p<8*(k+1))&&dpB x.getLsbD m.getLsbD p):=fun p hp=>by
    rw [BitVec.getLsbD_or,HX.out p hp,hF,BitVec.getLsbD_shiftLeft]
    have d1:decide (p<64)=true:=by simpa using hp
    rw [d1]
    rcases Nat.lt_or_ge p (8*k) with h|h
    ·have d2:decide (p<8*k)=true:=by simpa using h
     have d3:decide (p<8*(k+1))=true:=by simp;omega
     rw [d2,d3];simp
    ·have d2:decide (p<8*k)=false:=by simp;omega
     rw [d2,hE,BitVec.getLsbD_setWidth]
     rcases Nat.lt_or_ge (p-8*k) 8 with h8|h8
     ·rw [HE.out _ h8,HDP.out _ h8,show 8*k+(p-8*k)=p by omega]
      have d3:decide (p-8*k<64)=true:=by simp;omega
      have d4:decide (p<8*(k+1))=true:=by simp;omega
      rw [d3,d4];simp
     ·have d4:decide (p<8*(k+1))=false:=by simp;omega
      rw [BitVec.getLsbD_of_ge ex _ h8,d4];simp
   have HBT:=Lib.hid hbits;clear hbits hE hF
   go_wp2
   go_roundw
   case rel=>exact ⟨k+1,y|||F,by omega,by go_num,by rw [HPOS.out];go_num,by first|rfl|(rw [wn_or]),HBT.out,by first|rfl|trivial⟩
   case measure=>(simp [intOf];try omega)
  ·have hk8:k=8:=by omega
   subst hk8
   go_wp2
   go_ret
   refine ⟨⟨y,rfl,fun p hp=>?_⟩,rfl⟩
   rw [HX.out p hp]
   have d:decide (p<8*8)=true:=by simp;omega
   rw [d];rfl
end Go.Proofs.YtobdfhlmipcjbaaGreatDoor
namespace Go.Proofs.YtobdfhlmipcjbaaGreatDoor
open Go.RowKit
theorem shr_word(p k:Nat)(m:Nat->Bool)(x:BitVec 64)(hx:∀j,j<64->x.getLsbD j=(m (64*k+j)&&decide (64*k+j<=p))):
  x=pk (fun i=>m i&&decide (i<=p)) k:=pk_ext fun j hj=>hx j hj
theorem shrink_in(b p L:Nat)(v:Value)(m:Nat->Bool)(w:World)(hp:p<L)(h:BA w b v L m):
  Calls Tryz.prog 50 #[.pointer (some ⟨b,0,none⟩),.int .u64 p] w (MutA w b v (p+1) (fun i=>m i&&decide (i<=p)) (.pointer (some ⟨b,0,none⟩))):=by
 obtain ⟨s,c,g,rfl,r,hg,hm⟩:=h.rs (by omega)
 clear h
 have h0:=r.h0
 have h1:=r.h1
 have f0:=hp_free r.hb 0
 have f1:=hp_free r.hb 1
 have hl:=r.hl
 have ne:=r.ne
 have hn:=r.hn
 have hc:=r.hc
 have hlt:=hp_lt r.hb
 have hslt:=r.hs.lt
 have hs:=r.hs
 have hb:=r.hb
 obtain ⟨q,hq⟩:∃q,q=nw (p+1):=⟨_,rfl⟩
 have hqn:q<=nw L:=by subst hq;unfold nw;omega
 have hq1:1<=q:=by subst hq;unfold nw;omega
 have hqb:q<=1000:=by subst hq;unfold nw;omega
 have hgm:∀k,k<nw L->∀j,j<64->(g k).getLsbD j=m (64*k+j):=fun k hk j hj=>by rw [hg k hk,getLsbD_pk];simp [hj]
 have GM:=Lib.hid hgm;clear hgm hg hm
 have hwn:∀w,Calls Tryz.prog 102 #[.int .u64 ((p:Int)+1)] w fun e w'=>e= .returned (.int .i64 q)/\w'=w:=fun w=>by
  have:=wordsNeeded_i ((p:Int)+1) w (by omega) (by omega)
  rwa [show ((p:Int)+1+63)/64=q by subst hq;unfold nw;omega]at this
 have HW:=Lib.hid hwn;clear hwn
 have hmk:=make33 (q:Int) (q:Int) (by omega) (by omega) (by omega)
 rw [Int.toNat_natCast]at hmk
 obtain ⟨w2,hcp,hrow2,hfr2⟩:=copy33 (w.alloc (.cells (madeCells #[.int .u64 0] q) 29)) 3 w.heap.size 0 s 0 q q q c q c q (fun _=>0) g (row_made _ _) (hs.alloc _) (Nat.min_self q).symm (by omega) (by omega)
 have hb2:=(hfr2.keep b (by simp;omega) (by omega)).trans ((hp_alloc w _ hlt).trans hb)
 have q0:=hp_cell hb2 0 (v:= .int .u64 L) rfl
 have q1:=hp_cell hb2 1 (v:= .slice (some ⟨s,0,none⟩) (nw L) c) rfl
 have qf0:=hp_free hb2 0
 have qf1:=hp_free hb2 1
 have r2:RS ((w2.setCell ⟨b,1,none⟩ (.slice (some ⟨w.heap.size,0,none⟩) q q)).setCell ⟨b,0,none⟩ (.int .u64 ((p:Int)+1))) b w.heap.size (p+1) q g:=by
  refine ⟨by omega,by omega,by omega,by omega,?_,?_⟩
  ·rw [<- hq];exact hp_upd _ _ hb2
  ·refine ((hrow2.setOther (a:=⟨b,1,none⟩) (by simp;omega) _).setOther (a:=⟨b,0,none⟩) (by simp;omega) _).congr (fun i hi=>?_)
   rw [if_pos ⟨by omega,by omega⟩];simp
 have fr2:Fr (Own b (.slice (some ⟨s,0,none⟩) (nw L) c)) w ((w2.setCell ⟨b,1,none⟩ (.slice (some ⟨w.heap.size,0,none⟩) q q)).setCell ⟨b,0,none⟩ (.int .u64 ((p:Int)+1))):=
  ((((Fr.refl _ w).alloc _).trans' hfr2 (fun r hr=> .inr (by omega))).setCell (.inl (.inl rfl)) _).setCell (.inl (.inl rfl)) _
 have c0:=r2.at (i:=q-1) (by rw [<- hq];omega)
 have cf:=r2.fr (q-1)
 obtain ⟨n,hnL⟩:∃n,n=nw L:=⟨_,rfl⟩
 have hnb:n<=1000:=by subst hnL;unfold nw;omega
 rw [<- hnL]at h1 hn hqn q1
 have HN:=Lib.hid hnL;have HQ:=Lib.hid hq;have R2:=Lib.hid r2;have F2:=Lib.hid fr2
 clear hnL hq r2 fr2 hrow2 hfr2 hb2 r hs hb
 have done:∀(wf:World) (gf:Nat->BitVec 64) (X:Nat),RS wf b X (p+1) q gf->w.heap.size<=X->Fr (Own b (.slice (some ⟨s,0,none⟩) (nw L) c)) w wf->(∀k,k<nw (p+1)->∀j,j<64->(gf k).getLsbD j=(m (64*k+j)&&decide (64*k+j<=p)))->
   MutA w b (.slice (some ⟨s,0,none⟩) (nw L) c) (p+1) (fun i=>m i&&decide (i<=p)) (.pointer (some ⟨b,0,none⟩)) (.returned (.pointer (some ⟨b,0,none⟩))) wf:=by
  intro wf gf X rf hX ff hgf
  refine ⟨rfl,_,rf.ba (fun k hk=>shr_word p k m _ (hgf k hk)) (fun i hi=>?_),⟨ff,.inr (.inr ⟨X,rfl,hX⟩)⟩⟩
  have:decide (i<=p)=false:=by simp;omega
  rw [this,Bool.and_false]
 have DONE:=Lib.hid done;clear done
 have hd0:decide ((L:Int)<=(p:Int))=false:=by simp;omega
 have hd1:decide (n<q)=false:=by simp;omega
 obtain ⟨z,hz⟩:∃z,z=(p+1)%64:=⟨_,rfl⟩
 have s1:((p:Int)+1)%64=z:=by omega
 have hz64:z<64:=by omega
 have hwx:∀w,Calls Tryz.prog 99 #[.int .u64 (z:Int)] w fun e w'=>e= .returned (.int .u64 (z:Int))/\w'=w:=fun w=>by
  have:=wordsIndex_c z w (by omega)
  rwa [Nat.mod_eq_of_lt hz64]at this
 have HX:=Lib.hid hwx;have HZ:=Lib.hid hz;clear hwx hz
 by_cases hz0:z=0
 ·have hdz:((z:Int) != 0)=false:=by simp;omega
  have HZ0:=Lib.hid hz0;clear hz0
  go_enter Tryz.func50,Tryz.ntmps50
  go_wp2_with (first|(go_at_call 102;refine (HW.out _).mono ?_;rintro e w' ⟨rfl,rfl⟩))
  go_ret
  refine DONE.out _ _ _ R2.out (Nat.le_refl _) F2.out (fun k hk j hj=>?_)
  have hQ:=HQ.out;have hZ:=HZ.out;have hZ0:=HZ0.out;have hN:=HN.out
  rw [GM.out k (by rw [<- hN];omega) j hj]
  have:decide (64*k+j<=p)=true:=by simp;unfold nw at hk;omega
  rw [this,Bool.and_true]
 ·have hdz:((z:Int) != 0)=true:=by simp;omega
  have i1:(0:Int)<=(q:Int)-1/\(q:Int)-1<q:=by omega
  have i2:((q:Int)-1).toNat=q-1:=by omega
  have HZ0:=Lib.hid hz0;clear hz0
  go_enter Tryz.func50,Tryz.ntmps50
  go_wp2_with (first|(go_at_call 102;refine (HW.out _).mono ?_;rintro e w' ⟨rfl,rfl⟩))
  refine wp_region_quiet_tail 13 (by kernel_rfl) (by kernel_rfl) ?_
  simp only [List.take_succ_cons,List.take_zero,List.drop_succ_cons,List.drop_zero]
  repeat (go_big_quiet_step ((go_at_call 99;exact Calls.quiet_of_same (HX.out _))))
  refine wpQuiet_nil ?_
  intro _ ⟨nq,hw'⟩
  subst hw'
  go_wp2
  go_ret
  rw [all_shr,wn_and]
  refine DONE.out _ _ _ ((R2.out.drewN nq).set (q-1) _) (Nat.le_refl _) ((F2.out.drewN nq).setCell (.inr (Nat.le_refl _)) _) (fun k hk j hj=>?_)
  have hQ:=HQ.out;have hZ:=HZ.out;have hZ0:=HZ0.out;have hN:=HN.out
  by_cases e:k=q-1
  ·rw [if_pos e,<- e,BitVec.getLsbD_and,bit_lo,GM.out k (by rw [<- hN];omega) j hj]
   congr 1
   rw [decide_eq_decide]
   unfold nw at hQ
   omega
  ·rw [if_neg e,GM.out k (by rw [<- hN];omega) j hj]
   have:decide (64*k+j<=p)=true:=by simp;unfold nw at hk hQ;omega
   rw [this,Bool.and_true]
theorem shrink_out(b p L:Nat)(v:Value)(m:Nat->Bool)(w:World)(hp:L<=p)(h:BA w b v L m):
  Calls Tryz.prog 50 #[.pointer (some ⟨b,0,none⟩),.int .u64 p] w fun e w'=>e= .returned (.pointer (some ⟨b,0,none⟩))/\w'=w:=by
 have h0:=hp_cell h.2.blk 0 (v:= .int .u64 L) rfl
 have hd0:decide ((L:Int)<=(p:Int))=true:=by simp;omega
 clear h
 go_enter Tryz.func50,Tryz.ntmps50
 go_wp2
 go_ret
 exact ⟨rfl,rfl⟩
def Tops(m:Nat->Bool)(k:Nat):Prop:=(∀i,64*k<=i->m i=false)/\(0<k->∃i,64*(k-1)<=i/\i<64*k/\m i=true)
def CompactPost(w:World)(b:Nat)(v:Value)(L:Nat)(m:Nat->Bool)(e:Ending)(w':World):Prop:=
 ∃k,Tops m k/\MutA w b v (min L (64*max 1 k)) m (.pointer (some ⟨b,0,none⟩)) e w'
theorem compact_nil(b:Nat)(m:Nat->Bool)(w:World)(h:BA w b (.slice none 0 0) 0 m):
  Calls Tryz.prog 51 #[.pointer (some ⟨b,0,none⟩)] w (CompactPost w b (.slice none 0 0) 0 m):=by
 have h0:=hp_cell h.2.blk 0 (v:= .int .u64 0) rfl
 have h1:=hp_cell h.2.blk 1 (v:= .slice none 0 0) rfl
 have H:=Lib.hid h;clear h
 go_enter Tryz.func51,Tryz.ntmps51
 go_wp2
 refine wp_loop_once ?_
 go_wp2
 go_ret
 exact ⟨0,⟨fun i _=>H.out.1 i (Nat.zero_le _),fun h=>by omega⟩,rfl,_,H.out,Ch.refl _ _ _⟩
theorem compact_raw(b s c L:Nat)(g:Nat->BitVec 64)(m:Nat->Bool)(w:World)(r:RS w b s L c g)(hg:∀i,i<nw L->g i=pk m i)(hm:∀i,L<=i->m i=false):
  Calls Tryz.prog 51 #[.pointer (some ⟨b,0,none⟩)] w (CompactPost w b (.slice (some ⟨s,0,none⟩) (nw L) c) L m):=by
 have hba:=r.ba hg hm
 have h0:=r.h0
 have h1:=r.h1
 have hl:=r.hl
 obtain ⟨n,hnL⟩:∃n,n=nw L:=⟨_,rfl⟩
 have hnb:n<=1000:=by subst hnL;unfold nw;omega
 have R:=Lib.hid r;have HG:=Lib.hid hg;have HM:=Lib.hid hm;have HB:=Lib.hid hba
 rw [<- hnL]at h1
 have HN:=Lib.hid hnL
 clear r hg hm hba hnL
 go_enter Tryz.func51,Tryz.ntmps51
 go_wp2
 go_loop [3] (fun i=>∃k:Nat,k<=n/\i= .int .i64 ((k:Int)-1)/\∀j,k<=j->j<n->g j=0) (fun i=>(intOf i+1).toNat)
 case atStart=>exact ⟨n,Nat.le_refl _,rfl,fun j h1 h2=>by omega⟩
 case round=>
  obtain ⟨k,hk,rfl,hz⟩:=hrel
  have HZ:=Lib.hid hz;clear hz
  have top:(0<k->g (k-1)≠0)->Tops m k:=by
   intro hne
   have hN:=HN.out
   refine ⟨fun i hi=>?_,fun hk0=>?_⟩
   ·by_cases e:L<=i
    ·exact HM.out i e
    ·have h1:=HZ.out (i/64) (by omega) (by rw [hN];unfold nw;omega)
     rw [HG.out _ (by unfold nw;omega)]at h1
     have h2:=congrArg (fun x=>x.getLsbD (i%64)) h1
     simp only [getLsbD_pk]at h2
     rw [show 64*(i/64)+i%64=i by omega]at h2
     simpa [Nat.mod_lt] using h2
   ·rcases Classical.em (∃i,64*(k-1)<=i/\i<64*k/\m i=true) with h|h
    ·exact h
    ·exfalso
     refine hne hk0 ?_
     rw [HG.out _ (by rw [<- hN];omega)]
     refine (pk_ext fun j hj=>?_).symm
     have:m (64*(k-1)+j)=false:=by
      rcases hb:m (64*(k-1)+j) with _|_
      ·rfl
      ·exact absurd ⟨_,by omega,by omega,hb⟩ h
     simp [this]
  have TOP:=Lib.hid top;clear top
  have fin:Tops m k->∀e w',MutA w b (.slice (some ⟨s,0,none⟩) (nw L) c) (min L (64*max 1 k)) m (.pointer (some ⟨b,0,none⟩)) e w'->CompactPost w b (.slice (some ⟨s,0,none⟩) (nw L) c) L m e w':=fun t e w' h=>⟨k,t,h⟩
  have FIN:=Lib.hid fin;clear fin
  by_cases hk0:k=0
  ·subst hk0
   have d1:decide ((0:Int)<=((0:Nat):Int)-1)=false:=by simp
   have T:=Lib.hid (TOP.out (fun h=>by omega))
   rcases Nat.eq_zero_or_pos L with rfl|hL
   ·go_wp2
    go_ret
    refine FIN.out T.out _ _ ⟨rfl,_,?_,Ch.refl _ _ _⟩
    rw [Nat.min_eq_left (by omega)];exact HB.out
   ·have d2:decide ((L:Int)<=0)=false:=by simp;omega
    by_cases h63:L<=63
    ·go_wp2_with (go_at_call 50;refine (shrink_out b 63 L _ m _ h63 HB.out).mono ?_;rintro e w' ⟨rfl,rfl⟩)
     go_ret
     refine FIN.out T.out _ _ ⟨rfl,_,?_,Ch.refl _ _ _⟩
     rw [Nat.min_eq_left (by omega)];exact HB.out
    ·go_wp2_with (go_at_call 50;refine (shrink_in b 63 L _ m _ (by omega) HB.out).mono ?_;rintro e w' ⟨rfl,v',hv',hch⟩)
     go_ret
     refine FIN.out T.out _ _ ⟨rfl,v',?_,hch⟩
     rw [Nat.min_eq_right (by omega)]
     have:(fun i=>m i&&decide (i<=63))=m:=by
      funext i
      by_cases e:i<=63
      ·simp [e]
      ·have:=T.out.1 i (by omega);simp [this]
     rw [this]at hv'
     exact hv'
  ·have i1:(0:Int)<=(k:Int)-1/\(k:Int)-1<n:=by omega
   have i2:((k:Int)-1).toNat=k-1:=by omega
   have i3:(1:Int)<=k:=by omega
   have d1:decide ((0:Int)<=(k:Int)-1)=true:=by simp;omega
   have d1':decide ((1:Int)<=(k:Int))=true:=by simp;omega
   have c0:=R.out.at (i:=k-1) (by rw [<- HN.out];omega)
   by_cases hx:g (k-1)=0
   ·have d2:(wn (g (k-1))==0)=true:=by rw [hx];rfl
    have HX:=Lib.hid hx;clear hx
    go_wp2
    go_round
    case rel=>
     refine ⟨k-1,by omega,by congr 1;omega,fun j h1 h2=>?_⟩
     by_cases e:j=k-1
     ·rw [e];exact HX.out
     ·exact HZ.out j (by omega) h2
    case measure=>simp [intOf];omega
   ·have d2:(wn (g (k-1))==0)=false:=by
     rw [beq_eq_false_iff_ne,Ne,wn_eq_zero];exact hx
    have T:=Lib.hid (TOP.out (fun _=>hx));clear hx
    have s1:IntKind.i64.wrap ((k:Int)*64)=64*k:=by rw [IntKind.wrap_i64];omega
    by_cases hL:L<=64*k
    ·have d3:decide ((L:Int)<=(k:Int)*64)=true:=by simp;omega
     go_wp2
     go_ret
     refine FIN.out T.out _ _ ⟨rfl,_,?_,Ch.refl _ _ _⟩
     rw [Nat.min_eq_left (by omega)];exact HB.out
    ·have d3:decide ((L:Int)<=(k:Int)*64)=false:=by simp;omega
     have hsh:=fun w=>shrink_in b (64*k-1) L (.slice (some ⟨s,0,none⟩) (nw L) c) m w (by omega)
     rw [show ((64*k-1:Nat):Int)=64*(k:Int)-1 by omega,show 64*k-1+1=64*k by omega]at hsh
     have HSH:=Lib.hid hsh;clear hsh
     go_wp2_with (go_at_call 50;refine (HSH.out _ HB.out).mono ?_;rintro e w' ⟨rfl,v',hv',hch⟩)
     go_ret
     refine FIN.out T.out _ _ ⟨rfl,v',?_,hch⟩
     rw [Nat.min_eq_right (by omega),Nat.max_eq_right (by omega)]
     have:(fun i=>m i&&decide (i<=64*k-1))=m:=by
      funext i
      by_cases e:i<=64*k-1
      ·simp [e]
      ·have:=T.out.1 i (by omega);simp [this]
     rw [this]at hv'
     exact hv'
theorem compact_c(b L:Nat)(v:Value)(m:Nat->Bool)(w:World)(h:BA w b v L m):
  Calls Tryz.prog 51 #[.pointer (some ⟨b,0,none⟩)] w (CompactPost w b v L m):=by
 rcases h.cases with ⟨rfl,rfl⟩|⟨s,c,g,rfl,r,hg,hm⟩
 ·exact compact_nil b m w h
 ·exact compact_raw b s c L g m w r hg hm
def beB(x:BitVec 64)(i:Nat):Value:= .int .u8 (IntKind.u8.wrap (wn x/(2:Int)^(56-8*i)))
def beL(x:BitVec 64):List Value:=(List.range 8).map (beB x)
theorem spBig_c(x:BitVec 64)(w:World):Calls Tryz.prog 27 #[WV x] w (NewLst w 5 1 8 (beL x)):=by
 obtain ⟨i0,hi0,hz0,hz1,hz2⟩:=info_parts info5
 go_enter Tryz.func27,Tryz.ntmps27
 go_wp2
 go_loopw [3,4] (fun y i wr=>∃k:Nat,k<=8/\i= .int .i64 (56-8*(k:Int))/\Lst wr 5 1 y k ((List.range k).map (beB x))/\Fr (fun _=>False) w wr/\∀r,y.ownBlock=some r->w.heap.size<=r) (fun y i _=>(intOf i+8).toNat)
 case atStart=>exact ⟨0,by omega,rfl,Lst.empty w 5,(Fr.refl _ _).alloc _,by simp [Value.ownBlock]⟩
 case round=>
  obtain ⟨k,hk,rfl,hrow,hfr,hown⟩:=hrel
  have HR:=Lib.hid hrow;have HF:=Lib.hid hfr;have HO:=Lib.hid hown
  clear hrow hfr hown
  by_cases hlt:k<8
  ·have e0:(56:Int)-8*(k:Int)=((56-8*k:Nat):Int):=by omega
   have e1:(56:Int)-8*((k+1:Nat):Int)=((56-8*k:Nat):Int)-8:=by omega
   obtain ⟨t,ht⟩:∃t,t=56-8*k:=⟨_,rfl⟩
   rw [<- ht]at e0 e1
   rw [e0]
   have htb:t<=56:=by omega
   have HT:=Lib.hid ht;have E1:=Lib.hid e1;clear ht e0 e1
   go_wp2_with (at_builtin;refine wpList_app 38 5 i0 _ 1 1 Tryz.underlying38 hi0 hz0 hz1 hz2 rfl (by omega) (by omega) (.tmp 10) (.tmp 15) rfl rfl _ _ _ _ (HR.out.alloc _) _ _ _ (src_one wr (.int .u8 (IntKind.u8.wrap (wn x/(2:Int)^t))) 5) (by simp [Value.oneCell']) (by omega) rfl rfl ?_;intro v1 w1 hv1 hf1 hat1)
   go_roundw
   case rel=>
    refine ⟨k+1,by omega,?_,?_,?_,?_⟩
    ·rw [E1.out]
    ·rw [List.range_succ,List.map_append]
     have hT:=HT.out
     subst hT
     exact hv1
    ·exact (HF.out.alloc _).trans' hf1 (fun r hr=> .inr (HO.out r hr))
    ·exact own_new hat1 (by have:=HF.out.size;simp;omega) HO.out
   case measure=>simp [intOf];omega
  ·have hkk:k=8:=by omega
   subst hkk
   go_wp2
   go_ret
   exact ⟨_,rfl,HR.out,HF.out,HO.out⟩
def ansV(is:Bool)(n:Int)(wd:BitVec 64)(s:ByteArray)(l b:Value):Value:= .agg #[.bool is,.int .i64 n,WV wd,.string s,l,b]
theorem place_c(n:Int)(b:Bool)(w:World):
  Calls Tryz.prog 25 #[.int .i64 n,.bool b] w (fun e w'=>e= .returned (.tuple #[ansV b (if b then n else 0) 0 ByteArray.empty (.slice none 0 0) (.slice none 0 0),.bool true])/\Fr (fun _=>False) w w'):=by
 cases b
 ·go_enter Tryz.func25,Tryz.ntmps25
  go_wp2
  simp [bodyPost,results,Tryz.f25,Tryz.results25,go_sem]
  exact ⟨rfl,(Fr.refl _ _).alloc _⟩
 ·go_enter Tryz.func25,Tryz.ntmps25
  go_wp2
  simp [bodyPost,results,Tryz.f25,Tryz.results25,go_sem]
  exact ⟨rfl,(Fr.refl _ _).alloc _⟩
end Go.Proofs.YtobdfhlmipcjbaaGreatDoor
namespace Go.Proofs.YtobdfhlmipcjbaaGreatDoor
open Go.RowKit Pop
theorem BA.view3{w:World}{b:Nat}{v:Value}{L:Nat}{m:Nat->Bool}(h:BA w b v L m):
  ∃A s c,w.cell? ⟨b,1,none⟩=some (.slice A (nw L) c)/\nw L<=c/\((A=none/\nw L=0/\c=0)\/A=some ⟨s,0,none⟩)/\∀i,i<nw L->w.cell? ⟨s,i,none⟩=some (WV (pk m i)):=by
 obtain ⟨h0,hl,hm,h|⟨s,c,hc,h1,hw⟩⟩:=h.view
 ·obtain ⟨rfl,h1⟩:=h
  exact ⟨none,0,0,h1,Nat.le_refl _,.inl ⟨rfl,rfl,rfl⟩,fun i hi=>absurd hi (by simp [nw])⟩
 ·exact ⟨_,s,c,h1,hc,.inr rfl,hw⟩
theorem wordCount_n(b L:Nat)(w:World)(n:Nat)(hn:nw L=n)(h':L<=50000)(h:w.cell? ⟨b,0,none⟩=some (.int .u64 L)):
  Calls Tryz.prog 101 #[.pointer (some ⟨b,0,none⟩)] w fun e w'=>e= .returned (.int .i64 (n:Int))/\w'=w:=by
 rw [<- hn];exact wordCount_c b L w (by omega) h
def EqlP(L M:Nat)(m k:Nat->Bool)(e:Ending):Prop:=∃r:Bool,e= .returned (.bool r)/\(r=true↔L=M/\∀i,m i=k i)
theorem pk_inj{m k:Nat->Bool}{q:Nat}(h:pk m q=pk k q):∀i,i/64=q->m i=k i:=by
 intro i hi
 have h1:=congrArg (fun x=>x.getLsbD (i%64)) h
 simp only [getLsbD_pk]at h1
 rw [show 64*q+i%64=i by omega]at h1
 have d:decide (i%64<64)=true:=by simp;omega
 rw [d]at h1;simpa using h1
theorem pk_dif_ex{m k:Nat->Bool}{q:Nat}(h:¬pk m q=pk k q):∃i,m i≠k i:=by
 apply Classical.byContradiction
 intro hne
 apply h
 refine pk_ext fun j hj=>?_
 rw [getLsbD_pk]
 have:m (64*q+j)=k (64*q+j):=by
  apply Classical.byContradiction
  intro h2;exact hne ⟨_,h2⟩
 rw [this];simp [hj]
theorem equal_c(p q L M:Nat)(v u:Value)(m k:Nat->Bool)(w:World)(hx:BA w p v L m)(hy:BA w q u M k):
  Calls Tryz.prog 81 #[.pointer (some ⟨p,0,none⟩),.pointer (some ⟨q,0,none⟩)] w fun e w'=>EqlP L M m k e/\∃n,w'=w.drewN n:=by
 obtain ⟨x0,hlx,hmx,A,s,c,x1,hc,hA,hf⟩:=hx.view2
 obtain ⟨y0,hly,hmy,B,s2,c2,y1,hc2,hB,hg⟩:=hy.view2
 by_cases hLM:L=M
 ·subst hLM
  rcases Nat.eq_zero_or_pos L with h0|h0
  ·subst h0
   have hall:∀i,m i=k i:=fun i=>by rw [hmx i (by omega),hmy i (by omega)]
   have HALL:=Lib.hid hall
   clear hx hy hmx hmy hf hg hA hB hall x1 y1
   go_enter Tryz.func81,Tryz.ntmps81
   go_wp2
   go_quiet (fail)
   go_wp2
   go_ret
   exact ⟨⟨true,rfl,by simp;exact HALL.out⟩,_,rfl⟩
  ·have hn0:0<nw L:=by unfold nw;omega
   have hlast:∀i,i/64<nw L\/m i=k i:=fun i=>by
    rcases Nat.lt_or_ge i L with h|h
    ·exact .inl (by unfold nw;omega)
    ·exact .inr (by rw [hmx i h,hmy i h])
   have hn:=nw_bound hlx
   have hwc:=fun n=>wordCount_c p L (w.drewN n) (by omega) x0
   obtain rfl:=hA hn0
   obtain rfl:=hB hn0
   generalize hnL:nw L=n at*
   rw [show (L+63)/64=n from hnL]at hwc
   have hL0:¬(L:Int)=0:=by omega
   have h01:=hf (n-1) (by omega)
   have h02:=hg (n-1) (by omega)
   have i1:(0:Int)<=(n:Int)-1/\(n:Int)-1<n:=by omega
   have i2:((n:Int)-1).toNat=n-1:=by omega
   have d1:decide ((n:Int)<=0)=false:=by simp;omega
   have HF:=Lib.hid hf;have HG:=Lib.hid hg;have HL:=Lib.hid hlast;have HWC:=Lib.hid hwc
   clear hx hy hmx hmy hf hg hA hB hlast hnL hwc hlx hly
   go_enter Tryz.func81,Tryz.ntmps81
   go_wp2
   go_quiet (fail)
   go_wp2_with (go_at_call 101;refine (HWC.out _).mono ?_;rintro e w' ⟨rfl,rfl⟩)
   clear h01 h02 i1 i2 d1
   have x0':(w.drewN nq).cell? ⟨p,1,none⟩=some (.slice (some ⟨s,0,none⟩) n c):=x1
   have y0':(w.drewN nq).cell? ⟨q,1,none⟩=some (.slice (some ⟨s2,0,none⟩) n c2):=y1
   clear x0' y0'
   go_loopw [6] (fun t wr=>∃a b:Nat,a<=n/\t= .int .i64 (a:Int)/\(∀i,i/64<a->m i=k i)/\wr=w.drewN b) (fun t _=>n-(intOf t).toNat)
   case atStart=>exact ⟨0,_,by omega,rfl,fun i hi=>by omega,rfl⟩
   case round=>
    obtain ⟨a,b,ha,rfl,hz,hw⟩:=hrel
    have HZ:=Lib.hid hz;clear hz
    have HW:=Lib.hid hw
    by_cases hlt:a<n
    ·have hcf:wr.cell? ⟨s,a,none⟩=some (WV (pk m a)):=by rw [hw];exact HF.out a hlt
     have hcg:wr.cell? ⟨s2,a,none⟩=some (WV (pk k a)):=by rw [hw];exact HG.out a hlt
     have hx1:wr.cell? ⟨p,1,none⟩=some (.slice (some ⟨s,0,none⟩) n c):=by rw [hw];exact x1
     have hy1:wr.cell? ⟨q,1,none⟩=some (.slice (some ⟨s2,0,none⟩) n c2):=by rw [hw];exact y1
     clear hw x1 y1 x0 y0
     by_cases he:pk k a=pk m a
     ·rw [he]at hcg
      have HE:=Lib.hid he;clear he
      go_wp2
      go_quiet (fail)
      go_wp2
      go_roundw
      case rel=>
       refine ⟨a+1,_,by omega,by go_num,fun i hi=>?_,by rw [HW.out,World.drewN_drewN]⟩
       rcases Nat.lt_or_ge (i/64) a with h|h
       ·exact HZ.out i h
       ·exact (pk_inj HE.out i (by omega)).symm
      case measure=>simp [intOf];omega
     ·have hne:¬wn (pk k a)=wn (pk m a):=fun h=>he (wn_inj h)
      have HE:=Lib.hid he;clear he
      go_wp2
      go_quiet (fail)
      go_wp2
      go_ret
      refine ⟨⟨false,rfl,?_⟩,_,by rw [HW.out,World.drewN_drewN]⟩
      simp
      obtain ⟨i,hi⟩:=pk_dif_ex HE.out
      exact ⟨i,fun h=>hi h.symm⟩
    ·have han:a=n:=by omega
     subst han
     clear hw
     go_wp2
     go_ret
     refine ⟨⟨true,rfl,?_⟩,_,HW.out⟩
     simp
     intro i
     rcases HL.out i with h|h
     ·exact HZ.out i h
     ·exact h
 ·have hne:¬(L:Int)=M:=by omega
  have HLM:=Lib.hid hLM
  clear hx hy hmx hmy hf hg hA hB x1 y1 hLM
  go_enter Tryz.func81,Tryz.ntmps81
  go_wp2
  go_quiet (fail)
  go_wp2
  go_ret
  exact ⟨⟨false,rfl,by simp;intro h;exact absurd h HLM.out⟩,_,rfl⟩
end Go.Proofs.YtobdfhlmipcjbaaGreatDoor
namespace Go.Proofs.YtobdfhlmipcjbaaGreatDoor
open Go.RowKit
theorem wn_pred(x:BitVec 64):IntKind.u64.wrap (wn x-1)=wn (x-1):=wn_sub x 1
theorem wn_dbl(x:BitVec 64):IntKind.u64.wrap (wn x*2)=wn (x<<<1):=wn_shl x 1
theorem low_mask(a j:Nat)(ha:a<64):(((1:BitVec 64)<<<a)-1).getLsbD j=decide (j<a):=by
 have h1:((1:BitVec 64)<<<a).toNat=2^a:=by
  rw [BitVec.toNat_shiftLeft,show (1:BitVec 64).toNat=1 from rfl,Nat.shiftLeft_eq,Nat.one_mul]
  exact Nat.mod_eq_of_lt (Nat.pow_lt_pow_right (by decide) ha)
 have h2:(((1:BitVec 64)<<<a)-1).toNat=2^a-1:=by
  have hp:0<2^a:=Nat.two_pow_pos a
  have hl:2^a<2^64:=Nat.pow_lt_pow_right (by decide) ha
  rw [BitVec.toNat_sub,h1,show (1:BitVec 64).toNat=1 from rfl]
  omega
 show Nat.testBit _ j=_
 rw [h2,Nat.testBit_two_pow_sub_one]
theorem hi_bit(x:BitVec 64):bits .and .u64 (wn x) 9223372036854775808/(2:Int)^63=wn (x>>>63):=by
 have h:(9223372036854775808:Int)=wn ((1:BitVec 64)<<<63):=by decide +kernel
 rw [h,wn_and,wn_shr]
 congr 1
 apply BitVec.eq_of_getLsbD_eq
 intro j hj
 rw [BitVec.getLsbD_ushiftRight,BitVec.getLsbD_ushiftRight,BitVec.getLsbD_and,getLsbD_one_shl]
 by_cases e:j=0
 ·subst e;simp
 ·have h1:x.getLsbD (63+j)=false:=BitVec.getLsbD_of_ge _ _ (by omega)
  simp [h1]
theorem hi_bit'(x:BitVec 64):bits .and .u64 (wn x) 9223372036854775808/(9223372036854775808:Int)=wn (x>>>63):=hi_bit x
theorem ext_len(b L:Nat)(v:Value)(m:Nat->Bool)(w:World)(hi:L<50000)(h:BA w b v L m):
  Calls Tryz.prog 100 #[.pointer (some ⟨b,0,none⟩),.int .u64 (L:Int)] w (ExtA w b v (L+1) m):=extA_c b L L v m w (Nat.le_refl _) hi h
def insB(m:Nat->Bool)(p:Nat)(i:Nat):Bool:=if i<p then m i else if i=p then false else m (i-1)
theorem insertAt_c(b p L:Nat)(v:Value)(m:Nat->Bool)(w:World)(hp:p<L)(hL:L<50000)(h:BA w b v L m):
  Calls Tryz.prog 48 #[.pointer (some ⟨b,0,none⟩),.int .u64 p] w (MutA w b v (L+1) (insB m p) (.pointer (some ⟨b,0,none⟩))):=by
 have h0:=hp_cell h.2.blk 0 (v:= .int .u64 L) rfl
 have hM0:=h.1
 have HM0:=Lib.hid hM0;clear hM0
 have H:=Lib.hid h;clear h
 have hd0:decide ((L:Int)<=(p:Int))=false:=by simp;omega
 go_enter Tryz.func48,Tryz.ntmps48
 go_wp2_with (go_at_call 100;refine (ext_len b L v m _ hL H.out).mono ?_;rintro e w1 ⟨rfl,v1,hba,hch⟩;refine Hid.out ?_)
 refine Lib.hid ?_
 clear h0
 obtain ⟨s,c,g,rfl,r,hg,hm⟩:=hba.rs (by omega)
 have HC:=Lib.hid hch;clear hch hba
 have g1:=r.h1
 have hl:=r.hl
 have ne:=r.ne
 have hn:=r.hn
 have hc:=r.hc
 have hgm:∀k,k<nw (L+1)->∀j,j<64->(g k).getLsbD j=m (64*k+j):=fun k hk j hj=>by rw [hg k hk,getLsbD_pk];simp [hj]
 have GM:=Lib.hid hgm
 have R:=Lib.hid r;have HM:=Lib.hid hm;clear r hg hm hgm
 obtain ⟨n,hnL⟩:∃n,n=nw (L+1):=⟨_,rfl⟩
 rw [<- hnL]at g1 hn
 have hnb:n<=1000:=by subst hnL;unfold nw;omega
 obtain ⟨q,hq⟩:∃q,q=p/64:=⟨_,rfl⟩
 have s0:(p:Int)/64=q:=by omega
 have hqn:q<n:=by subst hnL hq;unfold nw;omega
 have HN:=Lib.hid hnL;have HQ:=Lib.hid hq;clear hnL hq
 go_wp2
 go_loopw [6] (fun i wr=>∃t:Nat,q<=t/\t<n/\i= .int .u64 (t:Int)/\RS wr b s (L+1) c (fun j=>if t<j/\j<n then (g j<<<1)|||(g (j-1)>>>63) else g j)/\Fr (· =s) w1 wr) (fun i _=>(intOf i).toNat)
 case atStart=>exact ⟨n-1,by omega,by omega,by congr 1;omega,R.out.congr (fun j _=>(if_neg (show ¬(n-1<j/\j<n) by omega)).symm),Fr.refl _ _⟩
 case round=>
  obtain ⟨t,hqt,htn,rfl,hr,hfr⟩:=hrel
  have HF:=Lib.hid hfr
  have HR:=Lib.hid hr
  have g1:=hr.h1
  rw [<- HN.out]at g1
  have c0:=hr.at (i:=t) (by rw [<- HN.out];exact htn)
  have f0:=hr.fr t
  rw [if_neg (show ¬(t<t/\t<n) by omega)]at c0
  by_cases hlt:q<t
  ·obtain ⟨t',rfl⟩:∃t',t=t'+1:=⟨t-1,by omega⟩
   have c1:=hr.at (i:=t') (by rw [<- HN.out];omega)
   rw [if_neg (show ¬(t'+1<t'/\t'<n) by omega)]at c1
   have i1:(0:Int)<=(t':Int)+1/\(t':Int)+1<n:=by omega
   have i2:(0:Int)<=(t':Int)/\(t':Int)<n:=by omega
   clear hr hfr
   go_wp2
   rw [show (wn (g (t'+1))*2)=wn (g (t'+1))*(2:Int)^1 from rfl,wn_shl]
   have r2:=HR.out.set (t'+1) (g (t'+1)<<<1)
   have fr2:=HF.out.setCell (a:=⟨s,t'+1,none⟩) (.inl rfl) (WV (g (t'+1)<<<1))
   have e1:=r2.at (i:=t'+1) (by rw [<- HN.out];exact htn)
   have e2:=r2.at (i:=t') (by rw [<- HN.out];omega)
   have e3:=r2.h1
   have e4:=r2.fr (t'+1)
   rw [<- HN.out]at e3
   rw [if_pos rfl]at e1
   rw [if_neg (show ¬t'=t'+1 by omega),if_neg (show ¬(t'+1<t'/\t'<n) by omega)]at e2
   generalize wr.setCell ⟨s,t'+1,none⟩ (WV (g (t'+1)<<<1))=w3 at*
   have R2:=Lib.hid r2;have F2:=Lib.hid fr2
   clear r2 fr2 c0 c1 f0 g1
   refine wp_region_quiet_tail 18 (by kernel_rfl) (by kernel_rfl) ?_
   simp only [List.take_succ_cons,List.take_zero,List.drop_succ_cons,List.drop_zero]
   repeat (go_big_quiet_step (fail))
   refine wpQuiet_nil ?_
   intro _ ⟨nq,hw'⟩
   subst hw'
   go_wp2
   go_roundw
   case rel=>
    refine ⟨t',by omega,by omega,by go_num,?_,(F2.out.drewN nq).setCell (.inl rfl) _⟩
    rw [hi_bit',wn_or]
    refine ((R2.out.drewN nq).set (t'+1) _).congr (fun j _=>?_)
    by_cases e:j=t'+1
    ·rw [if_pos e,if_pos (show t'<j/\j<n by omega),e];rfl
    ·rw [if_neg e,if_neg e]
     by_cases e2:t'+1<j/\j<n
     ·rw [if_pos e2,if_pos (show t'<j/\j<n by omega)]
     ·rw [if_neg e2,if_neg (show ¬(t'<j/\j<n) by omega)]
   case measure=>simp [intOf]
  ·have htq:t=q:=by omega
   subst htq
   obtain ⟨a,ha⟩:∃a,a=p%64:=⟨_,rfl⟩
   have hwx:∀w,Calls Tryz.prog 99 #[.int .u64 (p:Int)] w fun e w'=>e= .returned (.int .u64 (a:Int))/\w'=w:=fun w=>by rw [ha];exact wordsIndex_c p w (by omega)
   have HX:=Lib.hid hwx;have HA:=Lib.hid ha
   have ha64:a<64:=by omega
   clear hr hfr hwx ha
   go_wp2_with (go_at_call 99;refine (HX.out _).mono ?_;rintro e w' ⟨rfl,rfl⟩)
   go_ret
   simp only [wn_one_shl,wn_pred,wn_max,wn_and,wn_dbl,wn_or]
   have hN:=HN.out;have hQ:=HQ.out;have hA:=HA.out
   refine ⟨rfl,_,((HR.out.set t _).set t _).ba (fun k hk=>pk_ext fun j hj=>?_) (fun i hi=>?_),HC.out.trans ⟨(((HF.out.setCell (.inl rfl) _).setCell (.inl rfl) _).mono (fun r hr=> .inr (by subst hr;rfl))),.inl rfl⟩⟩
   ·unfold insB
    by_cases e:k=t
    ·rw [if_pos e,e,BitVec.getLsbD_or,BitVec.getLsbD_and,low_mask _ _ ha64,GM.out t (by omega) j hj,BitVec.getLsbD_shiftLeft]
     by_cases h1:j<a
     ·rw [if_pos (show 64*t+j<p by omega)]
      by_cases h0:j<1
      ·simp [h1,hj,h0]
      ·rw [BitVec.getLsbD_and,BitVec.getLsbD_not,low_mask _ _ ha64]
       have:j-1<a:=by omega
       simp [h1,hj,this]
     ·rw [if_neg (show ¬64*t+j<p by omega)]
      by_cases h0:j=a
      ·rw [if_pos (show 64*t+j=p by omega)]
       by_cases h2:j<1
       ·simp [h1,h2]
       ·rw [BitVec.getLsbD_and,BitVec.getLsbD_not,low_mask _ _ ha64]
        have:j-1<a:=by omega
        simp [h1,this]
      ·rw [if_neg (show ¬64*t+j=p by omega)]
       have h2:¬j<1:=by omega
       rw [BitVec.getLsbD_and,BitVec.getLsbD_not,low_mask _ _ ha64,GM.out t (by omega) (j-1) (by omega)]
       have h3:¬j-1<a:=by omega
       have h4:j-1<64:=by omega
       rw [show 64*t+j-1=64*t+(j-1) by omega]
       simp [h1,hj,h2,h3,h4]
    ·rw [if_neg e,if_neg e]
     by_cases e2:t<k/\k<n
     ·rw [if_pos e2,if_neg (show ¬64*k+j<p by omega),if_neg (show ¬64*k+j=p by omega),BitVec.getLsbD_or,BitVec.getLsbD_shiftLeft,BitVec.getLsbD_ushiftRight]
      by_cases h0:j=0
      ·rw [GM.out (k-1) (by omega) (63+j) (by omega)]
       rw [show 64*(k-1)+(63+j)=64*k+j-1 by omega]
       simp [h0]
      ·have h1:¬j<1:=by omega
       have h2:(g (k-1)).getLsbD (63+j)=false:=BitVec.getLsbD_of_ge _ _ (by omega)
       rw [h2,GM.out k hk (j-1) (by omega),show 64*k+j-1=64*k+(j-1) by omega]
       simp [hj,h1]
     ·rw [if_neg e2,if_pos (show 64*k+j<p by omega),GM.out k hk j hj]
   ·unfold insB
    rw [if_neg (by omega),if_neg (by omega)]
    exact HM0.out (i-1) (by omega)
end Go.Proofs.YtobdfhlmipcjbaaGreatDoor
namespace Go.Proofs.YtobdfhlmipcjbaaGreatDoor
open Go.RowKit Pop
def NxtP(m:Nat->Bool)(i:Nat)(e:Ending):Prop:=
 ∃(n:Nat) (r:Bool),e= .returned (.tuple #[.int .u64 (n:Int),.bool r])/\((r=true/\i<=n/\m n=true/\∀j,i<=j->j<n->m j=false)\/(r=false/\∀j,i<=j->m j=false))
theorem zero_bits{x:BitVec 64}(h:x=0)(j:Nat):x.getLsbD j=false:=by rw [h];simp
theorem nxt_first{m:Nat->Bool}{i p k:Nat}{x:BitVec 64}(hi:i=64*p+k)(hx:x=pk m p>>>k):
  (x≠0->ctz x<64/\m (i+ctz x)=true/\∀j,i<=j->j<i+ctz x->m j=false)/\(x=0->∀j,i<=j->j<64*(p+1)->m j=false):=by
 have hb:∀j,x.getLsbD j=(decide (k+j<64)&&m (i+j)):=fun j=>by
  rw [hx,BitVec.getLsbD_ushiftRight,getLsbD_pk,hi,Nat.add_assoc]
 refine ⟨fun h=>?_,fun h j h1 h2=>?_⟩
 ·obtain ⟨a,b,c⟩:=ctz_spec h
  rw [hb]at b
  simp only [Bool.and_eq_true,decide_eq_true_eq]at b
  refine ⟨a,b.2,fun j h1 h2=>?_⟩
  have:=c (j-i) (by omega)
  rw [hb,show i+(j-i)=j by omega]at this
  have d:decide (k+(j-i)<64)=true:=by simp;omega
  rw [d]at this
  simpa using this
 ·have:=zero_bits h (j-i)
  rw [hb,show i+(j-i)=j by omega]at this
  have d:decide (k+(j-i)<64)=true:=by simp;omega
  rw [d]at this
  simpa using this
theorem nxt_word{m:Nat->Bool}{p:Nat} :
  (pk m p≠0->ctz (pk m p)<64/\m (64*p+ctz (pk m p))=true/\∀j,64*p<=j->j<64*p+ctz (pk m p)->m j=false)/\(pk m p=0->∀j,64*p<=j->j<64*(p+1)->m j=false):=
 nxt_first (m:=m) (i:=64*p) (p:=p) (k:=0) (x:=pk m p) rfl (by rw [BitVec.ushiftRight_zero])
theorem next_c(b i L:Nat)(v:Value)(m:Nat->Bool)(w:World)(hT:Tab64 w)(hi:i<=50000)(h:BA w b v L m):
  Calls Tryz.prog 88 #[.pointer (some ⟨b,0,none⟩),.int .u64 (i:Int)] w fun e w'=>NxtP m i e/\∃q,w'=w.drewN q:=by
 obtain ⟨h0,hl,hm,A,s,c,h1,hc,hA,hw⟩:=h.view2
 have hn:=nw_bound hl
 have hout:∀j,64*nw L<=j->m j=false:=fun j hj=>hm j (by unfold nw at hj;omega)
 obtain ⟨n,hn'⟩:∃n,n=nw L:=⟨_,rfl⟩
 rw [<- hn']at h1 hc hA hw hn hout
 obtain ⟨p,hp⟩:∃p,i/64=p:=⟨_,rfl⟩
 obtain ⟨k,hk⟩:∃k,i%64=k:=⟨_,rfl⟩
 have hpi:(i:Int)/64=(p:Int):=by omega
 have hik:i=64*p+k:=by omega
 have hk64:k<64:=by omega
 have hp2:p<=1000:=by omega
 have HM:=Lib.hid hm;have HW:=Lib.hid hw;have HO:=Lib.hid hout;have HIK:=Lib.hid hik
 clear hm hw hout hik hn' h h0 hl
 by_cases hlt:p<n
 ·have hge:decide ((n:Int)<=(p:Int))=false:=by simp;omega
  obtain rfl:=hA (by omega)
  have h2:=HW.out p hlt
  obtain ⟨x,hx⟩:∃x,x=pk m p>>>k:=⟨_,rfl⟩
  have hxi:wn (pk m p)/(2:Int)^k=wn x:=by rw [hx];exact wn_shr _ _
  obtain ⟨f1,f2⟩:=nxt_first HIK.out hx
  have F1:=Lib.hid f1;have F2:=Lib.hid f2;clear hx f1 f2 hA
  have hTq:∀q,Tab64 (w.drewN q):=fun q=>hT
  have HT:=Lib.hid hTq;clear hTq hT
  go_enter Tryz.func88,Tryz.ntmps88
  go_wp2
  go_quiet ((go_at_call 99;exact Calls.quiet_of_same (wordsIndex_c _ _ (by omega))))
  have HT2:=Lib.hid (HT.out nq)
  have hw2:∀j,j<n->(w.drewN nq).cell? ⟨s,j,none⟩=some (WV (pk m j)):=HW.out
  have h1':(w.drewN nq).cell? ⟨b,1,none⟩=some (.slice (some ⟨s,0,none⟩) n c):=h1
  have HW2:=Lib.hid hw2
  generalize hw1:w.drewN nq=w1 at*
  have HW1:=Lib.hid hw1;clear hw1 hw2 h1 h2
  by_cases hxz:x=0
  ·subst hxz
   have hz:wn (0:BitVec 64)=0:=rfl
   rw [hz]at hxi
   have f2:=F2.out rfl
   have F2':=Lib.hid f2;clear f2
   rcases Nat.lt_or_ge (p+1) n with hq|hq
   ·have hne:¬p+1=c:=by omega
    have s1:(0:Int)<=(p:Int)+1/\(p:Int)+1<=n:=by omega
    have s2:((p:Int)+1).toNat=p+1:=by omega
    go_wp2
    clear s1 h1' hxi
    go_loopw [46] (fun t wr=>∃q:Nat,q<=n-(p+1)/\t= .int .i64 (q:Int)/\(∀j,i<=j->j<64*(p+1+q)->m j=false)/\wr=w1) (fun t _=>(n-(p+1))-(intOf t).toNat)
    case atStart=>exact ⟨0,by omega,rfl,F2'.out,rfl⟩
    case round=>
     obtain ⟨q,hq2,rfl,hz2,rfl⟩:=hrel
     have HZ:=Lib.hid hz2;clear hz2
     by_cases hlt2:q<n-(p+1)
     ·have h3:=HW2.out (p+1+q) (by omega)
      by_cases hy:pk m (p+1+q)=0
      ·have hy2:=(nxt_word (m:=m) (p:=p+1+q)).2 hy
       rw [hy]at h3
       have HY:=Lib.hid hy2;clear hy hy2
       go_wp2
       go_roundw
       case rel=>
        refine ⟨q+1,by omega,by go_num,fun j h1 h2=>?_,by first|rfl|trivial⟩
        rcases Nat.lt_or_ge j (64*(p+1+q)) with h|h
        ·exact HZ.out j h1 h
        ·exact HY.out j h (by omega)
       case measure=>simp [intOf];omega
      ·have hy1:¬wn (pk m (p+1+q))=0:=by rw [wn_eq_zero];exact hy
       obtain ⟨g1,g2,g3⟩:=(nxt_word (m:=m) (p:=p+1+q)).1 hy
       have G2:=Lib.hid g2;have G3:=Lib.hid g3;clear g2 g3 hy
       go_wp2_with (go_at_call 40;refine (ctz_c _ _ HT2.out).mono ?_;rintro e w2 ⟨rfl,rfl⟩)
       go_ret2
       refine ⟨⟨64*(p+1+q)+ctz (pk m (p+1+q)),true,?_,.inl ⟨rfl,by have:=HIK.out;omega,G2.out,fun j h1 h2=>?_⟩⟩,_,HW1.out.symm⟩
       ·go_num
       ·rcases Nat.lt_or_ge j (64*(p+1+q)) with h|h
        ·exact HZ.out j h1 h
        ·exact G3.out j h h2
     ·have hqq:q=n-(p+1):=by omega
      subst hqq
      go_wp2
      go_ret2
      refine ⟨⟨0,false,rfl,.inr ⟨rfl,fun j h1=>?_⟩⟩,_,HW1.out.symm⟩
      rcases Nat.lt_or_ge j (64*(p+1+(n-(p+1)))) with h|h
      ·exact HZ.out j h1 h
      ·exact HO.out j (by omega)
   ·have hq1:p+1=n:=by omega
    subst hq1
    have s1:(0:Int)<=(p:Int)+1/\(p:Int)+1<=(p+1:Nat):=by omega
    have s2:((p:Int)+1).toNat=p+1:=by omega
    rcases Classical.em (p+1=c) with hcc|hcc
    all_goals
     go_wp2
     refine wp_loop_once ?_
     go_wp2
     go_ret2
     refine ⟨⟨0,false,rfl,.inr ⟨rfl,fun j h1=>?_⟩⟩,_,HW1.out.symm⟩
     rcases Nat.lt_or_ge j (64*(p+1)) with h|h
     ·exact F2'.out j h1 h
     ·exact HO.out j (by omega)
  ·have hy1:¬wn x=0:=by rw [wn_eq_zero];exact hxz
   obtain ⟨g1,g2,g3⟩:=F1.out hxz
   have G2:=Lib.hid g2;have G3:=Lib.hid g3;clear g2 g3 hxz
   go_wp2_with (go_at_call 40;refine (ctz_c _ _ HT2.out).mono ?_;rintro e w2 ⟨rfl,rfl⟩)
   go_ret2
   exact ⟨⟨i+ctz x,true,by go_num,.inl ⟨rfl,by omega,G2.out,G3.out⟩⟩,_,HW1.out.symm⟩
 ·have hge:decide ((n:Int)<=(p:Int))=true:=by simp;omega
  clear hA
  go_enter Tryz.func88,Tryz.ntmps88
  go_wp2
  go_ret2
  exact ⟨⟨0,false,rfl,.inr ⟨rfl,fun j hj=>HO.out j (by have:=HIK.out;omega)⟩⟩,0,rfl⟩
def ClrP(m:Nat->Bool)(i L:Nat)(e:Ending):Prop:=
 ∃(n:Nat) (r:Bool),e= .returned (.tuple #[.int .u64 (n:Int),.bool r])/\((r=true/\i<=n/\n<L/\m n=false/\∀j,i<=j->j<n->m j=true)\/(r=false/\∀j,i<=j->j<L->m j=true))
theorem clr_first{m:Nat->Bool}{i p k:Nat}{x:BitVec 64}(hi:i=64*p+k)(hk:k<64)(hx:x=pk m p>>>k):
  (x≠BitVec.allOnes 64>>>k->k+ctz (~~~ x)<64/\m (i+ctz (~~~ x))=false/\∀j,i<=j->j<i+ctz (~~~ x)->m j=true)/\(x=BitVec.allOnes 64>>>k->∀j,i<=j->j<64*(p+1)->m j=true):=by
 have hb:∀j,k+j<64->x.getLsbD j=m (i+j):=fun j hj=>by
  rw [hx,BitVec.getLsbD_ushiftRight,getLsbD_pk,hi,Nat.add_assoc];simp [hj]
 refine ⟨fun h=>?_,fun h j h1 h2=>?_⟩
 ·have hex:∃j,k+j<64/\m (i+j)=false:=by
   apply Classical.byContradiction
   intro hne
   apply h
   apply BitVec.eq_of_getLsbD_eq
   intro j hj
   rw [bit_lo]
   by_cases e:k+j<64
   ·rw [hb j e]
    cases hm:m (i+j)
    ·exact absurd ⟨j,e,hm⟩ hne
    ·simp [e]
   ·rw [hx,BitVec.getLsbD_ushiftRight,getLsbD_pk];simp [e]
  obtain ⟨j0,h1,h2⟩:=hex
  have hnz: ~~~ x≠0:=by
   intro h0
   have:=zero_bits h0 j0
   rw [BitVec.getLsbD_not,hb j0 h1,h2]at this
   have d:decide (j0<64)=true:=by simp;omega
   rw [d]at this;simp at this
  obtain ⟨a,b,c⟩:=ctz_spec hnz
  have hz:k+ctz (~~~ x)<64:=by
   rcases Nat.lt_or_ge (k+ctz (~~~ x)) 64 with h|h
   ·exact h
   ·exfalso
    have:=c j0 (by omega)
    rw [BitVec.getLsbD_not,hb j0 h1,h2]at this
    have d:decide (j0<64)=true:=by simp;omega
    rw [d]at this;simp at this
  refine ⟨hz,?_,fun j h3 h4=>?_⟩
  ·rw [BitVec.getLsbD_not,hb _ hz]at b
   simpa [a] using b
  ·have:=c (j-i) (by omega)
   rw [BitVec.getLsbD_not,hb _ (by omega),show i+(j-i)=j by omega]at this
   have d:decide (j-i<64)=true:=by simp;omega
   rw [d]at this;simpa using this
 ·have:=hb (j-i) (by omega)
  rw [h,bit_lo,show i+(j-i)=j by omega]at this
  have d:decide (k+(j-i)<64)=true:=by simp;omega
  rw [d]at this;exact this.symm
theorem clr_word{m:Nat->Bool}{p:Nat} :
  (pk m p≠BitVec.allOnes 64->ctz (~~~ pk m p)<64/\m (64*p+ctz (~~~ pk m p))=false/\∀j,64*p<=j->j<64*p+ctz (~~~ pk m p)->m j=true)/\(pk m p=BitVec.allOnes 64->∀j,64*p<=j->j<64*(p+1)->m j=true):=by
 have:=clr_first (m:=m) (i:=64*p) (p:=p) (k:=0) (x:=pk m p) rfl (by decide) (by rw [BitVec.ushiftRight_zero])
 rwa [BitVec.ushiftRight_zero,Nat.zero_add]at this
theorem ctzNot_c(x:BitVec 64)(w:World)(hT:Tab64 w):
  Calls Tryz.prog 40 #[.int .u64 (bits .xor .u64 (if IntKind.u64.signed=true then -1 else IntKind.u64.max) (wn x))] w fun e w'=>e= .returned (.int .i64 (ctz (~~~ x)))/\w'=w:=by
 rw [show (if IntKind.u64.signed=true then (-1:Int) else IntKind.u64.max)=IntKind.u64.max from rfl,wn_max]
 exact ctz_c _ w hT
theorem nextClear_c(b i L:Nat)(v:Value)(m:Nat->Bool)(w:World)(hT:Tab64 w)(hi:i<L)(h:BA w b v L m):
  Calls Tryz.prog 89 #[.pointer (some ⟨b,0,none⟩),.int .u64 (i:Int)] w fun e w'=>ClrP m i L e/\w'=w:=by
 obtain ⟨h0,hl,hm,A,s,c,h1,hc,hA,hw⟩:=h.view2
 have hn:=nw_bound hl
 have hLn:L<=64*nw L:=by unfold nw;omega
 have hLn2:64*nw L<=L+63:=by unfold nw;omega
 obtain ⟨n,hn'⟩:∃n,n=nw L:=⟨_,rfl⟩
 rw [<- hn']at h1 hc hA hw hn hLn hLn2
 obtain ⟨p,hp⟩:∃p,i/64=p:=⟨_,rfl⟩
 obtain ⟨k,hk⟩:∃k,i%64=k:=⟨_,rfl⟩
 have hpi:(i:Int)/64=(p:Int):=by omega
 have hik:i=64*p+k:=by omega
 have hk64:k<64:=by omega
 have hlt:p<n:=by omega
 have hwi:∀w,Calls Tryz.prog 99 #[.int .u64 (i:Int)] w fun e w'=>e= .returned (.int .u64 (k:Int))/\w'=w:=fun w=>by have h:=wordsIndex_c i w (by omega);rwa [hk]at h
 have HWI:=Lib.hid hwi;clear hwi hk
 have HW:=Lib.hid hw;have HIK:=Lib.hid hik;have HL:=Lib.hid hLn;have HL2:=Lib.hid hLn2
 clear hm hw hik hn' h hLn hLn2
 have hge0:decide ((L:Int)<=(i:Int))=false:=by simp;omega
 have hge:decide ((n:Int)<=(p:Int))=false:=by simp;omega
 obtain rfl:=hA (by omega)
 have h2:=HW.out p hlt
 obtain ⟨x,hx⟩:∃x,x=pk m p>>>k:=⟨_,rfl⟩
 obtain ⟨y,hy⟩:∃y,y=BitVec.allOnes 64>>>k:=⟨_,rfl⟩
 have hxi:wn (pk m p)/(2:Int)^k=wn x:=by rw [hx];exact wn_shr _ _
 have hyi:(18446744073709551615:Int)/(2:Int)^k=wn y:=by rw [hy];exact all_shr _
 obtain ⟨f1,f2⟩:=clr_first HIK.out hk64 hx
 rw [<- hy]at f1 f2
 obtain ⟨z,hz⟩:∃z,z=ctz (~~~ x):=⟨_,rfl⟩
 rw [<- hz]at f1
 have hz64:z<=64:=by
  rw [hz]
  by_cases e: ~~~ x=0
  ·rw [e,ctz_zero];exact Nat.le_refl _
  ·exact Nat.le_of_lt (ctz_spec e).1
 have hcz:∀w,Tab64 w->Calls Tryz.prog 40 #[.int .u64 (bits .xor .u64 (if IntKind.u64.signed=true then -1 else IntKind.u64.max) (wn x))] w fun e w'=>e= .returned (.int .i64 (z:Int))/\w'=w:=fun w h=>by rw [hz];exact ctzNot_c x w h
 have HCZ:=Lib.hid hcz
 have F1:=Lib.hid f1;have F2:=Lib.hid f2;have HT:=Lib.hid hT;clear hx hy f1 f2 hA hz hcz hT
 have s2:((p:Int)+1).toNat=p+1:=by omega
 by_cases hxy:x=y
 ·subst hxy
  have HS:=Lib.hid (F2.out rfl);clear F1 F2
  rcases Nat.lt_or_ge (p+1) n with hq|hq
  ·have hne2:¬p+1=c:=by omega
   have s1:(0:Int)<=(p:Int)+1/\(p:Int)+1<=n:=by omega
   go_enter Tryz.func89,Tryz.ntmps89
   go_wp2_with (first|(go_at_call 99;refine (HWI.out _).mono ?_;rintro e w' ⟨rfl,rfl⟩)|(go_at_call 40;refine (HCZ.out _ HT.out).mono ?_;rintro e w' ⟨rfl,rfl⟩))
   clear s1 h1 h2 hxi hyi
   go_loopw [69] (fun t wr=>∃q:Nat,q<=n-(p+1)/\t= .int .i64 (q:Int)/\(∀j,i<=j->j<64*(p+1+q)->j<L->m j=true)/\wr=w') (fun t _=>(n-(p+1))-(intOf t).toNat)
   case atStart=>exact ⟨0,by omega,rfl,fun j h1 h2 _=>HS.out j h1 h2,rfl⟩
   case round=>
    obtain ⟨q,hq2,rfl,hz2,rfl⟩:=hrel
    have HZ:=Lib.hid hz2;clear hz2
    by_cases hlt2:q<n-(p+1)
    ·have h3:=HW.out (p+1+q) (by omega)
     by_cases hy:pk m (p+1+q)=BitVec.allOnes 64
     ·have hy2:=(clr_word (m:=m) (p:=p+1+q)).2 hy
      rw [hy]at h3
      have hww:wn (BitVec.allOnes 64)=18446744073709551615:=wn_all.symm
      have HY:=Lib.hid hy2;clear hy hy2
      go_wp2
      go_roundw
      case rel=>
       refine ⟨q+1,by omega,by go_num,fun j h1 h2 h3=>?_,by first|rfl|trivial⟩
       rcases Nat.lt_or_ge j (64*(p+1+q)) with h|h
       ·exact HZ.out j h1 h h3
       ·exact HY.out j h (by omega)
      case measure=>simp [intOf];omega
     ·have hy1:¬wn (pk m (p+1+q))=18446744073709551615:=fun h=>hy (wn_inj (h.trans wn_all))
      obtain ⟨g1,g2,g3⟩:=(clr_word (m:=m) (p:=p+1+q)).1 hy
      have G2:=Lib.hid g2;have G3:=Lib.hid g3;clear g2 g3 hy
      by_cases hin:64*(p+1+q)+ctz (~~~ pk m (p+1+q))<L
      ·have hd3:decide (((p:Int)+1+(q:Int))*64+(ctz (~~~ pk m (p+1+q)):Int)<(L:Int))=true:=by simp;omega
       go_wp2_with (go_at_call 40;refine (ctzNot_c _ _ HT.out).mono ?_;rintro e w2 ⟨rfl,rfl⟩)
       go_ret2
       refine ⟨⟨64*(p+1+q)+ctz (~~~ pk m (p+1+q)),true,?_,.inl ⟨rfl,by have:=HIK.out;omega,hin,G2.out,fun j h1 h2=>?_⟩⟩,rfl⟩
       ·go_num
       ·rcases Nat.lt_or_ge j (64*(p+1+q)) with h|h
        ·exact HZ.out j h1 h (by omega)
        ·exact G3.out j h h2
      ·have hd3:decide (((p:Int)+1+(q:Int))*64+(ctz (~~~ pk m (p+1+q)):Int)<(L:Int))=false:=by simp;omega
       go_wp2_with (go_at_call 40;refine (ctzNot_c _ _ HT.out).mono ?_;rintro e w2 ⟨rfl,rfl⟩)
       go_roundw
       case rel=>
        refine ⟨q+1,by omega,by go_num,fun j h1 h2 h3=>?_,by first|rfl|trivial⟩
        rcases Nat.lt_or_ge j (64*(p+1+q)) with h|h
        ·exact HZ.out j h1 h h3
        ·exact G3.out j h (by omega)
       case measure=>simp [intOf];omega
    ·have hqq:q=n-(p+1):=by omega
     have HQQ:=Lib.hid hqq
     subst hqq
     go_wp2
     go_ret2
     exact ⟨⟨0,false,rfl,.inr ⟨rfl,fun j h1 h2=>HZ.out j h1 (by have:=HL.out;omega) h2⟩⟩,rfl⟩
  ·have hq1:n=p+1:=by omega
   subst hq1
   have s1:(0:Int)<=(p:Int)+1/\(p:Int)+1<=(p+1:Nat):=by omega
   rcases Classical.em (p+1=c) with hcc|hcc
   all_goals
    go_enter Tryz.func89,Tryz.ntmps89
    go_wp2_with (first|(go_at_call 99;refine (HWI.out _).mono ?_;rintro e w' ⟨rfl,rfl⟩)|(go_at_call 40;refine (HCZ.out _ HT.out).mono ?_;rintro e w' ⟨rfl,rfl⟩))
    refine wp_loop_once ?_
    go_wp2
    go_ret2
    exact ⟨⟨0,false,rfl,.inr ⟨rfl,fun j h1 h2=>HS.out j h1 (by have:=HL.out;omega)⟩⟩,rfl⟩
 ·have hd1:¬wn x=wn y:=fun h=>hxy (wn_inj h)
  obtain ⟨g1,g2,g3⟩:=F1.out hxy
  have G2:=Lib.hid g2;have G3:=Lib.hid g3;clear g2 g3 hxy F1 F2
  by_cases hzl:i+z<L
  ·have hd2:decide ((i:Int)+(z:Int)<(L:Int))=true:=by simp;omega
   go_enter Tryz.func89,Tryz.ntmps89
   go_wp2_with (first|(go_at_call 99;refine (HWI.out _).mono ?_;rintro e w' ⟨rfl,rfl⟩)|(go_at_call 40;refine (HCZ.out _ HT.out).mono ?_;rintro e w' ⟨rfl,rfl⟩))
   go_ret2
   exact ⟨⟨i+z,true,by go_num,.inl ⟨rfl,by omega,hzl,G2.out,G3.out⟩⟩,rfl⟩
  ·have hd2:decide ((i:Int)+(z:Int)<(L:Int))=false:=by simp;omega
   have hq1:n=p+1:=by have:=HL2.out;have:=HIK.out;omega
   subst hq1
   have s1:(0:Int)<=(p:Int)+1/\(p:Int)+1<=(p+1:Nat):=by omega
   rcases Classical.em (p+1=c) with hcc|hcc
   all_goals
    go_enter Tryz.func89,Tryz.ntmps89
    go_wp2_with (first|(go_at_call 99;refine (HWI.out _).mono ?_;rintro e w' ⟨rfl,rfl⟩)|(go_at_call 40;refine (HCZ.out _ HT.out).mono ?_;rintro e w' ⟨rfl,rfl⟩))
    refine wp_loop_once ?_
    go_wp2
    go_ret2
    exact ⟨⟨0,false,rfl,.inr ⟨rfl,fun j h1 h2=>G3.out j h1 (by omega)⟩⟩,rfl⟩
end Go.Proofs.YtobdfhlmipcjbaaGreatDoor
