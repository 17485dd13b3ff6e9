/- The number at a place: select64, Select. No condition beyond the set's own. The numbers moved down: ShiftRight. Conditions: at most 50,000 down. -/
import Derived.Test.YtobdfhlmipcjbaaGreatDoorG02
import Derived.Test.YtobdfhlmipcjbaaGreatDoorG06
set_option linter.unusedVariables false
set_option linter.unusedSimpArgs false
set_option maxHeartbeats 8000000
set_option maxRecDepth 100000
namespace Go.Proofs.YtobdfhlmipcjbaaGreatDoor
open Go.RowKit Pop
def SelB(x:BitVec 64)(j t:Nat):Prop:=x.getLsbD t=true/\cntB x t=j
theorem cntB_succ(x:BitVec 64)(t:Nat):cntB x (t+1)=cntB x t+(if x.getLsbD t then 1 else 0):=by
 rw [cntB_add];congr 1
 simp only [List.range_one,List.countP_cons,List.countP_nil,Nat.add_zero,Nat.zero_add]
theorem cntB_mono(x:BitVec 64){a b:Nat}(h:a<=b):cntB x a<=cntB x b:=by
 obtain ⟨d,rfl⟩:=Nat.exists_eq_add_of_le h
 rw [cntB_add];omega
theorem selB_ex(x:BitVec 64)(j:Nat):∀n,j<cntB x n->∃t,t<n/\SelB x j t:=by
 intro n
 induction n with
 |zero=>intro h;simp [cntB]at h
 |succ n ih=>
  intro h
  rcases Nat.lt_or_ge j (cntB x n) with h1|h1
  ·obtain ⟨t,h2,h3⟩:=ih h1
   exact ⟨t,by omega,h3⟩
  ·rw [cntB_succ]at h
   cases hb:x.getLsbD n
   ·rw [hb]at h;simp at h;omega
   ·rw [hb]at h;simp at h
    exact ⟨n,by omega,hb,by omega⟩
def lowM(h:Nat):BitVec 64:=((1:BitVec 64)<<<h)-1
theorem low_bit(x:BitVec 64)(h t:Nat)(hh:h<64):(x&&&lowM h).getLsbD t=(x.getLsbD t&&decide (t<h)):=by
 unfold lowM
 rw [BitVec.getLsbD_and]
 rcases Nat.lt_or_ge t 64 with ht|ht
 ·rw [low_mask h t hh]
 ·have h1:x.getLsbD t=false:=BitVec.getLsbD_of_ge x t ht
  rw [h1];simp
theorem low_cnt(x:BitVec 64)(h t:Nat)(hh:h<64)(ht:t<=h):cntB (x&&&lowM h) t=cntB x t:=by
 unfold cntB
 apply List.countP_congr
 intro i hi
 have:=List.mem_range.1 hi
 rw [low_bit x h i hh]
 have d:decide (i<h)=true:=by simp;omega
 rw [d];simp
theorem low_pc(x:BitVec 64)(h:Nat)(hh:h<64):pc (x&&&lowM h)=cntB x h:=by
 show cntB (x&&&lowM h) 64=_
 have e:cntB (x&&&lowM h) 64=cntB (x&&&lowM h) (h+(64-h)):=congrArg _ (by omega)
 rw [e,cntB_add,low_cnt x h h hh (Nat.le_refl _)]
 have:(List.range (64-h)).countP (fun j=>(x&&&lowM h).getLsbD (h+j))=0:=by
  rw [List.countP_eq_zero]
  intro j _
  rw [low_bit x h _ hh]
  simp
 omega
theorem shr_cnt(x:BitVec 64)(h t:Nat):cntB x (h+t)=cntB x h+cntB (x>>>h) t:=by
 rw [cntB_add]
 congr 1
 unfold cntB
 apply List.countP_congr
 intro j _
 rw [BitVec.getLsbD_ushiftRight]
theorem shr_pc(x:BitVec 64)(h:Nat)(hh:h<=64):pc x=cntB x h+pc (x>>>h):=by
 have h1:pc x=cntB x (h+(64-h)):=by show cntB x 64=_;exact congrArg _ (by omega)
 rw [h1,shr_cnt]
 congr 1
 show _=cntB (x>>>h) 64
 have e:cntB (x>>>h) 64=cntB (x>>>h) ((64-h)+h):=congrArg _ (by omega)
 rw [e,cntB_add]
 have:(List.range h).countP (fun j=>(x>>>h).getLsbD (64-h+j))=0:=by
  rw [List.countP_eq_zero]
  intro j _
  rw [BitVec.getLsbD_ushiftRight,BitVec.getLsbD_of_ge x _ (by omega)]
  simp
 omega
structure Half(x:BitVec 64)(j h:Nat)(x':BitVec 64)(j' s:Nat):Prop where
 lt:j<pc x->j'<pc x'
 bits_:∀n,(∀t,x.getLsbD t=true->t<n+h)->n<=h->∀t,x'.getLsbD t=true->t<h
 sel:∀t,SelB x' j' t->SelB x j (s+t)
theorem half_hi(x:BitVec 64)(j h:Nat)(hh:h<64)(hj:pc (x&&&lowM h)<=j):Half x j h (x>>>h) (j-pc (x&&&lowM h)) h:=by
 rw [low_pc x h hh] at*
 refine ⟨fun hl=>?_,fun n hb hn t ht=>?_,fun t ht=>?_⟩
 ·rw [shr_pc x h (by omega)]at hl;omega
 ·rw [BitVec.getLsbD_ushiftRight]at ht
  have:=hb _ ht;omega
 ·obtain ⟨a,b⟩:=ht
  rw [BitVec.getLsbD_ushiftRight]at a
  exact ⟨a,by rw [shr_cnt,b];omega⟩
theorem half_lo(x:BitVec 64)(j h:Nat)(hh:h<64)(hj:j<pc (x&&&lowM h)):Half x j h (x&&&lowM h) j 0:=by
 refine ⟨fun _=>hj,fun n hb hn t ht=>?_,fun t ht=>?_⟩
 ·rw [low_bit x h t hh]at ht
  simp at ht;exact ht.2
 ·obtain ⟨a,b⟩:=ht
  rw [low_bit x h t hh]at a
  simp at a
  rw [Nat.zero_add]
  exact ⟨a.1,by rw [<- b,low_cnt x h t hh (by omega)]⟩
theorem and1_bit(x:BitVec 64)(k:Nat):bits .and .u64 (wn (x>>>k)) 1=if x.getLsbD k then 1 else 0:=by
 have e:bits .and .u64 (wn (x>>>k)) 1=wn ((x>>>k)&&&1):=wn_and _ 1
 rw [e]
 have h2:(x>>>k)&&&1=if x.getLsbD k then 1 else 0:=by
  apply BitVec.eq_of_getLsbD_eq
  intro j hj
  rw [BitVec.getLsbD_and,BitVec.getLsbD_ushiftRight,show ((1:BitVec 64))=1#64 from rfl,BitVec.getLsbD_one]
  by_cases h0:j=0
  ·subst h0;cases x.getLsbD k <;> simp
  ·cases x.getLsbD k <;> simp [h0,BitVec.getLsbD_one]
 rw [h2]
 cases x.getLsbD k <;> rfl
def SelR(w:BitVec 64)(j:Nat)(e:Ending):Prop:=∃t:Nat,e= .returned (.int .u64 (t:Int))/\SelB w j t
theorem SelB.lt{x:BitVec 64}{j t:Nat}(h:SelB x j t):t<64:=by
 rcases Nat.lt_or_ge t 64 with h1|h1
 ·exact h1
 ·have:=BitVec.getLsbD_of_ge x t h1
  rw [h.1]at this;cases this
theorem select64_c(w0:BitVec 64)(j:Nat)(w:World)(hj:j<pc w0):
  Calls Tryz.prog 126 #[WV w0,.int .u64 (j:Int)] w fun e w'=>SelR w0 j e/\w'=w:=by
 have hj64:j<=64:=by have:=pc_le w0;omega
 have hb0:∀t,w0.getLsbD t=true->t<32+32:=fun t ht=>by
  rcases Nat.lt_or_ge t 64 with h|h
  ·exact h
  ·rw [BitVec.getLsbD_of_ge w0 t h]at ht;cases ht
 obtain ⟨p1,hp1⟩:∃p,p=w0&&&lowM 32:=⟨_,rfl⟩
 have e1:bits .and .u64 (wn w0) 4294967295=wn p1:=by rw [hp1];exact wn_and w0 (lowM 32)
 have q1:=pc_le p1
 by_cases c1:pc p1<=j
 ·have d1:decide (pc p1<=j)=true:=by simp;omega
  obtain ⟨x1,hx1⟩:∃y,y=w0>>>32:=⟨_,rfl⟩
  have g1:wn w0/(4294967296:Int)=wn x1:=by rw [hx1];exact wn_shr w0 32
  obtain ⟨j1,hj1⟩:∃y,y=j-pc p1:=⟨_,rfl⟩
  have k1:(j:Int)-(pc p1:Int)=(j1:Int):=by omega
  have hj1b:j1<=64:=by omega
  have H1:Half w0 j 32 x1 j1 32:=by rw [hx1,hj1,hp1];exact half_hi w0 j 32 (by decide) (by rw [<- hp1];exact c1)
  have HH1:=Lib.hid H1;clear H1 hx1 hj1 hp1 c1
  obtain ⟨p2,hp2⟩:∃p,p=x1&&&lowM 16:=⟨_,rfl⟩
  have e2:bits .and .u64 (wn x1) 65535=wn p2:=by rw [hp2];exact wn_and x1 (lowM 16)
  have q2:=pc_le p2
  by_cases c2:pc p2<=j1
  ·have d2:decide (pc p2<=j1)=true:=by simp;omega
   obtain ⟨x2,hx2⟩:∃y,y=x1>>>16:=⟨_,rfl⟩
   have g2:wn x1/(65536:Int)=wn x2:=by rw [hx2];exact wn_shr x1 16
   obtain ⟨j2,hj2⟩:∃y,y=j1-pc p2:=⟨_,rfl⟩
   have k2:(j1:Int)-(pc p2:Int)=(j2:Int):=by omega
   have hj2b:j2<=64:=by omega
   have H2:Half x1 j1 16 x2 j2 16:=by rw [hx2,hj2,hp2];exact half_hi x1 j1 16 (by decide) (by rw [<- hp2];exact c2)
   have HH2:=Lib.hid H2;clear H2 hx2 hj2 hp2 c2
   obtain ⟨p3,hp3⟩:∃p,p=x2&&&lowM 8:=⟨_,rfl⟩
   have e3:bits .and .u64 (wn x2) 255=wn p3:=by rw [hp3];exact wn_and x2 (lowM 8)
   have q3:=pc_le p3
   by_cases c3:pc p3<=j2
   ·have d3:decide (pc p3<=j2)=true:=by simp;omega
    obtain ⟨x3,hx3⟩:∃y,y=x2>>>8:=⟨_,rfl⟩
    have g3:wn x2/(256:Int)=wn x3:=by rw [hx3];exact wn_shr x2 8
    obtain ⟨j3,hj3⟩:∃y,y=j2-pc p3:=⟨_,rfl⟩
    have k3:(j2:Int)-(pc p3:Int)=(j3:Int):=by omega
    have hj3b:j3<=64:=by omega
    have H3:Half x2 j2 8 x3 j3 8:=by rw [hx3,hj3,hp3];exact half_hi x2 j2 8 (by decide) (by rw [<- hp3];exact c3)
    have HH3:=Lib.hid H3;clear H3 hx3 hj3 hp3 c3
    have hz8:∀t,x3.getLsbD t=true->t<8:=HH3.out.bits_ 8 (fun t ht=>by have:=HH2.out.bits_ 16 (fun t ht=>by have:=HH1.out.bits_ 32 hb0 (by decide) t ht;omega) (by decide) t ht;omega) (by decide)
    obtain ⟨ts,_,hts⟩:=selB_ex x3 j3 64 (HH3.out.lt (HH2.out.lt (HH1.out.lt hj)))
    have ht8:ts<8:=hz8 ts hts.1
    have hsel:SelB w0 j (56+ts):=by
     have h:=HH1.out.sel _ (HH2.out.sel _ (HH3.out.sel _ hts))
     rwa [show 32+(16+(8+ts))=56+ts by omega]at h
    have HTS:=Lib.hid hts;have HSEL:=Lib.hid hsel;clear hts hsel hz8
    have hjz:cntB x3 ts=j3:=HTS.out.2
    have HJZ:=Lib.hid hjz;clear hjz
    go_enter Tryz.func126,Tryz.ntmps126
    go_wp2_with (go_at_call 125;refine (ones_c _ _).mono ?_;rintro e w' ⟨rfl,rfl⟩)
    clear d1 d2 d3 e1 e2 e3 q1 q2 q3 g1 k1 g2 k2 g3 k3
    go_loopw [1,9] (fun a i wr=>∃k y:Nat,k<=ts/\i= .int .i64 (k:Int)/\a= .int .u64 (y:Int)/\y+cntB x3 k=j3/\wr=w') (fun _ i _=>8-(intOf i).toNat)
    case atStart=>exact ⟨0,j3,by omega,rfl,rfl,rfl,rfl⟩
    case round=>
     obtain ⟨k,y,hk,rfl,rfl,hy,rfl⟩:=hrel
     have hyb:y<=64:=by omega
     have f1:wn x3/(2:Int)^k=wn (x3>>>k):=wn_shr _ _
     have f2:=and1_bit x3 k
     have hk8:k<8:=by omega
     by_cases hkt:k=ts
     ·subst hkt
      have hy0:y=0:=by have:=HJZ.out;omega
      subst hy0
      rw [if_pos HTS.out.1]at f2
      clear hy
      go_wp2
      go_ret
      exact ⟨⟨56+k,by first|rfl|go_num|simp,HSEL.out⟩,rfl⟩
     ·have hlt:k<ts:=by omega
      have hmono:=cntB_mono x3 (show k+1<=ts by omega)
      rw [HJZ.out,cntB_succ]at hmono
      cases hb:x3.getLsbD k
      ·rw [hb]at f2
       have hc:cntB x3 (k+1)=cntB x3 k:=by rw [cntB_succ,hb];rfl
       have HY:=Lib.hid hy;have HC:=Lib.hid hc
       have f3:bits .and .u64 (wn (x3>>>k)) 1=0:=f2
       have hne:¬(y:Int)+1=0:=by omega
       clear hy hc hmono hb f2
       go_wp2
       go_roundw
       case rel=>exact ⟨k+1,y,by omega,by go_num,by go_num,by rw [HC.out];exact HY.out,by first|rfl|trivial⟩
       case measure=>simp [intOf];omega
      ·rw [hb]at f2
       have hc:cntB x3 (k+1)=cntB x3 k+1:=by rw [cntB_succ,hb];rfl
       rw [hb]at hmono
       simp at hmono
       obtain ⟨y',rfl⟩:∃y',y=y'+1:=⟨y-1,by omega⟩
       have HY:=Lib.hid hy;have HC:=Lib.hid hc
       have f3:bits .and .u64 (wn (x3>>>k)) 1=1:=f2
       have f4:((y'+1:Nat):Int)-1=(y':Int):=by omega
       have hne:¬(y':Int)+1=0:=by omega
       clear hy hc hmono hb f2
       go_wp2
       go_roundw
       case rel=>exact ⟨k+1,y',by omega,by go_num,by go_num,by rw [HC.out];have:=HY.out;omega,by first|rfl|trivial⟩
       case measure=>simp [intOf];omega
   ·have d3:decide (pc p3<=j2)=false:=by simp;omega
    have H3:Half x2 j2 8 p3 j2 0:=by rw [hp3];exact half_lo x2 j2 8 (by decide) (by rw [<- hp3];omega)
    have HH3:=Lib.hid H3;clear H3 hp3 c3
    have hz8:∀t,p3.getLsbD t=true->t<8:=HH3.out.bits_ 8 (fun t ht=>by have:=HH2.out.bits_ 16 (fun t ht=>by have:=HH1.out.bits_ 32 hb0 (by decide) t ht;omega) (by decide) t ht;omega) (by decide)
    obtain ⟨ts,_,hts⟩:=selB_ex p3 j2 64 (HH3.out.lt (HH2.out.lt (HH1.out.lt hj)))
    have ht8:ts<8:=hz8 ts hts.1
    have hsel:SelB w0 j (48+ts):=by
     have h:=HH1.out.sel _ (HH2.out.sel _ (HH3.out.sel _ hts))
     rwa [show 32+(16+(0+ts))=48+ts by omega]at h
    have HTS:=Lib.hid hts;have HSEL:=Lib.hid hsel;clear hts hsel hz8
    have hjz:cntB p3 ts=j2:=HTS.out.2
    have HJZ:=Lib.hid hjz;clear hjz
    go_enter Tryz.func126,Tryz.ntmps126
    go_wp2_with (go_at_call 125;refine (ones_c _ _).mono ?_;rintro e w' ⟨rfl,rfl⟩)
    clear d1 d2 d3 e1 e2 e3 q1 q2 q3 g1 k1 g2 k2
    go_loopw [1,9] (fun a i wr=>∃k y:Nat,k<=ts/\i= .int .i64 (k:Int)/\a= .int .u64 (y:Int)/\y+cntB p3 k=j2/\wr=w') (fun _ i _=>8-(intOf i).toNat)
    case atStart=>exact ⟨0,j2,by omega,rfl,rfl,rfl,rfl⟩
    case round=>
     obtain ⟨k,y,hk,rfl,rfl,hy,rfl⟩:=hrel
     have hyb:y<=64:=by omega
     have f1:wn p3/(2:Int)^k=wn (p3>>>k):=wn_shr _ _
     have f2:=and1_bit p3 k
     have hk8:k<8:=by omega
     by_cases hkt:k=ts
     ·subst hkt
      have hy0:y=0:=by have:=HJZ.out;omega
      subst hy0
      rw [if_pos HTS.out.1]at f2
      clear hy
      go_wp2
      go_ret
      exact ⟨⟨48+k,by first|rfl|go_num|simp,HSEL.out⟩,rfl⟩
     ·have hlt:k<ts:=by omega
      have hmono:=cntB_mono p3 (show k+1<=ts by omega)
      rw [HJZ.out,cntB_succ]at hmono
      cases hb:p3.getLsbD k
      ·rw [hb]at f2
       have hc:cntB p3 (k+1)=cntB p3 k:=by rw [cntB_succ,hb];rfl
       have HY:=Lib.hid hy;have HC:=Lib.hid hc
       have f3:bits .and .u64 (wn (p3>>>k)) 1=0:=f2
       have hne:¬(y:Int)+1=0:=by omega
       clear hy hc hmono hb f2
       go_wp2
       go_roundw
       case rel=>exact ⟨k+1,y,by omega,by go_num,by go_num,by rw [HC.out];exact HY.out,by first|rfl|trivial⟩
       case measure=>simp [intOf];omega
      ·rw [hb]at f2
       have hc:cntB p3 (k+1)=cntB p3 k+1:=by rw [cntB_succ,hb];rfl
       rw [hb]at hmono
       simp at hmono
       obtain ⟨y',rfl⟩:∃y',y=y'+1:=⟨y-1,by omega⟩
       have HY:=Lib.hid hy;have HC:=Lib.hid hc
       have f3:bits .and .u64 (wn (p3>>>k)) 1=1:=f2
       have f4:((y'+1:Nat):Int)-1=(y':Int):=by omega
       have hne:¬(y':Int)+1=0:=by omega
       clear hy hc hmono hb f2
       go_wp2
       go_roundw
       case rel=>exact ⟨k+1,y',by omega,by go_num,by go_num,by rw [HC.out];have:=HY.out;omega,by first|rfl|trivial⟩
       case measure=>simp [intOf];omega
  ·have d2:decide (pc p2<=j1)=false:=by simp;omega
   have H2:Half x1 j1 16 p2 j1 0:=by rw [hp2];exact half_lo x1 j1 16 (by decide) (by rw [<- hp2];omega)
   have HH2:=Lib.hid H2;clear H2 hp2 c2
   obtain ⟨p3,hp3⟩:∃p,p=p2&&&lowM 8:=⟨_,rfl⟩
   have e3:bits .and .u64 (wn p2) 255=wn p3:=by rw [hp3];exact wn_and p2 (lowM 8)
   have q3:=pc_le p3
   by_cases c3:pc p3<=j1
   ·have d3:decide (pc p3<=j1)=true:=by simp;omega
    obtain ⟨x3,hx3⟩:∃y,y=p2>>>8:=⟨_,rfl⟩
    have g3:wn p2/(256:Int)=wn x3:=by rw [hx3];exact wn_shr p2 8
    obtain ⟨j3,hj3⟩:∃y,y=j1-pc p3:=⟨_,rfl⟩
    have k3:(j1:Int)-(pc p3:Int)=(j3:Int):=by omega
    have hj3b:j3<=64:=by omega
    have H3:Half p2 j1 8 x3 j3 8:=by rw [hx3,hj3,hp3];exact half_hi p2 j1 8 (by decide) (by rw [<- hp3];exact c3)
    have HH3:=Lib.hid H3;clear H3 hx3 hj3 hp3 c3
    have hz8:∀t,x3.getLsbD t=true->t<8:=HH3.out.bits_ 8 (fun t ht=>by have:=HH2.out.bits_ 16 (fun t ht=>by have:=HH1.out.bits_ 32 hb0 (by decide) t ht;omega) (by decide) t ht;omega) (by decide)
    obtain ⟨ts,_,hts⟩:=selB_ex x3 j3 64 (HH3.out.lt (HH2.out.lt (HH1.out.lt hj)))
    have ht8:ts<8:=hz8 ts hts.1
    have hsel:SelB w0 j (40+ts):=by
     have h:=HH1.out.sel _ (HH2.out.sel _ (HH3.out.sel _ hts))
     rwa [show 32+(0+(8+ts))=40+ts by omega]at h
    have HTS:=Lib.hid hts;have HSEL:=Lib.hid hsel;clear hts hsel hz8
    have hjz:cntB x3 ts=j3:=HTS.out.2
    have HJZ:=Lib.hid hjz;clear hjz
    go_enter Tryz.func126,Tryz.ntmps126
    go_wp2_with (go_at_call 125;refine (ones_c _ _).mono ?_;rintro e w' ⟨rfl,rfl⟩)
    clear d1 d2 d3 e1 e2 e3 q1 q2 q3 g1 k1 g3 k3
    go_loopw [1,9] (fun a i wr=>∃k y:Nat,k<=ts/\i= .int .i64 (k:Int)/\a= .int .u64 (y:Int)/\y+cntB x3 k=j3/\wr=w') (fun _ i _=>8-(intOf i).toNat)
    case atStart=>exact ⟨0,j3,by omega,rfl,rfl,rfl,rfl⟩
    case round=>
     obtain ⟨k,y,hk,rfl,rfl,hy,rfl⟩:=hrel
     have hyb:y<=64:=by omega
     have f1:wn x3/(2:Int)^k=wn (x3>>>k):=wn_shr _ _
     have f2:=and1_bit x3 k
     have hk8:k<8:=by omega
     by_cases hkt:k=ts
     ·subst hkt
      have hy0:y=0:=by have:=HJZ.out;omega
      subst hy0
      rw [if_pos HTS.out.1]at f2
      clear hy
      go_wp2
      go_ret
      exact ⟨⟨40+k,by first|rfl|go_num|simp,HSEL.out⟩,rfl⟩
     ·have hlt:k<ts:=by omega
      have hmono:=cntB_mono x3 (show k+1<=ts by omega)
      rw [HJZ.out,cntB_succ]at hmono
      cases hb:x3.getLsbD k
      ·rw [hb]at f2
       have hc:cntB x3 (k+1)=cntB x3 k:=by rw [cntB_succ,hb];rfl
       have HY:=Lib.hid hy;have HC:=Lib.hid hc
       have f3:bits .and .u64 (wn (x3>>>k)) 1=0:=f2
       have hne:¬(y:Int)+1=0:=by omega
       clear hy hc hmono hb f2
       go_wp2
       go_roundw
       case rel=>exact ⟨k+1,y,by omega,by go_num,by go_num,by rw [HC.out];exact HY.out,by first|rfl|trivial⟩
       case measure=>simp [intOf];omega
      ·rw [hb]at f2
       have hc:cntB x3 (k+1)=cntB x3 k+1:=by rw [cntB_succ,hb];rfl
       rw [hb]at hmono
       simp at hmono
       obtain ⟨y',rfl⟩:∃y',y=y'+1:=⟨y-1,by omega⟩
       have HY:=Lib.hid hy;have HC:=Lib.hid hc
       have f3:bits .and .u64 (wn (x3>>>k)) 1=1:=f2
       have f4:((y'+1:Nat):Int)-1=(y':Int):=by omega
       have hne:¬(y':Int)+1=0:=by omega
       clear hy hc hmono hb f2
       go_wp2
       go_roundw
       case rel=>exact ⟨k+1,y',by omega,by go_num,by go_num,by rw [HC.out];have:=HY.out;omega,by first|rfl|trivial⟩
       case measure=>simp [intOf];omega
   ·have d3:decide (pc p3<=j1)=false:=by simp;omega
    have H3:Half p2 j1 8 p3 j1 0:=by rw [hp3];exact half_lo p2 j1 8 (by decide) (by rw [<- hp3];omega)
    have HH3:=Lib.hid H3;clear H3 hp3 c3
    have hz8:∀t,p3.getLsbD t=true->t<8:=HH3.out.bits_ 8 (fun t ht=>by have:=HH2.out.bits_ 16 (fun t ht=>by have:=HH1.out.bits_ 32 hb0 (by decide) t ht;omega) (by decide) t ht;omega) (by decide)
    obtain ⟨ts,_,hts⟩:=selB_ex p3 j1 64 (HH3.out.lt (HH2.out.lt (HH1.out.lt hj)))
    have ht8:ts<8:=hz8 ts hts.1
    have hsel:SelB w0 j (32+ts):=by
     have h:=HH1.out.sel _ (HH2.out.sel _ (HH3.out.sel _ hts))
     rwa [show 32+(0+(0+ts))=32+ts by omega]at h
    have HTS:=Lib.hid hts;have HSEL:=Lib.hid hsel;clear hts hsel hz8
    have hjz:cntB p3 ts=j1:=HTS.out.2
    have HJZ:=Lib.hid hjz;clear hjz
    go_enter Tryz.func126,Tryz.ntmps126
    go_wp2_with (go_at_call 125;refine (ones_c _ _).mono ?_;rintro e w' ⟨rfl,rfl⟩)
    clear d1 d2 d3 e1 e2 e3 q1 q2 q3 g1 k1
    go_loopw [1,9] (fun a i wr=>∃k y:Nat,k<=ts/\i= .int .i64 (k:Int)/\a= .int .u64 (y:Int)/\y+cntB p3 k=j1/\wr=w') (fun _ i _=>8-(intOf i).toNat)
    case atStart=>exact ⟨0,j1,by omega,rfl,rfl,rfl,rfl⟩
    case round=>
     obtain ⟨k,y,hk,rfl,rfl,hy,rfl⟩:=hrel
     have hyb:y<=64:=by omega
     have f1:wn p3/(2:Int)^k=wn (p3>>>k):=wn_shr _ _
     have f2:=and1_bit p3 k
     have hk8:k<8:=by omega
     by_cases hkt:k=ts
     ·subst hkt
      have hy0:y=0:=by have:=HJZ.out;omega
      subst hy0
      rw [if_pos HTS.out.1]at f2
      clear hy
      go_wp2
      go_ret
      exact ⟨⟨32+k,by first|rfl|go_num|simp,HSEL.out⟩,rfl⟩
     ·have hlt:k<ts:=by omega
      have hmono:=cntB_mono p3 (show k+1<=ts by omega)
      rw [HJZ.out,cntB_succ]at hmono
      cases hb:p3.getLsbD k
      ·rw [hb]at f2
       have hc:cntB p3 (k+1)=cntB p3 k:=by rw [cntB_succ,hb];rfl
       have HY:=Lib.hid hy;have HC:=Lib.hid hc
       have f3:bits .and .u64 (wn (p3>>>k)) 1=0:=f2
       have hne:¬(y:Int)+1=0:=by omega
       clear hy hc hmono hb f2
       go_wp2
       go_roundw
       case rel=>exact ⟨k+1,y,by omega,by go_num,by go_num,by rw [HC.out];exact HY.out,by first|rfl|trivial⟩
       case measure=>simp [intOf];omega
      ·rw [hb]at f2
       have hc:cntB p3 (k+1)=cntB p3 k+1:=by rw [cntB_succ,hb];rfl
       rw [hb]at hmono
       simp at hmono
       obtain ⟨y',rfl⟩:∃y',y=y'+1:=⟨y-1,by omega⟩
       have HY:=Lib.hid hy;have HC:=Lib.hid hc
       have f3:bits .and .u64 (wn (p3>>>k)) 1=1:=f2
       have f4:((y'+1:Nat):Int)-1=(y':Int):=by omega
       have hne:¬(y':Int)+1=0:=by omega
       clear hy hc hmono hb f2
       go_wp2
       go_roundw
       case rel=>exact ⟨k+1,y',by omega,by go_num,by go_num,by rw [HC.out];have:=HY.out;omega,by first|rfl|trivial⟩
       case measure=>simp [intOf];omega
 ·have d1:decide (pc p1<=j)=false:=by simp;omega
  have H1:Half w0 j 32 p1 j 0:=by rw [hp1];exact half_lo w0 j 32 (by decide) (by rw [<- hp1];omega)
  have HH1:=Lib.hid H1;clear H1 hp1 c1
  obtain ⟨p2,hp2⟩:∃p,p=p1&&&lowM 16:=⟨_,rfl⟩
  have e2:bits .and .u64 (wn p1) 65535=wn p2:=by rw [hp2];exact wn_and p1 (lowM 16)
  have q2:=pc_le p2
  by_cases c2:pc p2<=j
  ·have d2:decide (pc p2<=j)=true:=by simp;omega
   obtain ⟨x2,hx2⟩:∃y,y=p1>>>16:=⟨_,rfl⟩
   have g2:wn p1/(65536:Int)=wn x2:=by rw [hx2];exact wn_shr p1 16
   obtain ⟨j2,hj2⟩:∃y,y=j-pc p2:=⟨_,rfl⟩
   have k2:(j:Int)-(pc p2:Int)=(j2:Int):=by omega
   have hj2b:j2<=64:=by omega
   have H2:Half p1 j 16 x2 j2 16:=by rw [hx2,hj2,hp2];exact half_hi p1 j 16 (by decide) (by rw [<- hp2];exact c2)
   have HH2:=Lib.hid H2;clear H2 hx2 hj2 hp2 c2
   obtain ⟨p3,hp3⟩:∃p,p=x2&&&lowM 8:=⟨_,rfl⟩
   have e3:bits .and .u64 (wn x2) 255=wn p3:=by rw [hp3];exact wn_and x2 (lowM 8)
   have q3:=pc_le p3
   by_cases c3:pc p3<=j2
   ·have d3:decide (pc p3<=j2)=true:=by simp;omega
    obtain ⟨x3,hx3⟩:∃y,y=x2>>>8:=⟨_,rfl⟩
    have g3:wn x2/(256:Int)=wn x3:=by rw [hx3];exact wn_shr x2 8
    obtain ⟨j3,hj3⟩:∃y,y=j2-pc p3:=⟨_,rfl⟩
    have k3:(j2:Int)-(pc p3:Int)=(j3:Int):=by omega
    have hj3b:j3<=64:=by omega
    have H3:Half x2 j2 8 x3 j3 8:=by rw [hx3,hj3,hp3];exact half_hi x2 j2 8 (by decide) (by rw [<- hp3];exact c3)
    have HH3:=Lib.hid H3;clear H3 hx3 hj3 hp3 c3
    have hz8:∀t,x3.getLsbD t=true->t<8:=HH3.out.bits_ 8 (fun t ht=>by have:=HH2.out.bits_ 16 (fun t ht=>by have:=HH1.out.bits_ 32 hb0 (by decide) t ht;omega) (by decide) t ht;omega) (by decide)
    obtain ⟨ts,_,hts⟩:=selB_ex x3 j3 64 (HH3.out.lt (HH2.out.lt (HH1.out.lt hj)))
    have ht8:ts<8:=hz8 ts hts.1
    have hsel:SelB w0 j (24+ts):=by
     have h:=HH1.out.sel _ (HH2.out.sel _ (HH3.out.sel _ hts))
     rwa [show 0+(16+(8+ts))=24+ts by omega]at h
    have HTS:=Lib.hid hts;have HSEL:=Lib.hid hsel;clear hts hsel hz8
    have hjz:cntB x3 ts=j3:=HTS.out.2
    have HJZ:=Lib.hid hjz;clear hjz
    go_enter Tryz.func126,Tryz.ntmps126
    go_wp2_with (go_at_call 125;refine (ones_c _ _).mono ?_;rintro e w' ⟨rfl,rfl⟩)
    clear d1 d2 d3 e1 e2 e3 q1 q2 q3 g2 k2 g3 k3
    go_loopw [1,9] (fun a i wr=>∃k y:Nat,k<=ts/\i= .int .i64 (k:Int)/\a= .int .u64 (y:Int)/\y+cntB x3 k=j3/\wr=w') (fun _ i _=>8-(intOf i).toNat)
    case atStart=>exact ⟨0,j3,by omega,rfl,rfl,rfl,rfl⟩
    case round=>
     obtain ⟨k,y,hk,rfl,rfl,hy,rfl⟩:=hrel
     have hyb:y<=64:=by omega
     have f1:wn x3/(2:Int)^k=wn (x3>>>k):=wn_shr _ _
     have f2:=and1_bit x3 k
     have hk8:k<8:=by omega
     by_cases hkt:k=ts
     ·subst hkt
      have hy0:y=0:=by have:=HJZ.out;omega
      subst hy0
      rw [if_pos HTS.out.1]at f2
      clear hy
      go_wp2
      go_ret
      exact ⟨⟨24+k,by first|rfl|go_num|simp,HSEL.out⟩,rfl⟩
     ·have hlt:k<ts:=by omega
      have hmono:=cntB_mono x3 (show k+1<=ts by omega)
      rw [HJZ.out,cntB_succ]at hmono
      cases hb:x3.getLsbD k
      ·rw [hb]at f2
       have hc:cntB x3 (k+1)=cntB x3 k:=by rw [cntB_succ,hb];rfl
       have HY:=Lib.hid hy;have HC:=Lib.hid hc
       have f3:bits .and .u64 (wn (x3>>>k)) 1=0:=f2
       have hne:¬(y:Int)+1=0:=by omega
       clear hy hc hmono hb f2
       go_wp2
       go_roundw
       case rel=>exact ⟨k+1,y,by omega,by go_num,by go_num,by rw [HC.out];exact HY.out,by first|rfl|trivial⟩
       case measure=>simp [intOf];omega
      ·rw [hb]at f2
       have hc:cntB x3 (k+1)=cntB x3 k+1:=by rw [cntB_succ,hb];rfl
       rw [hb]at hmono
       simp at hmono
       obtain ⟨y',rfl⟩:∃y',y=y'+1:=⟨y-1,by omega⟩
       have HY:=Lib.hid hy;have HC:=Lib.hid hc
       have f3:bits .and .u64 (wn (x3>>>k)) 1=1:=f2
       have f4:((y'+1:Nat):Int)-1=(y':Int):=by omega
       have hne:¬(y':Int)+1=0:=by omega
       clear hy hc hmono hb f2
       go_wp2
       go_roundw
       case rel=>exact ⟨k+1,y',by omega,by go_num,by go_num,by rw [HC.out];have:=HY.out;omega,by first|rfl|trivial⟩
       case measure=>simp [intOf];omega
   ·have d3:decide (pc p3<=j2)=false:=by simp;omega
    have H3:Half x2 j2 8 p3 j2 0:=by rw [hp3];exact half_lo x2 j2 8 (by decide) (by rw [<- hp3];omega)
    have HH3:=Lib.hid H3;clear H3 hp3 c3
    have hz8:∀t,p3.getLsbD t=true->t<8:=HH3.out.bits_ 8 (fun t ht=>by have:=HH2.out.bits_ 16 (fun t ht=>by have:=HH1.out.bits_ 32 hb0 (by decide) t ht;omega) (by decide) t ht;omega) (by decide)
    obtain ⟨ts,_,hts⟩:=selB_ex p3 j2 64 (HH3.out.lt (HH2.out.lt (HH1.out.lt hj)))
    have ht8:ts<8:=hz8 ts hts.1
    have hsel:SelB w0 j (16+ts):=by
     have h:=HH1.out.sel _ (HH2.out.sel _ (HH3.out.sel _ hts))
     rwa [show 0+(16+(0+ts))=16+ts by omega]at h
    have HTS:=Lib.hid hts;have HSEL:=Lib.hid hsel;clear hts hsel hz8
    have hjz:cntB p3 ts=j2:=HTS.out.2
    have HJZ:=Lib.hid hjz;clear hjz
    go_enter Tryz.func126,Tryz.ntmps126
    go_wp2_with (go_at_call 125;refine (ones_c _ _).mono ?_;rintro e w' ⟨rfl,rfl⟩)
    clear d1 d2 d3 e1 e2 e3 q1 q2 q3 g2 k2
    go_loopw [1,9] (fun a i wr=>∃k y:Nat,k<=ts/\i= .int .i64 (k:Int)/\a= .int .u64 (y:Int)/\y+cntB p3 k=j2/\wr=w') (fun _ i _=>8-(intOf i).toNat)
    case atStart=>exact ⟨0,j2,by omega,rfl,rfl,rfl,rfl⟩
    case round=>
     obtain ⟨k,y,hk,rfl,rfl,hy,rfl⟩:=hrel
     have hyb:y<=64:=by omega
     have f1:wn p3/(2:Int)^k=wn (p3>>>k):=wn_shr _ _
     have f2:=and1_bit p3 k
     have hk8:k<8:=by omega
     by_cases hkt:k=ts
     ·subst hkt
      have hy0:y=0:=by have:=HJZ.out;omega
      subst hy0
      rw [if_pos HTS.out.1]at f2
      clear hy
      go_wp2
      go_ret
      exact ⟨⟨16+k,by first|rfl|go_num|simp,HSEL.out⟩,rfl⟩
     ·have hlt:k<ts:=by omega
      have hmono:=cntB_mono p3 (show k+1<=ts by omega)
      rw [HJZ.out,cntB_succ]at hmono
      cases hb:p3.getLsbD k
      ·rw [hb]at f2
       have hc:cntB p3 (k+1)=cntB p3 k:=by rw [cntB_succ,hb];rfl
       have HY:=Lib.hid hy;have HC:=Lib.hid hc
       have f3:bits .and .u64 (wn (p3>>>k)) 1=0:=f2
       have hne:¬(y:Int)+1=0:=by omega
       clear hy hc hmono hb f2
       go_wp2
       go_roundw
       case rel=>exact ⟨k+1,y,by omega,by go_num,by go_num,by rw [HC.out];exact HY.out,by first|rfl|trivial⟩
       case measure=>simp [intOf];omega
      ·rw [hb]at f2
       have hc:cntB p3 (k+1)=cntB p3 k+1:=by rw [cntB_succ,hb];rfl
       rw [hb]at hmono
       simp at hmono
       obtain ⟨y',rfl⟩:∃y',y=y'+1:=⟨y-1,by omega⟩
       have HY:=Lib.hid hy;have HC:=Lib.hid hc
       have f3:bits .and .u64 (wn (p3>>>k)) 1=1:=f2
       have f4:((y'+1:Nat):Int)-1=(y':Int):=by omega
       have hne:¬(y':Int)+1=0:=by omega
       clear hy hc hmono hb f2
       go_wp2
       go_roundw
       case rel=>exact ⟨k+1,y',by omega,by go_num,by go_num,by rw [HC.out];have:=HY.out;omega,by first|rfl|trivial⟩
       case measure=>simp [intOf];omega
  ·have d2:decide (pc p2<=j)=false:=by simp;omega
   have H2:Half p1 j 16 p2 j 0:=by rw [hp2];exact half_lo p1 j 16 (by decide) (by rw [<- hp2];omega)
   have HH2:=Lib.hid H2;clear H2 hp2 c2
   obtain ⟨p3,hp3⟩:∃p,p=p2&&&lowM 8:=⟨_,rfl⟩
   have e3:bits .and .u64 (wn p2) 255=wn p3:=by rw [hp3];exact wn_and p2 (lowM 8)
   have q3:=pc_le p3
   by_cases c3:pc p3<=j
   ·have d3:decide (pc p3<=j)=true:=by simp;omega
    obtain ⟨x3,hx3⟩:∃y,y=p2>>>8:=⟨_,rfl⟩
    have g3:wn p2/(256:Int)=wn x3:=by rw [hx3];exact wn_shr p2 8
    obtain ⟨j3,hj3⟩:∃y,y=j-pc p3:=⟨_,rfl⟩
    have k3:(j:Int)-(pc p3:Int)=(j3:Int):=by omega
    have hj3b:j3<=64:=by omega
    have H3:Half p2 j 8 x3 j3 8:=by rw [hx3,hj3,hp3];exact half_hi p2 j 8 (by decide) (by rw [<- hp3];exact c3)
    have HH3:=Lib.hid H3;clear H3 hx3 hj3 hp3 c3
    have hz8:∀t,x3.getLsbD t=true->t<8:=HH3.out.bits_ 8 (fun t ht=>by have:=HH2.out.bits_ 16 (fun t ht=>by have:=HH1.out.bits_ 32 hb0 (by decide) t ht;omega) (by decide) t ht;omega) (by decide)
    obtain ⟨ts,_,hts⟩:=selB_ex x3 j3 64 (HH3.out.lt (HH2.out.lt (HH1.out.lt hj)))
    have ht8:ts<8:=hz8 ts hts.1
    have hsel:SelB w0 j (8+ts):=by
     have h:=HH1.out.sel _ (HH2.out.sel _ (HH3.out.sel _ hts))
     rwa [show 0+(0+(8+ts))=8+ts by omega]at h
    have HTS:=Lib.hid hts;have HSEL:=Lib.hid hsel;clear hts hsel hz8
    have hjz:cntB x3 ts=j3:=HTS.out.2
    have HJZ:=Lib.hid hjz;clear hjz
    go_enter Tryz.func126,Tryz.ntmps126
    go_wp2_with (go_at_call 125;refine (ones_c _ _).mono ?_;rintro e w' ⟨rfl,rfl⟩)
    clear d1 d2 d3 e1 e2 e3 q1 q2 q3 g3 k3
    go_loopw [1,9] (fun a i wr=>∃k y:Nat,k<=ts/\i= .int .i64 (k:Int)/\a= .int .u64 (y:Int)/\y+cntB x3 k=j3/\wr=w') (fun _ i _=>8-(intOf i).toNat)
    case atStart=>exact ⟨0,j3,by omega,rfl,rfl,rfl,rfl⟩
    case round=>
     obtain ⟨k,y,hk,rfl,rfl,hy,rfl⟩:=hrel
     have hyb:y<=64:=by omega
     have f1:wn x3/(2:Int)^k=wn (x3>>>k):=wn_shr _ _
     have f2:=and1_bit x3 k
     have hk8:k<8:=by omega
     by_cases hkt:k=ts
     ·subst hkt
      have hy0:y=0:=by have:=HJZ.out;omega
      subst hy0
      rw [if_pos HTS.out.1]at f2
      clear hy
      go_wp2
      go_ret
      exact ⟨⟨8+k,by first|rfl|go_num|simp,HSEL.out⟩,rfl⟩
     ·have hlt:k<ts:=by omega
      have hmono:=cntB_mono x3 (show k+1<=ts by omega)
      rw [HJZ.out,cntB_succ]at hmono
      cases hb:x3.getLsbD k
      ·rw [hb]at f2
       have hc:cntB x3 (k+1)=cntB x3 k:=by rw [cntB_succ,hb];rfl
       have HY:=Lib.hid hy;have HC:=Lib.hid hc
       have f3:bits .and .u64 (wn (x3>>>k)) 1=0:=f2
       have hne:¬(y:Int)+1=0:=by omega
       clear hy hc hmono hb f2
       go_wp2
       go_roundw
       case rel=>exact ⟨k+1,y,by omega,by go_num,by go_num,by rw [HC.out];exact HY.out,by first|rfl|trivial⟩
       case measure=>simp [intOf];omega
      ·rw [hb]at f2
       have hc:cntB x3 (k+1)=cntB x3 k+1:=by rw [cntB_succ,hb];rfl
       rw [hb]at hmono
       simp at hmono
       obtain ⟨y',rfl⟩:∃y',y=y'+1:=⟨y-1,by omega⟩
       have HY:=Lib.hid hy;have HC:=Lib.hid hc
       have f3:bits .and .u64 (wn (x3>>>k)) 1=1:=f2
       have f4:((y'+1:Nat):Int)-1=(y':Int):=by omega
       have hne:¬(y':Int)+1=0:=by omega
       clear hy hc hmono hb f2
       go_wp2
       go_roundw
       case rel=>exact ⟨k+1,y',by omega,by go_num,by go_num,by rw [HC.out];have:=HY.out;omega,by first|rfl|trivial⟩
       case measure=>simp [intOf];omega
   ·have d3:decide (pc p3<=j)=false:=by simp;omega
    have H3:Half p2 j 8 p3 j 0:=by rw [hp3];exact half_lo p2 j 8 (by decide) (by rw [<- hp3];omega)
    have HH3:=Lib.hid H3;clear H3 hp3 c3
    have hz8:∀t,p3.getLsbD t=true->t<8:=HH3.out.bits_ 8 (fun t ht=>by have:=HH2.out.bits_ 16 (fun t ht=>by have:=HH1.out.bits_ 32 hb0 (by decide) t ht;omega) (by decide) t ht;omega) (by decide)
    obtain ⟨ts,_,hts⟩:=selB_ex p3 j 64 (HH3.out.lt (HH2.out.lt (HH1.out.lt hj)))
    have ht8:ts<8:=hz8 ts hts.1
    have hsel:SelB w0 j (0+ts):=by
     have h:=HH1.out.sel _ (HH2.out.sel _ (HH3.out.sel _ hts))
     rwa [show 0+(0+(0+ts))=0+ts by omega]at h
    have HTS:=Lib.hid hts;have HSEL:=Lib.hid hsel;clear hts hsel hz8
    have hjz:cntB p3 ts=j:=HTS.out.2
    have HJZ:=Lib.hid hjz;clear hjz
    go_enter Tryz.func126,Tryz.ntmps126
    go_wp2_with (go_at_call 125;refine (ones_c _ _).mono ?_;rintro e w' ⟨rfl,rfl⟩)
    clear d1 d2 d3 e1 e2 e3 q1 q2 q3
    go_loopw [1,9] (fun a i wr=>∃k y:Nat,k<=ts/\i= .int .i64 (k:Int)/\a= .int .u64 (y:Int)/\y+cntB p3 k=j/\wr=w') (fun _ i _=>8-(intOf i).toNat)
    case atStart=>exact ⟨0,j,by omega,rfl,rfl,rfl,rfl⟩
    case round=>
     obtain ⟨k,y,hk,rfl,rfl,hy,rfl⟩:=hrel
     have hyb:y<=64:=by omega
     have f1:wn p3/(2:Int)^k=wn (p3>>>k):=wn_shr _ _
     have f2:=and1_bit p3 k
     have hk8:k<8:=by omega
     by_cases hkt:k=ts
     ·subst hkt
      have hy0:y=0:=by have:=HJZ.out;omega
      subst hy0
      rw [if_pos HTS.out.1]at f2
      clear hy
      go_wp2
      go_ret
      exact ⟨⟨0+k,by first|rfl|go_num|simp,HSEL.out⟩,rfl⟩
     ·have hlt:k<ts:=by omega
      have hmono:=cntB_mono p3 (show k+1<=ts by omega)
      rw [HJZ.out,cntB_succ]at hmono
      cases hb:p3.getLsbD k
      ·rw [hb]at f2
       have hc:cntB p3 (k+1)=cntB p3 k:=by rw [cntB_succ,hb];rfl
       have HY:=Lib.hid hy;have HC:=Lib.hid hc
       have f3:bits .and .u64 (wn (p3>>>k)) 1=0:=f2
       have hne:¬(y:Int)+1=0:=by omega
       clear hy hc hmono hb f2
       go_wp2
       go_roundw
       case rel=>exact ⟨k+1,y,by omega,by go_num,by go_num,by rw [HC.out];exact HY.out,by first|rfl|trivial⟩
       case measure=>simp [intOf];omega
      ·rw [hb]at f2
       have hc:cntB p3 (k+1)=cntB p3 k+1:=by rw [cntB_succ,hb];rfl
       rw [hb]at hmono
       simp at hmono
       obtain ⟨y',rfl⟩:∃y',y=y'+1:=⟨y-1,by omega⟩
       have HY:=Lib.hid hy;have HC:=Lib.hid hc
       have f3:bits .and .u64 (wn (p3>>>k)) 1=1:=f2
       have f4:((y'+1:Nat):Int)-1=(y':Int):=by omega
       have hne:¬(y':Int)+1=0:=by omega
       clear hy hc hmono hb f2
       go_wp2
       go_roundw
       case rel=>exact ⟨k+1,y',by omega,by go_num,by go_num,by rw [HC.out];have:=HY.out;omega,by first|rfl|trivial⟩
       case measure=>simp [intOf];omega
def down(m:Nat->Bool)(nb i:Nat):Bool:=m (i+nb)
theorem pk_down(m:Nat->Bool)(nb j P sh:Nat)(hnb:nb=64*P+sh)(hs:sh<64):pk (down m nb) j=(pk m (j+P)>>>sh)|||(pk m (j+P+1)<<<(64-sh)):=by
 rw [pkAt_two m (j+P) sh hs]
 refine (pk_ext fun i hi=>?_).symm
 rw [getLsbD_pkAt]
 unfold down
 rw [show 64*(j+P)+sh+i=64*j+i+nb by omega];simp [hi]
theorem pk_zero_above{m:Nat->Bool}{t q:Nat}(h:∀j,t<j->m j=false)(hq:t<64*q):pk m q=0:=(pk_ext fun j _=>by rw [h _ (by omega)];simp).symm
theorem shiftRight_raw(b s L c nb tp:Nat)(g:Nat->BitVec 64)(m:Nat->Bool)(w:World)(r:RS w b s L c g)(hg:∀i,i<nw L->g i=pk m i)(hnb:0<nb)(hle:nb<=tp)(hL:tp<L)
  (htop:∀w',w'=w->Calls Tryz.prog 104 #[.pointer (some ⟨b,0,none⟩)] w' fun e w''=>e= .returned (.tuple #[.int .u64 (tp:Int),.bool true])/\w''=w') (hz:∀j,tp<j->m j=false):
  Calls Tryz.prog 59 #[.pointer (some ⟨b,0,none⟩),.int .u64 (nb:Int)] w fun e w'=>e= .returned (.tuple #[])/\∃g',RS w' b s L c g'/\(∀j,j<nw L->g' j=pk (down m nb) j)/\Fr (· =s) w w':=by
 have hl:=r.hl
 have hIn:tp/64<nw L:=by unfold nw;omega
 have h1:=r.h1
 obtain ⟨n,hn⟩:∃n,n=nw L:=⟨_,rfl⟩
 have hn1000:n<=1000:=by rw [hn];exact nw_bound hl
 have hnc:n<=c:=by rw [hn];exact r.hn
 rw [<- hn]at hg hIn h1
 obtain ⟨I,hI⟩:∃I,tp/64=I:=⟨_,rfl⟩
 obtain ⟨pad,hpad⟩:∃I,tp%64=I:=⟨_,rfl⟩
 obtain ⟨P,hP⟩:∃I,nb/64=I:=⟨_,rfl⟩
 obtain ⟨sh,hsh⟩:∃I,nb%64=I:=⟨_,rfl⟩
 have hPI:P<=I:=by omega
 obtain ⟨D,hD⟩:∃D,D=I-P:=⟨_,rfl⟩
 have hPD:P+D=I:=by omega
 have hDn:D<n:=by omega
 have hIn2:I<n:=by omega
 have hIb:I<=1000:=by omega
 have hpadb:pad<64:=by omega
 have hshb:sh<64:=by omega
 have hnbe:nb=64*P+sh:=by omega
 have htpe:tp=64*I+pad:=by omega
 have a1:(tp:Int)/64=(I:Int):=by omega
 have a2:(tp:Int)%64=(pad:Int):=by omega
 have a3:(tp:Int).tmod 64=(pad:Int):=by rw [Int.tmod_eq_emod_of_nonneg (by omega)];exact a2
 have a4:(nb:Int)/64=(P:Int):=by omega
 have a5:(nb:Int)%64=(sh:Int):=by omega
 have a6:(nb:Int).tmod 64=(sh:Int):=by rw [Int.tmod_eq_emod_of_nonneg (by omega)];exact a5
 have a7:(I:Int)-(P:Int)=(D:Int):=by omega
 have d0:decide (tp<nb)=false:=by simp;omega
 have n0:¬(nb:Int)=0:=by omega
 have hIlast:pk m (I+1)=0:=pk_zero_above hz (by omega)
 have hhi:∀j,D<j->pk (down m nb) j=0:=fun j hj=>(pk_ext fun i _=>by unfold down;rw [hz _ (by omega)];simp).symm
 have hdown:=fun j=>pk_down m nb j P sh hnbe hshb
 have hLast:pk (down m nb) D=pk m I>>>sh:=by rw [hdown,show D+P=I by omega,hIlast];simp
 obtain ⟨M,hM⟩:∃M,M=down m nb:=⟨_,rfl⟩
 rw [<- hM]at hhi hdown hLast ⊢
 have R:=Lib.hid r;have HG:=Lib.hid hg;have HT:=Lib.hid htop;have HN:=Lib.hid hn;have HHI:=Lib.hid hhi;have HDN:=Lib.hid hdown;have HLA:=Lib.hid hLast;have HTP:=Lib.hid htpe;have HPD:=Lib.hid hPD;have HZ:=Lib.hid hz
 have hD1:D+1<=n:=by omega
 clear r hg htop hn hhi hdown hLast hM htpe hnbe hPD hI hpad hP hsh hD hL hnb hle hIn hz hIlast
 by_cases hs0:sh=0
 ·subst hs0
  have b1:(0:Int)<=(P:Int)/\(P:Int)<=(I:Int)+1:=by omega
  have b2:(0:Int)<=(I:Int)+1/\(I:Int)+1<=c:=by omega
  have b3:((I:Int)+1).toNat=I+1:=by omega
  have b4:P<=I+1:=by omega
  go_enter Tryz.func59,Tryz.ntmps59
  go_wp2_with (first|(go_at_call 103;refine (panicIfNull_c _ _).mono ?_;rintro e w' ⟨rfl,rfl⟩)|(go_at_call 104;refine (HT.out _ rfl).mono ?_;rintro e w' ⟨rfl,rfl⟩))
  refine wp_region_quiet_tail 12 (by kernel_rfl) (by kernel_rfl) ?_
  simp only [List.take_succ_cons,List.take_zero,List.drop_succ_cons,List.drop_zero]
  repeat (go_big_quiet_step (fail))
  refine wpQuiet_nil ?_
  intro _ ⟨nq,hw'⟩
  subst hw'
  have hrow:(w'.drewN nq).rowIs s 29 c (fun i=>WV (g i)):=R.out.hs
  obtain ⟨w9,hcp,hrow9,hfr9⟩:=copy33 (w'.drewN nq) 3 s 0 s P n c (I+1-P) (c-P) c c (D+1) g g hrow hrow (by have:=HPD.out;show D+1=min _ _;omega) (by omega) (by have:=HPD.out;omega)
  have hF9:Fr (· =s) w' w9:=((Fr.refl (· =s) w').drewN nq).trans hfr9
  have hR9:RS w9 b s L c (fun i=>if 0<=i/\i<0+(D+1) then g (P+(i-0)) else g i):=
   ⟨R.out.ne,R.out.hn,R.out.hc,R.out.hl,(hF9.keep b (hp_lt R.out.hb) (fun e=>R.out.ne e.symm)).trans R.out.hb,hrow9⟩
  have hQE:∀j,j<D+1->(fun i=>if 0<=i/\i<0+(D+1) then g (P+(i-0)) else g i) j=pk M j:=fun j hj=>by
   show (if 0<=j/\j<0+(D+1) then g (P+(j-0)) else g j)=_
   rw [if_pos (by omega),HG.out _ (by have:=HPD.out;omega)]
   rcases Nat.lt_or_ge j D with h|h
   ·rw [HDN.out,Nat.sub_zero,Nat.add_comm j P]
    simp
   ·have:j=D:=by omega
    subst this
    rw [HLA.out,Nat.sub_zero,HPD.out];simp
  have HQR:=Lib.hid hR9;have HQE:=Lib.hid hQE;have HQF:=Lib.hid hF9
  clear hR9 hQE hF9 hrow hrow9 hfr9 h1
  go_wp2
  clear hcp
  go_loopw [11] (fun t wr=>∃k:Nat,D+1<=k/\k<=n/\t= .int .i64 (k:Int)/\(∃q,RS wr b s L c q/\∀j,j<k->q j=pk M j)/\Fr (· =s) w' wr) (fun t _=>n-(intOf t).toNat)
  case atStart=>exact ⟨D+1,Nat.le_refl _,hD1,by first|rfl|go_num,⟨_,HQR.out,HQE.out⟩,HQF.out⟩
  case round=>
   obtain ⟨k,hk0,hk,rfl,⟨q,hr,hq⟩,hfr⟩:=hrel
   have HR:=Lib.hid hr;have HF:=Lib.hid hfr;have HQ:=Lib.hid hq
   have g1:=hr.h1
   rw [<- HN.out]at g1
   by_cases hlt:k<n
   ·have ck:=hr.at (i:=k) (by rw [<- HN.out];omega)
    have f0:=hr.fr k
    clear hr hfr hq
    go_wp2
    go_roundw
    case rel=>
     refine ⟨k+1,by omega,by omega,by go_num,⟨_,HR.out.set k 0,fun j hj=>?_⟩,HF.out.setCell (.inl rfl) _⟩
     by_cases e:j=k
     ·subst e;rw [if_pos rfl,HHI.out j (by omega)]
     ·rw [if_neg e];exact HQ.out j (by omega)
    case measure=>(simp [intOf];try omega)
   ·have hkn:k=n:=by omega
    subst hkn
    clear hr hfr hq
    go_wp2
    go_end0
    exact ⟨rfl,_,HR.out,fun j hj=>HQ.out j (by rw [HN.out];exact hj),HF.out⟩
 ·have s0:((sh:Int)==0)=false:=by simp;omega
  have s1:¬(sh:Int)=0:=by omega
  have j1:((64:Int)-(sh:Int)).toNat=64-sh:=by omega
  have j2:(0:Int)<=(64:Int)-(sh:Int)/\(64:Int)-(sh:Int)<=64:=by omega
  go_enter Tryz.func59,Tryz.ntmps59
  go_wp2_with (first|(go_at_call 103;refine (panicIfNull_c _ _).mono ?_;rintro e w' ⟨rfl,rfl⟩)|(go_at_call 104;refine (HT.out _ rfl).mono ?_;rintro e w' ⟨rfl,rfl⟩))
  clear h1
  go_loopw [10] (fun t wr=>∃k:Nat,k<=D+1/\t= .int .i64 (k:Int)/\RS wr b s L c (fun j=>if j<k then pk M j else g j)/\Fr (· =s) w' wr) (fun t _=>D+1-(intOf t).toNat)
  case atStart=>exact ⟨0,by omega,rfl,R.out.congr (fun j _=>by simp),Fr.refl _ _⟩
  case round=>
   obtain ⟨k,hk,rfl,hr,hfr⟩:=hrel
   have HR:=Lib.hid hr;have HF:=Lib.hid hfr
   have g1:=hr.h1
   rw [<- HN.out]at g1
   rcases Nat.lt_trichotomy k D with hlt|hlt|hlt
   ·have d1:decide (k<=D)=true:=by simp;omega
    have d2:decide (k<D)=true:=by simp;omega
    have b1:(0:Int)<=(k:Int)+(P:Int)/\(k:Int)+(P:Int)<n:=by have:=HPD.out;omega
    have b2:(0:Int)<=(k:Int)+(P:Int)+1/\(k:Int)+(P:Int)+1<n:=by have:=HPD.out;omega
    have b3:((k:Int)+(P:Int)).toNat=k+P:=by omega
    have b4:((k:Int)+(P:Int)+1).toNat=k+P+1:=by omega
    have b5:k<n:=by omega
    have c0:=hr.at (i:=k+P) (by rw [<- HN.out];have:=HPD.out;omega)
    have c1:=hr.at (i:=k+P+1) (by rw [<- HN.out];have:=HPD.out;omega)
    have f0:=hr.fr k
    have ck:=hr.at (i:=k) (by rw [<- HN.out];omega)
    rw [if_neg (by omega),HG.out _ (by have:=HPD.out;omega)]at c0 c1
    rw [if_neg (by omega)]at ck
    obtain ⟨x,hx⟩:∃x,x=pk m (k+P)>>>sh:=⟨_,rfl⟩
    obtain ⟨y,hy⟩:∃y,y=pk m (k+P+1)<<<(64-sh):=⟨_,rfl⟩
    have e1:wn (pk m (k+P))/(2:Int)^sh=wn x:=by rw [hx];exact wn_shr _ _
    have e2:IntKind.u64.wrap (wn (pk m (k+P+1))*(2:Int)^(64-sh))=wn y:=by rw [hy];exact wn_shl _ _
    have e3:bits .or .u64 (wn x) (wn y)=wn (x|||y):=wn_or _ _
    have hxy:pk M k=x|||y:=by rw [HDN.out,hx,hy]
    have HXY:=Lib.hid hxy
    clear hr hfr hx hy hxy
    go_wp2
    refine wp_region_quiet_tail 33 (by kernel_rfl) (by kernel_rfl) ?_
    simp only [List.take_succ_cons,List.take_zero,List.drop_succ_cons,List.drop_zero]
    repeat (go_big_quiet_step (fail))
    refine wpQuiet_nil ?_
    intro _ ⟨nq,hw'⟩
    subst hw'
    go_wp2
    go_roundw
    case rel=>
     refine ⟨k+1,by omega,by go_num,?_,(HF.out.drewN _).setCell (.inl rfl) _⟩
     refine ((HR.out.drewN nq).set k _).congr (fun j _=>?_)
     by_cases e:j=k
     ·subst e;rw [if_pos rfl,if_pos (by omega),HXY.out]
     ·rw [if_neg e]
      by_cases e2:j<k
      ·rw [if_pos e2,if_pos (by omega)]
      ·rw [if_neg e2,if_neg (by omega)]
    case measure=>(simp [intOf];try omega)
   ·subst hlt
    have d1:decide (k<=k)=true:=by simp
    have d2:decide (k<k)=false:=by simp
    have b1:(0:Int)<=(k:Int)+(P:Int)/\(k:Int)+(P:Int)<n:=by have:=HPD.out;omega
    have b3:((k:Int)+(P:Int)).toNat=k+P:=by omega
    have c0:=hr.at (i:=k+P) (by rw [<- HN.out];have:=HPD.out;omega)
    have f0:=hr.fr k
    have ck:=hr.at (i:=k) (by rw [<- HN.out];omega)
    rw [if_neg (by omega),HG.out _ (by have:=HPD.out;omega)]at c0
    rw [if_neg (by omega)]at ck
    obtain ⟨x,hx⟩:∃x,x=pk m (k+P)>>>sh:=⟨_,rfl⟩
    have e1:wn (pk m (k+P))/(2:Int)^sh=wn x:=by rw [hx];exact wn_shr _ _
    have hxy:pk M k=x:=by rw [HLA.out,hx,show k+P=I by have:=HPD.out;omega]
    have HXY:=Lib.hid hxy
    clear hr hfr hx hxy
    go_wp2
    refine wp_region_quiet_tail 18 (by kernel_rfl) (by kernel_rfl) ?_
    simp only [List.take_succ_cons,List.take_zero,List.drop_succ_cons,List.drop_zero]
    repeat (go_big_quiet_step (fail))
    refine wpQuiet_nil ?_
    intro _ ⟨nq,hw'⟩
    subst hw'
    go_wp2
    go_roundw
    case rel=>
     refine ⟨k+1,by omega,by go_num,?_,(HF.out.drewN _).setCell (.inl rfl) _⟩
     refine ((HR.out.drewN nq).set k _).congr (fun j _=>?_)
     by_cases e:j=k
     ·subst e;rw [if_pos rfl,if_pos (by omega),HXY.out]
     ·rw [if_neg e]
      by_cases e2:j<k
      ·rw [if_pos e2,if_pos (by omega)]
      ·rw [if_neg e2,if_neg (by omega)]
    case measure=>(simp [intOf];try omega)
   ·have hkD:k=D+1:=by omega
    subst hkD
    have d1:¬(D:Int)+1<=D:=by omega
    by_cases hps:pad<sh
    ·have d3:decide (pad<sh)=true:=by simpa using hps
     have ck:=hr.at (i:=D) (by rw [<- HN.out];omega)
     have f0:=hr.fr D
     rw [if_pos (by omega)]at ck
     have hMD:pk M D=0:=by
      rw [HLA.out]
      apply BitVec.eq_of_getLsbD_eq
      intro j hj
      rw [BitVec.getLsbD_ushiftRight,getLsbD_pk,HZ.out (64*I+(sh+j)) (by have:=HTP.out;omega)]
      simp
     have hR2:=(hr.set D 0).congr (g':=fun j=>if j<D+1 then pk M j else g j) (fun j _=>by
      by_cases e:j=D
      ·rw [if_pos e,if_pos (by omega),e,hMD]
      ·rw [if_neg e])
     have HQR:=Lib.hid hR2
     have HQE:=Lib.hid (show ∀j,j<D+1->(fun j=>if j<D+1 then pk M j else g j) j=pk M j from fun j hj=>if_pos hj)
     have hF2:Fr (· =s) w' (wr.setCell ⟨s,D,none⟩ (WV 0)):=hfr.setCell (.inl rfl) _
     have HQF:=Lib.hid hF2
     clear hr hfr hR2 hF2 hMD
     go_wp2
     clear ck f0 g1
     go_loopw [11] (fun t wr=>∃k:Nat,D+1<=k/\k<=n/\t= .int .i64 (k:Int)/\(∃q,RS wr b s L c q/\∀j,j<k->q j=pk M j)/\Fr (· =s) w' wr) (fun t _=>n-(intOf t).toNat)
     case atStart=>exact ⟨D+1,Nat.le_refl _,hD1,by first|rfl|go_num,⟨_,HQR.out,HQE.out⟩,HQF.out⟩
     case round=>
      obtain ⟨k,hk0,hk,rfl,⟨q,hr,hq⟩,hfr⟩:=hrel
      have HR:=Lib.hid hr;have HF:=Lib.hid hfr;have HQ:=Lib.hid hq
      have g1:=hr.h1
      rw [<- HN.out]at g1
      by_cases hlt:k<n
      ·have ck:=hr.at (i:=k) (by rw [<- HN.out];omega)
       have f0:=hr.fr k
       clear hr hfr hq
       go_wp2
       go_roundw
       case rel=>
        refine ⟨k+1,by omega,by omega,by go_num,⟨_,HR.out.set k 0,fun j hj=>?_⟩,HF.out.setCell (.inl rfl) _⟩
        by_cases e:j=k
        ·subst e;rw [if_pos rfl,HHI.out j (by omega)]
        ·rw [if_neg e];exact HQ.out j (by omega)
       case measure=>(simp [intOf];try omega)
      ·have hkn:k=n:=by omega
       subst hkn
       clear hr hfr hq
       go_wp2
       go_end0
       exact ⟨rfl,_,HR.out,fun j hj=>HQ.out j (by rw [HN.out];exact hj),HF.out⟩
    ·have d3:decide (pad<sh)=false:=by simpa using hps
     have HQR:=HR;have HQF:=HF
     have HQE:=Lib.hid (show ∀j,j<D+1->(fun j=>if j<D+1 then pk M j else g j) j=pk M j from fun j hj=>if_pos hj)
     clear hr hfr
     go_wp2
     clear g1
     go_loopw [11] (fun t wr=>∃k:Nat,D+1<=k/\k<=n/\t= .int .i64 (k:Int)/\(∃q,RS wr b s L c q/\∀j,j<k->q j=pk M j)/\Fr (· =s) w' wr) (fun t _=>n-(intOf t).toNat)
     case atStart=>exact ⟨D+1,Nat.le_refl _,hD1,by first|rfl|go_num,⟨_,HQR.out,HQE.out⟩,HQF.out⟩
     case round=>
      obtain ⟨k,hk0,hk,rfl,⟨q,hr,hq⟩,hfr⟩:=hrel
      have HR:=Lib.hid hr;have HF:=Lib.hid hfr;have HQ:=Lib.hid hq
      have g1:=hr.h1
      rw [<- HN.out]at g1
      by_cases hlt:k<n
      ·have ck:=hr.at (i:=k) (by rw [<- HN.out];omega)
       have f0:=hr.fr k
       clear hr hfr hq
       go_wp2
       go_roundw
       case rel=>
        refine ⟨k+1,by omega,by omega,by go_num,⟨_,HR.out.set k 0,fun j hj=>?_⟩,HF.out.setCell (.inl rfl) _⟩
        by_cases e:j=k
        ·subst e;rw [if_pos rfl,HHI.out j (by omega)]
        ·rw [if_neg e];exact HQ.out j (by omega)
       case measure=>(simp [intOf];try omega)
      ·have hkn:k=n:=by omega
       subst hkn
       clear hr hfr hq
       go_wp2
       go_end0
       exact ⟨rfl,_,HR.out,fun j hj=>HQ.out j (by rw [HN.out];exact hj),HF.out⟩
end Go.Proofs.YtobdfhlmipcjbaaGreatDoor
