/- spec: long, has, put: lists of truths as the reference keeps sets. Conditions: lengths of at most 10,000. A set that has a row of words, raw; masks; the last word made clean; all numbers taken out or put in. No condition beyond the set's own. slices.Clone, slices.Equal, laws.list: lists copied and held against each other. Conditions: at most 100,000 elements. spec: Count, last, Numbers: a list's truths counted. Conditions: lengths of at most 10,000. Plain laws: numbers counted word by word; the numbers of a word in order. No condition. A range of numbers turned or put in: FlipRange, SetRange. Conditions: numbers below 50,000. spec: joined, words, place, big: two lists by a table, a list's words. Conditions: lengths of at most 10,000. -/
import Derived.Test.YtobdfhlmipcjbaaGreatDoorG01
set_option linter.unusedVariables false
set_option linter.unusedSimpArgs false
set_option maxHeartbeats 2000000
set_option maxRecDepth 100000
namespace Go.Proofs.YtobdfhlmipcjbaaGreatDoor
open Go.RowKit
abbrev BL(w:World)(v:Value)(l:List Bool):Prop:=Lst w 4 1 v l.length (l.map Value.bool)
def NewBL(w:World)(l:List Bool)(en:Ending)(w':World):Prop:=NewLst w 4 1 l.length (l.map Value.bool) en w'
theorem Lst.empty(w:World)(e:TypeId):Lst (w.alloc (.cells #[] e)) e 1 (.slice (some ⟨w.heap.size,0,none⟩) 0 0) 0 []:=
 ⟨by simp,.inr ⟨w.heap.size,0,#[],rfl,Nat.zero_le _,hp_new w _,Nat.le_refl _,by simp [maxLen],by simp,by simp⟩⟩
theorem oneBool(l:List Bool):∀y∈l.map Value.bool,y.oneCell'=true:=by simp;rintro a (⟨_,rfl⟩|⟨_,rfl⟩) <;> rfl
theorem BL.at{w:World}{v:Value}{l:List Bool}(h:BL w v l){i:Nat}(hi:i<l.length):∃s c,v= .slice (some ⟨s,0,none⟩) l.length c/\w.cell? ⟨s,i,none⟩=some (.bool (l.getD i false)):=by
 obtain ⟨s,c,e,y,hy,hc⟩:=Lst.at h hi
 refine ⟨s,c,e,?_⟩
 rw [hc]
 simp [hi]at hy
 simp [List.getD,hi,hy]
def lenV:Value->Nat
 | .slice _ n _=>n
 |_=>0
def longL(l:List Bool)(n:Nat):List Bool:=l++List.replicate (n-l.length) false
theorem longL_length(l:List Bool)(n:Nat):(longL l n).length=max l.length n:=by simp [longL];omega
theorem long_c(v:Value)(l:List Bool)(z:Int)(w:World)(hv:BL w v l)(hl:l.length<=10000)(hzu:z<=10000)(hzl:0<=z):
  Calls Tryz.prog 19 #[v,.int .i64 z] w (NewBL w (longL l z.toNat)):=by
 obtain ⟨i0,hi0,hz0,hz1,hz2⟩:=info_parts info4
 obtain ⟨n,rfl⟩:∃n:Nat,z=n:=⟨z.toNat,by omega⟩
 obtain ⟨len,hlen⟩:∃len,len=l.length:=⟨_,rfl⟩
 have HV:=Lib.hid hv;have HL:=Lib.hid hlen
 have hl2:len<=10000:=by omega
 clear hv hlen hl
 go_enter Tryz.func19,Tryz.ntmps19
 go_wp2_with (at_builtin;refine wpList_app 25 4 i0 _ 1 1 Tryz.underlying25 hi0 hz0 hz1 hz2 rfl (by omega) (by omega) (.tmp 6) (.tmp 7) rfl rfl _ _ _ _ (Lst.empty w 4) _ _ _ (HV.out.alloc _).src (oneBool l) (by have:=HL.out;omega) rfl rfl ?_;intro v1 w1 hv1 hf1 hat1)
 have hf0:Fr (fun _=>False) w w1:=((Fr.refl _ w).alloc _).trans' hf1 (fun r hr=> .inr (by simp [Value.ownBlock]at hr;omega))
 have ho1:∀r,v1.ownBlock=some r->w.heap.size<=r:=own_new hat1 (by simp) (by simp [Value.ownBlock])
 rw [Nat.zero_add,List.nil_append]at hv1
 have HV1:=Lib.hid hv1;have HF0:=Lib.hid hf0;have HO1:=Lib.hid ho1;clear hv1 hf1 hat1 hf0 ho1
 go_loopw [5] (fun v wr=>∃k:Nat,k<=n-len/\Lst wr 4 1 v (len+k) ((l++List.replicate k false).map Value.bool)/\Fr (fun _=>False) w wr/\∀r,v.ownBlock=some r->w.heap.size<=r) (fun v _=>n-lenV v)
 case atStart=>exact ⟨0,by omega,by simpa using HL.out ▸ HV1.out,HF0.out,HO1.out⟩
 case round=>
  obtain ⟨k,hk,hrow,hfr,hown⟩:=hrel
  obtain ⟨a,c,rfl⟩:=hrow.sl
  have HR:=Lib.hid hrow;have HF:=Lib.hid hfr;have HO:=Lib.hid hown
  clear hrow hfr hown
  by_cases hlt:len+k<n
  ·go_wp2_with (at_builtin;refine wpList_app 25 4 i0 _ 1 1 Tryz.underlying25 hi0 hz0 hz1 hz2 rfl (by omega) (by omega) (.tmp 13) (.tmp 14) rfl rfl _ _ _ _ (HR.out.alloc _) _ _ _ (src_one wr (.bool false) 4) (by simp [Value.oneCell']) (by omega) rfl rfl ?_;intro v2 w2 hv2 hf2 hat2)
   go_roundw
   case rel=>
    refine ⟨k+1,by omega,?_,?_,?_⟩
    ·have e:(l++List.replicate (k+1) false).map Value.bool=(l++List.replicate k false).map Value.bool++ [Value.bool false]:=by simp [List.replicate_succ']
     rw [e];exact hv2
    ·exact (HF.out.alloc _).trans' hf2 (fun r hr=> .inr (HO.out r hr))
    ·exact own_new hat2 (by have:=HF.out.size;simp;omega) HO.out
   case measure=>
    obtain ⟨a2,c2,rfl⟩:=hv2.sl
    simp [lenV];omega
  ·go_wp2
   go_ret
   have hL:=HL.out
   subst hL
   have hkk:k=n-l.length:=by omega
   have hr:=HR.out
   subst hkk
   unfold NewBL
   rw [longL_length]
   refine ⟨_,rfl,?_,HF.out,HO.out⟩
   have e:max l.length ((n:Int)).toNat=l.length+(n-l.length):=by simp;omega
   rw [e]
   simpa [longL] using hr
theorem has_c(v:Value)(l:List Bool)(n:Nat)(w:World)(hv:BL w v l):
  Calls Tryz.prog 18 #[v,.int .i64 (n:Int)] w (fun e w'=>e= .returned (.bool (l.getD n false))/\w'=w):=by
 obtain ⟨len,hlen⟩:∃len,len=l.length:=⟨_,rfl⟩
 by_cases hn:n<len
 ·obtain ⟨s,c,rfl,hc⟩:=hv.at (i:=n) (by omega)
  rw [<- hlen]
  have HV:=Lib.hid hv;have HL:=Lib.hid hlen
  clear hv hlen
  go_enter Tryz.func18,Tryz.ntmps18
  go_wp2
  go_ret
  exact ⟨rfl,rfl⟩
 ·have hg:l.getD n false=false:=by simp [List.getD];rw [List.getElem?_eq_none (by omega)];rfl
  obtain ⟨a,c,rfl⟩:=hv.sl
  rw [hg,<- hlen]
  have HV:=Lib.hid hv;have HL:=Lib.hid hlen;have HG:=Lib.hid hg
  clear hv hlen hg
  go_enter Tryz.func18,Tryz.ntmps18
  go_wp2
  go_ret
  exact ⟨rfl,rfl⟩
theorem Lst.cells{w:World}{e:TypeId}{n:Nat}{v:Value}{xs:List Value}(h:Lst w e 1 v n xs)(hn:0<n):∃s c cur,v= .slice (some ⟨s,0,none⟩) n c/\w.heap[s]? =some (.cells cur e (0,0))/\n<=c/\c<=maxLen/\cur.size=c/\cur.toList.take n=xs:=by
 rcases h.2 with ⟨_,rfl⟩|⟨g,cap,cur,rfl,hb,hg,hn,hcm,hs,ht⟩
 ·omega
 ·exact ⟨g,cap,cur,rfl,hg,hn,hcm,by simpa using hs,by simpa using ht⟩
theorem Lst.free{w:World}{e:TypeId}{n c s:Nat}{xs:List Value}(h:Lst w e 1 (.slice (some ⟨s,0,none⟩) n c) n xs)(i:Nat):w.frozen? ⟨s,i,none⟩=false:=by
 rcases h.2 with ⟨h1,_⟩|⟨g,cap,cur,h1,hb,hg,hn,hcm,hs,ht⟩
 ·cases h1
 ·cases h1;exact hp_free hg i
theorem Lst.set{w:World}{e:TypeId}{n c s:Nat}{xs:List Value}(h:Lst w e 1 (.slice (some ⟨s,0,none⟩) n c) n xs)(i:Nat)(hi:i<n)(y:Value):Lst (w.setCell ⟨s,i,none⟩ y) e 1 (.slice (some ⟨s,0,none⟩) n c) n (xs.set i y):=by
 refine ⟨by simpa using h.1,?_⟩
 rcases h.2 with ⟨h1,_⟩|⟨g,cap,cur,h1,hb,hg,hn,hcm,hs,ht⟩
 ·cases h1
 ·cases h1
  refine .inr ⟨s,c,cur.setIfInBounds i y,rfl,hb,hp_same w s i y hg,hn,hcm,by simpa using hs,?_⟩
  rw [Array.toList_setIfInBounds,List.take_set,ht]
def putL(l:List Bool)(n:Nat):Bool->List Bool
 |true=>(longL l (n+1)).set n true
 |false=>l.set n false
theorem longL_zero(l:List Bool):longL l 0=l:=by simp [longL]
theorem put_c(v:Value)(l:List Bool)(n:Nat)(b:Bool)(w:World)(hv:BL w v l)(hl:l.length<=10000)(hn:n<=9000):
  Calls Tryz.prog 17 #[v,.int .i64 (n:Int),.bool b] w (NewBL w (putL l n b)):=by
 have HV:=Lib.hid hv;have HL:=Lib.hid hl
 clear hv hl
 cases b
 ·go_enter Tryz.func17,Tryz.ntmps17
  go_wp2_with (go_at_call 19;refine (long_c v l 0 w HV.out HL.out (by omega) (by omega)).mono ?_;rintro e w1 ⟨v1,rfl,hv1,hf1,ho1⟩;refine Hid.out ?_)
  refine Lib.hid ?_
  rw [show (0:Int).toNat=0 from rfl,longL_zero]at hv1
  obtain ⟨len,hlen⟩:∃len,len=l.length:=⟨_,rfl⟩
  rw [<- hlen]at hv1
  have HLN:=Lib.hid hlen;clear hlen
  by_cases hnl:n<len
  ·obtain ⟨s,c,rfl,y,hy,hc⟩:=hv1.at hnl
   have hfz:=hv1.free n
   have HV1:=Lib.hid hv1;have HF:=Lib.hid hf1;have HO:=Lib.hid ho1;clear hv1 hf1 ho1 hy
   go_wp2
   go_ret
   have hs:=HV1.out.set n hnl (.bool false)
   rw [<- List.map_set]at hs
   have hLN:=HLN.out
   subst hLN
   refine ⟨_,rfl,?_,HF.out.trans' ((Fr.refl (· =s) _).setCell (.inl rfl) _) (fun r hr=> .inr (by subst hr;exact HO.out _ rfl)),HO.out⟩
   simpa [putL] using hs
  ·obtain ⟨a,c,rfl⟩:=hv1.sl
   have HV1:=Lib.hid hv1;have HF:=Lib.hid hf1;have HO:=Lib.hid ho1;clear hv1 hf1 ho1
   go_wp2
   go_ret
   have hLN:=HLN.out
   subst hLN
   refine ⟨_,rfl,?_,HF.out,HO.out⟩
   simp only [putL]
   rw [List.set_eq_of_length_le (by omega)]
   exact HV1.out
 ·go_enter Tryz.func17,Tryz.ntmps17
  go_wp2_with (go_at_call 19;refine (long_c v l 0 w HV.out HL.out (by omega) (by omega)).mono ?_;rintro e w1 ⟨v1,rfl,hv1,hf1,ho1⟩;refine Hid.out ?_)
  refine Lib.hid ?_
  have HF1:=Lib.hid hf1;clear hv1 hf1 ho1
  go_wp2_with (go_at_call 19;refine (long_c v l ((n:Int)+1) w1 (HV.out.keep HF1.out (fun _ _ h=>h)) HL.out (by omega) (by omega)).mono ?_;rintro e w2 ⟨v2,rfl,hv2,hf2,ho2⟩;refine Hid.out ?_)
  refine Lib.hid ?_
  rw [show ((n:Int)+1).toNat=n+1 by omega]at hv2
  obtain ⟨len,hlen⟩:∃len,len=(longL l (n+1)).length:=⟨_,rfl⟩
  rw [<- hlen]at hv2
  have hnl:n<len:=by rw [hlen,longL_length];omega
  have HLN:=Lib.hid hlen;clear hlen
  obtain ⟨s,c,rfl,y,hy,hc⟩:=hv2.at hnl
  have hfz:=hv2.free n
  have HV1:=Lib.hid hv2;have HF:=Lib.hid hf2;have HO:=Lib.hid ho2;clear hy hv2 hf2 ho2
  go_wp2
  go_ret
  have hs:=HV1.out.set n hnl (.bool true)
  rw [<- List.map_set]at hs
  have hLN:=HLN.out
  subst hLN
  have hsz:=HF1.out.size
  refine ⟨_,rfl,?_,(HF1.out.trans HF.out).trans' ((Fr.refl (· =s) _).setCell (.inl rfl) _) (fun r hr=> .inr (by subst hr;exact Nat.le_trans hsz (HO.out _ rfl))),fun r hr=>Nat.le_trans hsz (HO.out r hr)⟩
  simpa [putL] using hs
structure RS(w:World)(b s L c:Nat)(g:Nat->BitVec 64):Prop where
 ne:s≠b
 hn:nw L<=c
 hc:c<=9223372036854775807
 hl:L<=50000
 hb:w.heap[b]? =some (.cells #[.int .u64 (L:Int),.slice (some ⟨s,0,none⟩) (nw L) c] 75 (0,0))
 hs:w.rowIs s 29 c (fun i=>WV (g i))
theorem BA.rs{w:World}{b:Nat}{v:Value}{L:Nat}{m:Nat->Bool}(h:BA w b v L m)(hL:0<L):
  ∃(s c:Nat) (g:Nat->BitVec 64),v= .slice (some ⟨s,0,none⟩) (nw L) c/\RS w b s L c g/\(∀i,i<nw L->g i=pk m i)/\∀i,L<=i->m i=false:=by
 obtain ⟨s,c,g,hv,ne,hn,hc,hl,hb,hs,hg,hm⟩:=h.openAt hL
 exact ⟨s,c,g,hv,⟨ne,hn,hc,hl,hb,hs⟩,hg,hm⟩
theorem RS.ba{w:World}{b s L c:Nat}{m:Nat->Bool}{g:Nat->BitVec 64}(r:RS w b s L c g)(hg:∀i,i<nw L->g i=pk m i)(hm:∀i,L<=i->m i=false):
  BA w b (.slice (some ⟨s,0,none⟩) (nw L) c) L m:=BA.shut r.hb r.ne r.hn r.hc r.hl r.hs hg hm
theorem RS.keep{w w':World}{T:Nat->Prop}{b s L c:Nat}{g:Nat->BitVec 64}(r:RS w b s L c g)(h:Fr T w w')(h1:¬T b)(h2:¬T s):RS w' b s L c g:=
 ⟨r.ne,r.hn,r.hc,r.hl,(h.keep b (hp_lt r.hb) h1).trans r.hb,rowIs_keep r.hs h h2⟩
theorem RS.drewN{w:World}{b s L c:Nat}{g:Nat->BitVec 64}(r:RS w b s L c g)(n:Nat):RS (w.drewN n) b s L c g:=⟨r.ne,r.hn,r.hc,r.hl,r.hb,r.hs⟩
theorem RS.set{w:World}{b s L c:Nat}{g:Nat->BitVec 64}(r:RS w b s L c g)(i:Nat)(x:BitVec 64):RS (w.setCell ⟨s,i,none⟩ (WV x)) b s L c (fun j=>if j=i then x else g j):=
 ⟨r.ne,r.hn,r.hc,r.hl,(hp_other _ _ _ (fun e=>r.ne e.symm)).trans r.hb,(r.hs.set i _).congr (fun j _=>by by_cases e:j=i <;> simp [e])⟩
theorem RS.congr{w:World}{b s L c:Nat}{g g':Nat->BitVec 64}(r:RS w b s L c g)(h:∀j,j<c->g j=g' j):RS w b s L c g':=
 ⟨r.ne,r.hn,r.hc,r.hl,r.hb,r.hs.congr (fun j hj=>by rw [h j hj])⟩
theorem RS.h0{w:World}{b s L c:Nat}{g:Nat->BitVec 64}(r:RS w b s L c g):w.cell? ⟨b,0,none⟩=some (.int .u64 (L:Int)):=hp_cell r.hb 0 rfl
theorem RS.h1{w:World}{b s L c:Nat}{g:Nat->BitVec 64}(r:RS w b s L c g):w.cell? ⟨b,1,none⟩=some (.slice (some ⟨s,0,none⟩) (nw L) c):=hp_cell r.hb 1 rfl
theorem RS.at{w:World}{b s L c:Nat}{g:Nat->BitVec 64}(r:RS w b s L c g){i:Nat}(hi:i<nw L):w.cell? ⟨s,i,none⟩=some (WV (g i)):=r.hs.cell (Nat.lt_of_lt_of_le hi r.hn)
theorem RS.fr{w:World}{b s L c:Nat}{g:Nat->BitVec 64}(r:RS w b s L c g)(i:Nat):w.frozen? ⟨s,i,none⟩=false:=r.hs.frozen i
theorem all_shr(k:Nat):(18446744073709551615:Int)/(2:Int)^k=wn (BitVec.allOnes 64>>>k):=by rw [wn_all,wn_shr]
theorem all_shl(k:Nat):IntKind.u64.wrap ((18446744073709551615:Int)*(2:Int)^k)=wn (BitVec.allOnes 64<<<k):=by rw [wn_all,wn_shl]
theorem bit_hi(a j:Nat)(hj:j<64):(BitVec.allOnes 64<<<a).getLsbD j=decide (a<=j):=by
 rw [BitVec.getLsbD_shiftLeft,BitVec.getLsbD_allOnes]
 by_cases h:j<a
 ·have:¬a<=j:=by omega
  simp [h,hj,this]
 ·have h1:a<=j:=by omega
  have h2:j-a<64:=by omega
  simp [h,hj,h1,h2]
theorem bit_lo(a j:Nat):(BitVec.allOnes 64>>>a).getLsbD j=decide (a+j<64):=by
 rw [BitVec.getLsbD_ushiftRight,BitVec.getLsbD_allOnes]
def below(L:Nat)(i:Nat):Bool:=decide (i<L)
def CleanPost(w:World)(b s L c:Nat)(g:Nat->BitVec 64)(e:Ending)(w':World):Prop:=
 e= .returned (.tuple #[])/\∃g',RS w' b s L c g'/\(∀j,j<nw L->g' j=g j&&&pk (below L) j)/\Fr (· =s) w w'
theorem clean_c(b s L c:Nat)(g:Nat->BitVec 64)(w:World)(r:RS w b s L c g):
  Calls Tryz.prog 41 #[.pointer (some ⟨b,0,none⟩)] w (CleanPost w b s L c g):=by
 have h0:=r.h0
 have h1:=r.h1
 have hl:=r.hl
 have R:=Lib.hid r
 have full:∀j,64*j+64<=L->g j=g j&&&pk (below L) j:=by
  intro j hj
  apply BitVec.eq_of_getLsbD_eq
  intro i hi
  rw [BitVec.getLsbD_and,getLsbD_pk]
  have:below L (64*j+i)=true:=by simp [below];omega
  simp [this,hi]
 by_cases hz:L%64=0
 ·have hd:(!decide (L%64=0))=false:=by simp [hz]
  have F:=Lib.hid full
  clear r full
  go_enter Tryz.func41,Tryz.ntmps41
  go_wp2_with (go_at_call 98;refine (isLenExact_c _ _ _ (by omega) h0).mono ?_;rintro e w' ⟨rfl,rfl⟩)
  go_end0
  exact ⟨rfl,g,R.out,fun j hj=>F.out j (by unfold nw at hj;omega),Fr.refl _ _⟩
 ·have hd:(!decide (L%64=0))=true:=by simp [hz]
  have hq:nw L-1<nw L:=by unfold nw;omega
  have h2:=r.at hq
  have hf:=r.fr (nw L-1)
  have F:=Lib.hid full
  obtain ⟨n,hnL⟩:∃n,n=nw L:=⟨_,rfl⟩
  have hnb:n<=1000:=by subst hnL;unfold nw;omega
  rw [<- hnL]at h1 hq h2 hf
  have HN:=Lib.hid hnL
  clear r full hnL
  have i1:(0:Int)<=(n:Int)-1/\(n:Int)-1<n:=by omega
  have i2:((n:Int)-1).toNat=n-1:=by omega
  go_enter Tryz.func41,Tryz.ntmps41
  go_wp2_with (go_at_call 98;refine (isLenExact_c _ _ _ (by omega) h0).mono ?_;rintro e w' ⟨rfl,rfl⟩)
  refine wp_region_quiet_tail 20 (by kernel_rfl) (by kernel_rfl) ?_
  simp only [List.take_succ_cons,List.take_zero,List.drop_succ_cons,List.drop_zero]
  repeat (go_big_quiet_step ((go_at_call 99;exact Calls.quiet_of_same (wordsIndex_c _ _ (by omega)))))
  refine wpQuiet_nil ?_
  intro _ ⟨nq,hw'⟩
  subst hw'
  go_wp2
  go_end0
  have hN:=HN.out
  subst hN
  rw [all_shr,wn_and]
  refine ⟨rfl,_,(R.out.drewN nq).set _ _,fun j hj=>?_,((Fr.refl (· =s) _).drewN _).setCell (.inl rfl) _⟩
  by_cases e:j=nw L-1
  ·rw [if_pos e,e]
   congr 1
   apply BitVec.eq_of_getLsbD_eq
   intro i hi
   rw [bit_lo,getLsbD_pk,Bool.eq_iff_iff]
   simp [below,hi]
   unfold nw
   omega
  ·rw [if_neg e]
   exact F.out j (by unfold nw at hj e;omega)
theorem all_and(x:BitVec 64):BitVec.allOnes 64&&&x=x:=by
 apply BitVec.eq_of_getLsbD_eq
 intro j hj
 rw [BitVec.getLsbD_and,BitVec.getLsbD_allOnes]
 simp [hj]
theorem clearAll_raw(b s L c:Nat)(g:Nat->BitVec 64)(w:World)(r:RS w b s L c g):
  Calls Tryz.prog 52 #[.pointer (some ⟨b,0,none⟩)] w fun e w'=>e= .returned (.pointer (some ⟨b,0,none⟩))/\∃g',RS w' b s L c g'/\(∀j,j<nw L->g' j=0)/\Fr (· =s) w w':=by
 have h0:=r.h0
 have h1:=r.h1
 have hl:=r.hl
 have R:=Lib.hid r
 obtain ⟨n,hnL⟩:∃n,n=nw L:=⟨_,rfl⟩
 have hnb:n<=1000:=by subst hnL;unfold nw;omega
 rw [<- hnL]at h1
 have HN:=Lib.hid hnL
 clear r hnL
 go_enter Tryz.func52,Tryz.ntmps52
 go_wp2
 clear h0 h1
 go_loopw [18] (fun i wr=>∃k:Nat,k<=n/\i= .int .i64 k/\RS wr b s L c (fun j=>if j<k then (0:BitVec 64) else g j)/\Fr (· =s) w wr) (fun i _=>n-(intOf i).toNat)
 case atStart=>exact ⟨0,by omega,rfl,R.out.congr (fun j _=>by simp),Fr.refl _ _⟩
 case round=>
  obtain ⟨k,hk,rfl,hr,hfr⟩:=hrel
  have HF:=Lib.hid hfr
  have HR:=Lib.hid hr
  have g0:=hr.h0
  have g1:=hr.h1
  rw [<- HN.out]at g1
  by_cases hlt:k<n
  ·have h2:=hr.at (i:=k) (by rw [<- HN.out];exact hlt)
   have hf:=hr.fr k
   rw [if_neg (Nat.lt_irrefl k)]at h2
   clear hr hfr
   go_wp2
   go_roundw
   case rel=>
    refine ⟨k+1,by omega,by go_num,?_,HF.out.setCell (.inl rfl) _⟩
    refine (HR.out.set k ((0:BitVec 64))).congr (fun j _=>?_)
    by_cases e:j=k
    ·subst e;simp
    ·by_cases e2:j<k
     ·have:j<k+1:=by omega
      simp [e,e2,this]
     ·have:¬j<k+1:=by omega
      simp [e,e2,this]
   case measure=>simp [intOf];omega
  ·have hkn:k=n:=by omega
   subst hkn
   clear hr hfr
   go_wp2
   go_ret
   exact ⟨rfl,_,HR.out,fun j hj=>if_pos (by rw [HN.out];exact hj),HF.out⟩
theorem setAll_raw(b s L c:Nat)(g:Nat->BitVec 64)(w:World)(r:RS w b s L c g):
  Calls Tryz.prog 53 #[.pointer (some ⟨b,0,none⟩)] w fun e w'=>e= .returned (.pointer (some ⟨b,0,none⟩))/\∃g',RS w' b s L c g'/\(∀j,j<nw L->g' j=pk (below L) j)/\Fr (· =s) w w':=by
 have h0:=r.h0
 have h1:=r.h1
 have hl:=r.hl
 have R:=Lib.hid r
 obtain ⟨n,hnL⟩:∃n,n=nw L:=⟨_,rfl⟩
 have hnb:n<=1000:=by subst hnL;unfold nw;omega
 rw [<- hnL]at h1
 have HN:=Lib.hid hnL
 clear r hnL
 go_enter Tryz.func53,Tryz.ntmps53
 go_wp2
 clear h0 h1
 go_loopw [18] (fun i wr=>∃k:Nat,k<=n/\i= .int .i64 k/\RS wr b s L c (fun j=>if j<k then BitVec.allOnes 64 else g j)/\Fr (· =s) w wr) (fun i _=>n-(intOf i).toNat)
 case atStart=>exact ⟨0,by omega,rfl,R.out.congr (fun j _=>by simp),Fr.refl _ _⟩
 case round=>
  obtain ⟨k,hk,rfl,hr,hfr⟩:=hrel
  have HF:=Lib.hid hfr
  have HR:=Lib.hid hr
  have g0:=hr.h0
  have g1:=hr.h1
  rw [<- HN.out]at g1
  by_cases hlt:k<n
  ·have h2:=hr.at (i:=k) (by rw [<- HN.out];exact hlt)
   have hf:=hr.fr k
   rw [if_neg (Nat.lt_irrefl k)]at h2
   clear hr hfr
   go_wp2
   go_roundw
   case rel=>
    refine ⟨k+1,by omega,by go_num,?_,HF.out.setCell (.inl rfl) _⟩
    refine (HR.out.set k (BitVec.allOnes 64)).congr (fun j _=>?_)
    by_cases e:j=k
    ·subst e;simp
    ·by_cases e2:j<k
     ·have:j<k+1:=by omega
      simp [e,e2,this]
     ·have:¬j<k+1:=by omega
      simp [e,e2,this]
   case measure=>simp [intOf];omega
  ·have hkn:k=n:=by omega
   subst hkn
   clear hr hfr
   go_wp2_with (go_at_call 41;refine (clean_c b s L c _ _ HR.out).mono ?_;rintro e w2 ⟨rfl,g',hr2,hg2,hfr2⟩)
   go_ret
   refine ⟨rfl,g',hr2,fun j hj=>?_,HF.out.trans hfr2⟩
   rw [hg2 j hj,if_pos (by rw [HN.out];exact hj),all_and]
theorem clearAll_nil(b:Nat)(w:World)(h:w.cell? ⟨b,1,none⟩=some (.slice none 0 0)):Calls Tryz.prog 52 #[.pointer (some ⟨b,0,none⟩)] w fun e w'=>e= .returned (.pointer (some ⟨b,0,none⟩))/\w'=w:=by
 go_enter Tryz.func52,Tryz.ntmps52
 go_wp2
 go_ret
 exact ⟨rfl,rfl⟩
theorem setAll_nil(b:Nat)(w:World)(h:w.cell? ⟨b,1,none⟩=some (.slice none 0 0)):Calls Tryz.prog 53 #[.pointer (some ⟨b,0,none⟩)] w fun e w'=>e= .returned (.pointer (some ⟨b,0,none⟩))/\w'=w:=by
 go_enter Tryz.func53,Tryz.ntmps53
 go_wp2
 go_ret
 exact ⟨rfl,rfl⟩
@[go_sem] theorem eql30 (w:World) (a:Option Addr) (n c:Nat):(binOp .eql 30 (.slice a n c) (.slice none 0 0)).run Tryz.prog w= .ok (.bool a.isNone) w:=
 Lib.run_eql_slice_nil w 30 28 a n c 0 0 Tryz.underlying30
@[go_sem] theorem eql38 (w:World) (a:Option Addr) (n c:Nat):(binOp .eql 38 (.slice a n c) (.slice none 0 0)).run Tryz.prog w= .ok (.bool a.isNone) w:=
 Lib.run_eql_slice_nil w 38 5 a n c 0 0 Tryz.underlying38
theorem clone30_c(u:Value)(m:Nat)(ys:List Value)(w:World)(hu:Src w 1 u m ys)(h1:∀y∈ys,y.oneCell'=true)(hm:m<=100000):
  Calls Tryz.prog 93 #[u] w (NewLst w 28 1 m ys):=by
 have hu':=hu
 obtain ⟨A,c,rfl,hl,hc⟩:=hu
 obtain ⟨i0,hi0,hz0,hz1,hz2⟩:=info_parts info28
 have HU:=Lib.hid hu';have H1:=Lib.hid h1
 clear hu' h1
 rcases A with _|ad
 ·have h0:m=0:=by
   rcases Nat.eq_zero_or_pos m with h|h
   ·exact h
   ·obtain ⟨ad,h2,_⟩:=hc h;cases h2
  subst h0
  have hys:ys= []:=List.eq_nil_of_length_eq_zero (by simpa using hl)
  subst hys
  clear hc hl
  go_enter Tryz.func93,Tryz.ntmps93
  go_wp2
  go_ret
  exact ⟨_,rfl,Lst.nil _ _ _,Fr.refl _ _,by simp [Value.ownBlock]⟩
 ·clear hc hl
  go_enter Tryz.func93,Tryz.ntmps93
  go_wp2_with (at_builtin;refine wpList_app 30 28 i0 _ 1 8 Tryz.underlying30 hi0 hz0 hz1 hz2 rfl (by omega) (by omega) (.tmp 5) (.tmp 6) rfl rfl _ _ _ _ (Lst.empty w 28) _ _ _ (HU.out.alloc _) H1.out (by omega) rfl rfl ?_;intro v1 w1 hv1 hf1 hat1)
  go_ret
  rw [Nat.zero_add,List.nil_append]at hv1
  refine ⟨v1,rfl,hv1,((Fr.refl _ w).alloc _).trans' hf1 (fun r hr=> .inr ?_),own_new hat1 (by simp) (by simp [Value.ownBlock])⟩
  simp [Value.ownBlock]at hr
  omega
theorem clone38_c(u:Value)(m:Nat)(ys:List Value)(w:World)(hu:Src w 1 u m ys)(h1:∀y∈ys,y.oneCell'=true)(hm:m<=100000):
  Calls Tryz.prog 79 #[u] w (NewLst w 5 1 m ys):=by
 have hu':=hu
 obtain ⟨A,c,rfl,hl,hc⟩:=hu
 obtain ⟨i0,hi0,hz0,hz1,hz2⟩:=info_parts info5
 have HU:=Lib.hid hu';have H1:=Lib.hid h1
 clear hu' h1
 rcases A with _|ad
 ·have h0:m=0:=by
   rcases Nat.eq_zero_or_pos m with h|h
   ·exact h
   ·obtain ⟨ad,h2,_⟩:=hc h;cases h2
  subst h0
  have hys:ys= []:=List.eq_nil_of_length_eq_zero (by simpa using hl)
  subst hys
  clear hc hl
  go_enter Tryz.func79,Tryz.ntmps79
  go_wp2
  go_ret
  exact ⟨_,rfl,Lst.nil _ _ _,Fr.refl _ _,by simp [Value.ownBlock]⟩
 ·clear hc hl
  go_enter Tryz.func79,Tryz.ntmps79
  go_wp2_with (at_builtin;refine wpList_app 38 5 i0 _ 1 1 Tryz.underlying38 hi0 hz0 hz1 hz2 rfl (by omega) (by omega) (.tmp 5) (.tmp 6) rfl rfl _ _ _ _ (Lst.empty w 5) _ _ _ (HU.out.alloc _) H1.out (by omega) rfl rfl ?_;intro v1 w1 hv1 hf1 hat1)
  go_ret
  rw [Nat.zero_add,List.nil_append]at hv1
  refine ⟨v1,rfl,hv1,((Fr.refl _ w).alloc _).trans' hf1 (fun r hr=> .inr ?_),own_new hat1 (by simp) (by simp [Value.ownBlock])⟩
  simp [Value.ownBlock]at hr
  omega
def EqP(xs ys:List (BitVec 64))(e:Ending):Prop:=∃r:Bool,e= .returned (.bool r)/\(r=true↔xs=ys)
theorem slEqual_c(u v:Value)(xs ys:List (BitVec 64))(w:World)(hu:Src w 1 u xs.length (xs.map WV))(hv:Src w 1 v ys.length (ys.map WV))(hm:xs.length<=1000000)(hm2:ys.length<=1000000):
  Calls Tryz.prog 9 #[u,v] w fun e w'=>EqP xs ys e/\∃q,w'=w.drewN q:=by
 obtain ⟨A,c,rfl,_,hc⟩:=hu
 obtain ⟨B,d,rfl,_,hd⟩:=hv
 obtain ⟨n,hn⟩:∃n,n=xs.length:=⟨_,rfl⟩
 obtain ⟨k,hk⟩:∃n,n=ys.length:=⟨_,rfl⟩
 rw [<- hn]at hc hm ⊢
 rw [<- hk]at hd hm2 ⊢
 have HC:=Lib.hid hc;have HD:=Lib.hid hd;have HN:=Lib.hid hn;have HK:=Lib.hid hk
 clear hc hd hn hk
 by_cases hlen:n=k
 ·subst hlen
  go_enter Tryz.func9,Tryz.ntmps9
  go_wp2
  go_loopw [13] (fun t wr=>∃a b:Nat,a<=n/\t= .int .i64 (a:Int)/\(∀i,i<a->xs[i]? =ys[i]?)/\wr=w.drewN b) (fun t _=>n-(intOf t).toNat)
  case atStart=>exact ⟨0,0,by omega,rfl,fun i hi=>by omega,rfl⟩
  case round=>
   obtain ⟨a,b,ha,rfl,hz,hw⟩:=hrel
   have HZ:=Lib.hid hz;have HW:=Lib.hid hw;clear hz
   by_cases hlt:a<n
   ·obtain ⟨ad,rfl,hcc⟩:=HC.out (by omega)
    obtain ⟨bd,rfl,hdd⟩:=HD.out (by omega)
    have hxa:a<xs.length:=by rw [<- HN.out];exact hlt
    have hya:a<ys.length:=by rw [<- HK.out];exact hlt
    obtain ⟨x,hx⟩:∃x,xs[a]? =some x:=⟨_,List.getElem?_eq_getElem hxa⟩
    obtain ⟨y,hy⟩:∃x,ys[a]? =some x:=⟨_,List.getElem?_eq_getElem hya⟩
    have c1:wr.cell? (ad.add a)=some (WV x):=by rw [hw];exact hcc a _ (by simp [hx])
    have c2:wr.cell? (bd.add a)=some (WV y):=by rw [hw];exact hdd a _ (by simp [hy])
    have HX:=Lib.hid hx;have HY:=Lib.hid hy
    clear hcc hdd hx hy hw hxa hya
    by_cases he:x=y
    ·subst he
     go_wp2
     go_quiet (fail)
     go_wp2
     go_roundw
     case rel=>
      refine ⟨a+1,_,by omega,by go_num,fun i hi=>?_,by rw [HW.out,World.drewN_drewN]⟩
      rcases Nat.lt_or_ge i a with h|h
      ·exact HZ.out i h
      ·rw [show i=a by omega,HX.out,HY.out]
     case measure=>(simp [intOf];try omega)
    ·have hne:¬wn x=wn y:=fun h=>he (wn_inj h)
     have HE:=Lib.hid he;clear he
     go_wp2
     go_quiet (fail)
     go_wp2
     go_ret
     refine ⟨⟨false,rfl,?_⟩,_,by rw [HW.out,World.drewN_drewN]⟩
     simp
     intro e
     have:=HX.out
     rw [e,HY.out]at this
     exact HE.out (Option.some.inj this).symm
   ·have han:a=n:=by omega
    subst han
    clear hw
    go_wp2
    go_ret
    refine ⟨⟨true,rfl,?_⟩,_,HW.out⟩
    simp
    apply List.ext_getElem?
    intro i
    rcases Nat.lt_or_ge i a with h|h
    ·exact HZ.out i h
    ·rw [List.getElem?_eq_none (by rw [<- HN.out];exact h),List.getElem?_eq_none (by rw [<- HK.out];exact h)]
 ·have hne:¬(n:Int)=(k:Int):=by omega
  have HL:=Lib.hid hlen;clear hlen
  go_enter Tryz.func9,Tryz.ntmps9
  go_wp2
  go_ret
  refine ⟨⟨false,rfl,?_⟩,0,rfl⟩
  simp
  intro e
  exact HL.out (by rw [HN.out,HK.out,e])
theorem list10_c(u:Value)(m:Nat)(ys:List Value)(w:World)(hu:Src w 1 u m ys)(h1:∀y∈ys,∃z:Int,y= .int .u64 z)(hm:m<=100000):
  Calls Tryz.prog 10 #[u] w (NewLst w 29 1 m ys):=by
 obtain ⟨A,c,rfl,hl,hc⟩:=hu
 obtain ⟨i0,hi0,hz0,hz1,hz2⟩:=info_parts info29
 have HC:=Lib.hid hc;have HL:=Lib.hid hl;have H1:=Lib.hid h1;clear hc hl h1
 go_enter Tryz.func10,Tryz.ntmps10
 go_wp2
 have he:=Lst.empty w 29
 have hf0:Fr (fun _=>False) w (w.alloc (.cells #[] 29)):=(Fr.refl _ w).alloc _
 have HE:=Lib.hid he;have HF0:=Lib.hid hf0;clear he hf0
 go_loopw [3,9] (fun v i wr=>∃k:Nat,k<=m/\i= .int .i64 (k:Int)/\Lst wr 29 1 v k (ys.take k)/\Fr (fun _=>False) w wr/\∀r,v.ownBlock=some r->w.heap.size<=r) (fun v i _=>m-(intOf i).toNat)
 case atStart=>exact ⟨0,by omega,rfl,HE.out,HF0.out,by simp [Value.ownBlock]⟩
 case round=>
  obtain ⟨k,hk,rfl,hrow,hfr,hown⟩:=hrel
  by_cases hlt:k<m
  ·obtain ⟨ad,rfl,hcc⟩:=HC.out (by omega)
   have hl:=HL.out
   have hlen:k<ys.length:=by omega
   obtain ⟨y,hy⟩:∃x,ys[k]? =some x:=⟨_,List.getElem?_eq_getElem hlen⟩
   have hcell:=(hfr.cell (a:=ad.add k) (block_lt_of_cell (hcc k _ hy)) (fun h=>h)).trans (hcc k _ hy)
   obtain ⟨z,hyz⟩:=H1.out y (List.mem_of_getElem? hy)
   subst hyz
   have htk:=take_succ_get _ _ _ hy
   have HY:=Lib.hid htk;have HR:=Lib.hid hrow;have HF:=Lib.hid hfr;have HO:=Lib.hid hown
   clear hrow hfr hown hcc hy hl hlen htk
   go_wp2_with (at_builtin;refine wpList_app 33 29 i0 _ 1 8 Tryz.underlying33 hi0 hz0 hz1 hz2 rfl (by omega) (by omega) (.tmp 13) (.tmp 15) rfl rfl _ _ _ _ (HR.out.alloc _) _ _ _ (src_one wr (.int .u64 z) 29) (by simp [Value.oneCell']) (by omega) rfl rfl ?_;intro v1 w1 hv1 hf1 hat1)
   go_roundw
   case rel=>
    refine ⟨k+1,by omega,by go_num,?_,?_,?_⟩
    ·rw [<- HY.out];exact hv1
    ·exact (HF.out.alloc _).trans' hf1 (fun r hr=> .inr (HO.out r hr))
    ·exact own_new hat1 (by have:=HF.out.size;simp;omega) HO.out
   case measure=>(simp [intOf];try omega)
  ·have hkk:k=m:=by omega
   subst hkk
   have HR:=Lib.hid hrow;have HF:=Lib.hid hfr;have HO:=Lib.hid hown
   clear hrow hfr hown
   go_wp2
   go_ret
   have hr:=HR.out
   rw [List.take_of_length_le (by have:=HL.out;omega)]at hr
   exact ⟨_,rfl,hr,HF.out,HO.out⟩
def mOf(l:List Bool)(i:Nat):Bool:=l.getD i false
theorem BL.am{w:World}{v:Value}{l:List Bool}(h:BL w v l){i:Nat}(hi:i<l.length):∃s c,v= .slice (some ⟨s,0,none⟩) l.length c/\w.cell? ⟨s,i,none⟩=some (.bool (mOf l i)):=h.at hi
def cntN(m:Nat->Bool):Nat->Nat
 |0=>0
 |n+1=>cntN m n+(if m n then 1 else 0)
def numsN(m:Nat->Bool):Nat->List Nat
 |0=>[]
 |n+1=>numsN m n++(if m n then [n] else [])
def topN(m:Nat->Bool):Nat->Nat
 |0=>0
 |n+1=>if m n then n+1 else topN m n
theorem cntN_le(m:Nat->Bool)(n:Nat):cntN m n<=n:=by
 induction n with
 |zero=>exact Nat.le_refl _
 |succ n ih=>unfold cntN;split <;> omega
theorem numsN_length(m:Nat->Bool)(n:Nat):(numsN m n).length=cntN m n:=by
 induction n with
 |zero=>rfl
 |succ n ih=>unfold numsN cntN;split <;> simp [ih]
theorem cntN_ext{m m':Nat->Bool}(n:Nat)(h:∀i,i<n->m i=m' i):cntN m n=cntN m' n:=by
 induction n with
 |zero=>rfl
 |succ n ih=>unfold cntN;rw [ih (fun i hi=>h i (by omega)),h n (by omega)]
theorem spCount_c(v:Value)(l:List Bool)(w:World)(hv:BL w v l)(hl:l.length<=10000):
  Calls Tryz.prog 24 #[v] w (fun e w'=>e= .returned (.int .i64 ((cntN (mOf l) l.length:Nat):Int))/\w'=w):=by
 obtain ⟨a,c,e1⟩:=hv.sl
 obtain ⟨n,hn⟩:∃n,n=l.length:=⟨_,rfl⟩
 have hat:=fun (i:Nat) (hi:i<l.length)=>hv.am hi
 rw [<- hn]at e1
 rw [e1,<- hn]at hat
 rw [<- hn,e1]
 rw [<- hn]at hl
 have HA:=Lib.hid hat;clear hat hv hn e1
 go_enter Tryz.func24,Tryz.ntmps24
 go_wp2
 go_loopw [3,8] (fun x i wr=>∃k:Nat,k<=n/\i= .int .i64 (k:Int)/\x= .int .i64 ((cntN (mOf l) k:Nat):Int)/\wr=w) (fun x i _=>n-(intOf i).toNat)
 case atStart=>exact ⟨0,by omega,rfl,rfl,rfl⟩
 case round=>
  obtain ⟨k,hk,rfl,rfl,rfl⟩:=hrel
  by_cases hlt:k<n
  ·obtain ⟨s,c',e1,hc⟩:=HA.out k hlt
   cases e1
   have hcb:=cntN_le (mOf l) k
   obtain ⟨q,hq⟩:∃q,q=cntN (mOf l) k:=⟨_,rfl⟩
   rw [<- hq]at hcb ⊢
   cases hb:mOf l k
   ·simp only [hb]at hc
    have HQ:=Lib.hid hq;have HB:=Lib.hid hb;clear hq hb
    go_wp2
    go_roundw
    case rel=>exact ⟨k+1,by omega,by go_num,by simp [cntN,HB.out,HQ.out],by simp⟩
    case measure=>simp [intOf];omega
   ·simp only [hb]at hc
    have HQ:=Lib.hid hq;have HB:=Lib.hid hb;clear hq hb
    go_wp2
    go_roundw
    case rel=>exact ⟨k+1,by omega,by go_num,by simp [cntN,HB.out,HQ.out],by simp⟩
    case measure=>simp [intOf];omega
  ·have hkk:k=n:=by omega
   subst hkk
   go_wp2
   go_ret
   exact ⟨rfl,rfl⟩
theorem spLast_c(v:Value)(l:List Bool)(w:World)(hv:BL w v l)(hl:l.length<=10000):
  Calls Tryz.prog 20 #[v] w (fun e w'=>e= .returned (.int .i64 ((topN (mOf l) l.length:Nat)-1:Int))/\w'=w):=by
 obtain ⟨a,c,e1⟩:=hv.sl
 obtain ⟨n,hn⟩:∃n,n=l.length:=⟨_,rfl⟩
 have hat:=fun (i:Nat) (hi:i<l.length)=>hv.am hi
 rw [<- hn]at e1
 rw [e1,<- hn]at hat
 rw [<- hn,e1]
 rw [<- hn]at hl
 have HA:=Lib.hid hat;clear hat hv hn e1
 go_enter Tryz.func20,Tryz.ntmps20
 go_wp2
 go_loopw [3] (fun i wr=>∃k:Nat,k<=n/\i= .int .i64 ((k:Int)-1)/\topN (mOf l) n=topN (mOf l) k/\wr=w) (fun i _=>(intOf i+1).toNat)
 case atStart=>exact ⟨n,by omega,by go_num,rfl,rfl⟩
 case round=>
  obtain ⟨k,hk,rfl,ht,rfl⟩:=hrel
  have HT:=Lib.hid ht;clear ht
  rcases Nat.eq_zero_or_pos k with rfl|hlt
  ·go_wp2
   go_ret
   refine ⟨?_,rfl⟩
   rw [HT.out];rfl
  ·obtain ⟨j,rfl⟩:∃j,k=j+1:=⟨k-1,by omega⟩
   obtain ⟨s,c',e1,hc⟩:=HA.out j (by omega)
   cases e1
   have ej:((j+1:Nat):Int)-1=(j:Int):=by omega
   rw [ej]
   cases hb:mOf l j
   ·simp only [hb]at hc
    have HB:=Lib.hid hb;have EJ:=Lib.hid ej;clear hb ej
    go_wp2
    go_roundw
    case rel=>refine ⟨j,by omega,?_,?_,?_⟩ <;> (try simp) <;> (try rw [HT.out]) <;> (try simp [topN,HB.out])
    case measure=>simp [intOf]
   ·simp only [hb]at hc
    have HB:=Lib.hid hb;have EJ:=Lib.hid ej;clear hb ej
    go_wp2
    go_ret
    refine ⟨?_,rfl⟩
    rw [HT.out]
    simp [topN,HB.out]
    try omega
theorem spNumbers_c(v:Value)(l:List Bool)(w:World)(hv:BL w v l)(hl:l.length<=10000):
  Calls Tryz.prog 12 #[v] w (NewLst w 29 1 (cntN (mOf l) l.length) ((numsN (mOf l) l.length).map (fun n:Nat=>Value.int .u64 (n:Int)))):=by
 obtain ⟨i0,hi0,hz0,hz1,hz2⟩:=info_parts info29
 obtain ⟨a,c,e1⟩:=hv.sl
 obtain ⟨n,hn⟩:∃n,n=l.length:=⟨_,rfl⟩
 have hat:=fun (i:Nat) (hi:i<l.length)=>hv.am hi
 have hlt0:=hv.own_lt
 rw [<- hn]at e1
 rw [e1,<- hn]at hat
 rw [e1]at hlt0
 rw [<- hn,e1]
 rw [<- hn]at hl
 have HA:=Lib.hid hat;have HLT:=Lib.hid hlt0;clear hat hv hn e1 hlt0
 go_enter Tryz.func12,Tryz.ntmps12
 go_wp2
 go_loopw [3,9] (fun x i wr=>∃k:Nat,k<=n/\i= .int .i64 (k:Int)/\Lst wr 29 1 x (cntN (mOf l) k) ((numsN (mOf l) k).map (fun n:Nat=>Value.int .u64 (n:Int)))/\Fr (fun _=>False) w wr/\∀r,x.ownBlock=some r->w.heap.size<=r) (fun x i _=>n-(intOf i).toNat)
 case atStart=>exact ⟨0,by omega,rfl,Lst.empty w 29,(Fr.refl _ _).alloc _,by simp [Value.ownBlock]⟩
 case round=>
  obtain ⟨k,hk,rfl,hrow,hfr,hown⟩:=hrel
  have HR:=Lib.hid hrow;have HF:=Lib.hid hfr;have HO:=Lib.hid hown
  clear hrow hfr hown
  by_cases hlt:k<n
  ·obtain ⟨s,c',e1,hc⟩:=HA.out k hlt
   cases e1
   have hc2:=(HF.out.cell (a:=⟨s,k,none⟩) (block_lt_of_cell hc) (fun h=>h)).trans hc
   have hcb:=cntN_le (mOf l) k
   cases hb:mOf l k
   ·simp only [hb]at hc hc2
    have HB:=Lib.hid hb;clear hb hc hcb
    go_wp2
    go_roundw
    case rel=>exact ⟨k+1,by omega,by go_num,by simpa [cntN,numsN,HB.out] using HR.out,HF.out,HO.out⟩
    case measure=>simp [intOf];omega
   ·simp only [hb]at hc hc2
    have HB:=Lib.hid hb;have HCB:=Lib.hid hcb;clear hb hc hcb
    go_wp2_with (at_builtin;refine wpList_app 33 29 i0 _ 1 8 Tryz.underlying33 hi0 hz0 hz1 hz2 rfl (by omega) (by omega) (.tmp 15) (.tmp 18) rfl rfl _ _ _ _ (HR.out.alloc _) _ _ _ (src_one wr (.int .u64 (k:Int)) 29) (by simp [Value.oneCell']) (by have:=HCB.out;omega) rfl rfl ?_;intro v1 w1 hv1 hf1 hat1)
    go_roundw
    case rel=>
     refine ⟨k+1,by omega,by go_num,?_,?_,?_⟩
     ·simpa [cntN,numsN,HB.out] using hv1
     ·exact (HF.out.alloc _).trans' hf1 (fun r hr=> .inr (HO.out r hr))
     ·exact own_new hat1 (by have:=HF.out.size;simp;omega) HO.out
    case measure=>simp [intOf];omega
  ·have hkk:k=n:=by omega
   subst hkk
   go_wp2
   go_ret
   exact ⟨_,rfl,HR.out,HF.out,HO.out⟩
end Go.Proofs.YtobdfhlmipcjbaaGreatDoor
namespace Go.Proofs.YtobdfhlmipcjbaaGreatDoor
open Go.RowKit Pop
theorem cntN_add(m:Nat->Bool)(a n:Nat):cntN m (a+n)=cntN m a+(List.range n).countP (fun j=>m (a+j)):=by
 induction n with
 |zero=>simp
 |succ n ih=>
  rw [List.range_succ,List.countP_append,<- Nat.add_assoc]
  show cntN m (a+n)+_=_
  rw [ih]
  simp only [List.countP_cons,List.countP_nil]
  cases m (a+n) <;> simp <;> omega
theorem pc_pk(m:Nat->Bool)(k:Nat):pc (pk m k)=(List.range 64).countP (fun j=>m (64*k+j)):=by
 unfold pc
 apply List.countP_congr
 intro j hj
 have:=List.mem_range.1 hj
 rw [getLsbD_pk]
 simp [this]
theorem cnt_word(m:Nat->Bool)(k:Nat):cntN m (64*(k+1))=cntN m (64*k)+pc (pk m k):=by
 rw [pc_pk,<- cntN_add];rfl
theorem cntN_past{m:Nat->Bool}{L:Nat}(hm:∀i,L<=i->m i=false){n:Nat}(h:L<=n):cntN m n=cntN m L:=by
 induction n with
 |zero=>
  have:L=0:=by omega
  rw [this]
 |succ n ih=>
  rcases Nat.lt_or_ge n L with h1|h1
  ·have:L=n+1:=by omega
   rw [this]
  ·show cntN m n+_=_
   rw [ih h1,hm n h1];simp
def cntW(f:Nat->BitVec 64):Nat->Nat
 |0=>0
 |k+1=>cntW f k+pc (f k)
theorem cntW_pk(m:Nat->Bool)(k:Nat):cntW (pk m) k=cntN m (64*k):=by
 induction k with
 |zero=>rfl
 |succ k ih=>rw [cnt_word,<- ih];rfl
theorem cntW_ext{f g:Nat->BitVec 64}(k:Nat)(h:∀i,i<k->f i=g i):cntW f k=cntW g k:=by
 induction k with
 |zero=>rfl
 |succ k ih=>unfold cntW;rw [ih (fun i hi=>h i (by omega)),h k (by omega)]
theorem cntW_le(f:Nat->BitVec 64)(k:Nat):cntW f k<=64*k:=by
 induction k with
 |zero=>exact Nat.le_refl _
 |succ k ih=>unfold cntW;have:=pc_le (f k);omega
theorem cntW_add(f:Nat->BitVec 64)(a n:Nat):cntW f (a+n)=cntW f a+cntW (fun i=>f (a+i)) n:=by
 induction n with
 |zero=>rfl
 |succ n ih=>rw [<- Nat.add_assoc];show cntW f (a+n)+pc (f (a+n))=cntW f a+(cntW (fun i=>f (a+i)) n+pc (f (a+n)));rw [ih];omega
theorem cntW_set{m:Nat->Bool}{L:Nat}(hm:∀i,L<=i->m i=false):cntW (pk m) (nw L)=cntN m L:=by
 rw [cntW_pk,cntN_past hm (by unfold nw;omega)]
theorem cntW_tail{m:Nat->Bool}{L:Nat}(hm:∀i,L<=i->m i=false)(l:Nat)(h:l<=nw L):cntN m (64*l)+cntW (fun i=>pk m (l+i)) (nw L-l)=cntN m L:=by
 rw [<- cntW_set hm,<- cntW_pk m l,<- cntW_add]
 congr 1;omega
theorem pc_zero_iff(x:BitVec 64):pc x=0↔x=0:=by
 unfold pc
 rw [List.countP_eq_zero]
 constructor
 ·intro h
  apply BitVec.eq_of_getLsbD_eq
  intro j hj
  have:=h j (List.mem_range.2 hj)
  simpa using this
 ·rintro rfl;simp
theorem cntN_zero(m:Nat->Bool)(n:Nat):cntN m n=0↔∀i,i<n->m i=false:=by
 induction n with
 |zero=>simp [cntN]
 |succ n ih=>
  unfold cntN
  constructor
  ·intro h i hi
   have h1:cntN m n=0:=(Nat.add_eq_zero_iff.1 h).1
   rcases Nat.lt_or_ge i n with h2|h2
   ·exact ih.1 h1 i h2
   ·have:i=n:=by omega
    subst this
    cases hmi:m i
    ·rfl
    ·rw [hmi]at h;simp at h
  ·intro h
   rw [ih.2 (fun i hi=>h i (by omega)),h n (by omega)];rfl
theorem cntN_mono{m m':Nat->Bool}(n:Nat)(h:∀i,i<n->m i=true->m' i=true):cntN m n<=cntN m' n:=by
 induction n with
 |zero=>exact Nat.le_refl _
 |succ n ih=>
  unfold cntN
  have:=ih (fun i hi=>h i (by omega))
  have h2:=h n (by omega)
  cases hm:m n <;> cases hm':m' n <;> simp_all <;> omega
theorem cntN_eq_sub{m m':Nat->Bool}(n:Nat)(h:∀i,i<n->m i=true->m' i=true):cntN m n=cntN m' n↔∀i,i<n->m i=m' i:=by
 constructor
 ·intro he i hi
  induction n with
  |zero=>omega
  |succ n ih=>
   unfold cntN at he
   have h1:=cntN_mono n (fun i hi=>h i (by omega))
   have h2:=h n (by omega)
   have hn:m n=m' n/\cntN m n=cntN m' n:=by
    cases hm:m n <;> cases hm':m' n <;> simp_all <;> omega
   rcases Nat.lt_or_ge i n with h3|h3
   ·exact ih (fun i hi=>h i (by omega)) hn.2 h3
   ·have:i=n:=by omega
    rw [this];exact hn.1
 ·intro he;exact cntN_ext n he
theorem cntN_or(m m':Nat->Bool)(n:Nat):cntN (fun i=>m i||m' i) n+cntN (fun i=>m i&&m' i) n=cntN m n+cntN m' n:=by
 induction n with
 |zero=>rfl
 |succ n ih=>unfold cntN;cases m n <;> cases m' n <;> simp <;> omega
theorem cntN_dif(m m':Nat->Bool)(n:Nat):cntN (fun i=>m i&& !m' i) n+cntN (fun i=>m i&&m' i) n=cntN m n:=by
 induction n with
 |zero=>rfl
 |succ n ih=>unfold cntN;cases m n <;> cases m' n <;> simp <;> omega
theorem cntN_xor(m m':Nat->Bool)(n:Nat):cntN (fun i=>m i^^m' i) n+2*cntN (fun i=>m i&&m' i) n=cntN m n+cntN m' n:=by
 induction n with
 |zero=>rfl
 |succ n ih=>unfold cntN;cases m n <;> cases m' n <;> simp <;> omega
theorem cntN_both{m m':Nat->Bool}{L L':Nat}(hm:∀i,L<=i->m i=false)(hm':∀i,L'<=i->m' i=false)(n:Nat)(h:min L L'<=n):cntN (fun i=>m i&&m' i) n=cntN (fun i=>m i&&m' i) (min L L'):=
 cntN_past (fun i hi=>by rcases Nat.le_total L L' with e|e <;> simp only [e,Nat.min_eq_left,Nat.min_eq_right]at hi <;> simp [hm,hm',hi]) h
end Go.Proofs.YtobdfhlmipcjbaaGreatDoor
namespace Go.Proofs.YtobdfhlmipcjbaaGreatDoor
open Go.RowKit
theorem neg_mod(e:Nat):IntKind.u64.wrap (-(e:Int))%64=(((64-e%64)%64:Nat):Int)/\0<=IntKind.u64.wrap (-(e:Int))/\IntKind.u64.wrap (-(e:Int))<=18446744073709551615:=by
 rw [IntKind.wrap_u64];omega
theorem wordsIndex_neg(e:Nat)(w:World):
  Calls Tryz.prog 99 #[.int .u64 (IntKind.u64.wrap (-(e:Int)))] w fun r w'=>r= .returned (.int .u64 ((64-e%64)%64:Nat))/\w'=w:=by
 obtain ⟨a,b,c⟩:=neg_mod e
 have:=wordsIndex_i _ w b c
 rwa [a]at this
theorem BA.cases{w:World}{b:Nat}{v:Value}{L:Nat}{m:Nat->Bool}(h:BA w b v L m):
  (L=0/\v= .slice none 0 0)\/∃(s c:Nat) (g:Nat->BitVec 64),v= .slice (some ⟨s,0,none⟩) (nw L) c/\RS w b s L c g/\(∀i,i<nw L->g i=pk m i)/\∀i,L<=i->m i=false:=by
 obtain ⟨hm,hb,hl,h3⟩:=h
 rcases h3 with h3|⟨s,c,rfl,ne,hn,hc,g,hs,hg⟩
 ·exact .inl h3
 ·exact .inr ⟨s,c,g,rfl,⟨ne,hn,hc,hl,hb,hs⟩,hg,hm⟩
theorem clearAll_c(b L:Nat)(v:Value)(m:Nat->Bool)(w:World)(h:BA w b v L m):
  Calls Tryz.prog 52 #[.pointer (some ⟨b,0,none⟩)] w (MutA w b v L (fun _=>false) (.pointer (some ⟨b,0,none⟩))):=by
 rcases h.cases with ⟨rfl,rfl⟩|⟨s,c,g,rfl,r,hg,hm⟩
 ·refine (clearAll_nil b w (hp_cell h.2.blk 1 rfl)).mono ?_
  rintro e w' ⟨rfl,rfl⟩
  exact ⟨rfl,_,⟨fun _ _=>rfl,h.2.congr (fun i hi=>by simp [nw]at hi)⟩,Ch.refl _ _ _⟩
 ·refine (clearAll_raw b s L c g w r).mono ?_
  rintro e w' ⟨rfl,g',r',hg',hf⟩
  refine ⟨rfl,_,r'.ba (fun i hi=>?_) (fun _ _=>rfl),⟨hf.mono (fun r hr=> .inr (by subst hr;rfl)),.inl rfl⟩⟩
  rw [hg' i hi]
  exact pk_ext (fun j _=>by simp)
theorem setAll_c(b L:Nat)(v:Value)(m:Nat->Bool)(w:World)(h:BA w b v L m):
  Calls Tryz.prog 53 #[.pointer (some ⟨b,0,none⟩)] w (MutA w b v L (below L) (.pointer (some ⟨b,0,none⟩))):=by
 rcases h.cases with ⟨rfl,rfl⟩|⟨s,c,g,rfl,r,hg,hm⟩
 ·refine (setAll_nil b w (hp_cell h.2.blk 1 rfl)).mono ?_
  rintro e w' ⟨rfl,rfl⟩
  exact ⟨rfl,_,⟨fun _ _=>by simp [below],h.2.congr (fun i hi=>by simp [nw]at hi)⟩,Ch.refl _ _ _⟩
 ·refine (setAll_raw b s L c g w r).mono ?_
  rintro e w' ⟨rfl,g',r',hg',hf⟩
  exact ⟨rfl,_,r'.ba hg' (fun i hi=>by simp [below];exact hi),⟨hf.mono (fun r hr=> .inr (by subst hr;rfl)),.inl rfl⟩⟩
theorem wn_max(x:BitVec 64):bits .xor .u64 IntKind.u64.max (wn x)=wn (~~~ x):=by
 show bits .xor .u64 18446744073709551615 (wn x)=_
 rw [wn_all,wn_xor]
 rfl
theorem extA_e(b en L:Nat)(v:Value)(m:Nat->Bool)(w:World)(hL:L<en)(hi:en<=50000)(h:BA w b v L m):
  Calls Tryz.prog 100 #[.pointer (some ⟨b,0,none⟩),.int .u64 ((en:Int)-1)] w (ExtA w b v en m):=by
 have:=extA_c b (en-1) L v m w (by omega) (by omega) h
 rwa [show ((en-1:Nat):Int)=(en:Int)-1 by omega,show en-1+1=en by omega]at this
theorem flip_word(st en k:Nat)(m:Nat->Bool)(x:BitVec 64)(hse:st<en)
  (hx:∀j,j<64->x.getLsbD j=(((m (64*k+j)^^(decide (k=st/64)&&decide (j<st%64)))^^(decide (st/64<=k)&&decide (k<en/64)))^^(decide (k=en/64)&&decide (j<en%64)))):
  x=pk (fun i=>if st<=i/\i<en then !m i else m i) k:=by
 refine pk_ext fun j hj=>?_
 rw [hx j hj]
 by_cases a:st<=64*k+j/\64*k+j<en
 ·rw [if_pos a]
  by_cases b1:k=st/64/\j<st%64
  ·omega
  ·have d1:(decide (k=st/64)&&decide (j<st%64))=false:=by simp;omega
   rw [d1]
   by_cases b2:st/64<=k/\k<en/64
   ·have d2:(decide (st/64<=k)&&decide (k<en/64))=true:=by simp;omega
    have d3:(decide (k=en/64)&&decide (j<en%64))=false:=by simp;omega
    rw [d2,d3];simp
   ·have d2:(decide (st/64<=k)&&decide (k<en/64))=false:=by simp;omega
    have d3:(decide (k=en/64)&&decide (j<en%64))=true:=by simp;omega
    rw [d2,d3];simp
 ·rw [if_neg a]
  by_cases b1:k=st/64/\j<st%64
  ·have d1:(decide (k=st/64)&&decide (j<st%64))=true:=by simp;omega
   rw [d1]
   by_cases b2:st/64<=k/\k<en/64
   ·have d2:(decide (st/64<=k)&&decide (k<en/64))=true:=by simp;omega
    have d3:(decide (k=en/64)&&decide (j<en%64))=false:=by simp;omega
    rw [d2,d3];simp
   ·have d2:(decide (st/64<=k)&&decide (k<en/64))=false:=by simp;omega
    have d3:(decide (k=en/64)&&decide (j<en%64))=true:=by simp;omega
    rw [d2,d3];simp
  ·have d1:(decide (k=st/64)&&decide (j<st%64))=false:=by simp;omega
   have d2:(decide (st/64<=k)&&decide (k<en/64))=false:=by simp;omega
   have d3:(decide (k=en/64)&&decide (j<en%64))=false:=by simp;omega
   rw [d1,d2,d3];simp
theorem flipRange_in(b st en L:Nat)(v:Value)(m:Nat->Bool)(w:World)(hse:st<en)(hen:en<=50000)(hext:en<=L)(h:BA w b v L m):
  Calls Tryz.prog 46 #[.pointer (some ⟨b,0,none⟩),.int .u64 st,.int .u64 en] w (MutA w b v L (fun i=>if st<=i/\i<en then !m i else m i) (.pointer (some ⟨b,0,none⟩))):=by
 have h0:=hp_cell h.2.blk 0 (v:= .int .u64 L) rfl
 have H:=Lib.hid h;clear h
 have hd0:decide ((en:Int)<=(st:Int))=false:=by simp;omega
 have hd1:decide ((L:Int)<=(en:Int)-1)=false:=by simp;omega
 obtain ⟨s,c,g,rfl,r,hg,hm⟩:=H.out.rs (by omega)
 go_enter Tryz.func46,Tryz.ntmps46
 have g1:=r.h1
 have hl:=r.hl
 have ne:=r.ne
 have hn:=r.hn
 have hc:=r.hc
 have hq0:st/64<nw L:=by unfold nw;omega
 have hq1:en/64<=nw L:=by unfold nw;omega
 have hq2:en%64≠0->en/64<nw L:=by unfold nw;omega
 have hq01:st/64<=en/64:=by omega
 have c0:=r.at hq0
 have f0:=r.fr (st/64)
 have R:=Lib.hid r;have HG:=Lib.hid hg;have HM:=Lib.hid hm;clear r hg hm
 obtain ⟨n,hnL⟩:∃n,n=nw L:=⟨_,rfl⟩
 rw [<- hnL]at g1 hn hq0 hq1 hq2
 have hnb:n<=1000:=by subst hnL;unfold nw;omega
 have HN:=Lib.hid hnL;clear hnL
 go_wp2
 have i0:(0:Int)<=(st:Int)/64/\(st:Int)/64<n:=by omega
 refine wp_region_quiet_tail 12 (by kernel_rfl) (by kernel_rfl) ?_
 simp only [List.take_succ_cons,List.take_zero,List.drop_succ_cons,List.drop_zero]
 repeat (go_big_quiet_step ((go_at_call 99;exact Calls.quiet_of_same (wordsIndex_c _ _ (by omega)))))
 refine wpQuiet_nil ?_
 intro _ ⟨nq,hw'⟩
 subst hw'
 have i1:¬st/64=c:=by omega
 go_wp2
 have r2:=(R.out.drewN nq).set (st/64) (g (st/64)^^^ ~~~ (BitVec.allOnes 64<<<(st%64)))
 have fr2:Fr (Own b (.slice (some ⟨s,0,none⟩) (nw L) c)) w ((w.drewN nq).setCell ⟨s,st/64,none⟩ (WV (g (st/64)^^^ ~~~ (BitVec.allOnes 64<<<(st%64))))):=((Fr.refl _ _).drewN _).setCell (.inl (.inr rfl)) _
 rw [all_shl,wn_max,wn_xor]
 generalize (w.drewN nq).setCell ⟨s,st/64,none⟩ (WV (g (st/64)^^^ ~~~ (BitVec.allOnes 64<<<(st%64))))=w2 at*
 have R2:=Lib.hid r2;have F2:=Lib.hid fr2
 clear r2 fr2 g1 c0 f0 h0
 go_loopw [53] (fun i wr=>∃k:Nat,k<=en/64-st/64/\i= .int .i64 k/\RS wr b s L c (fun j=>if st/64<=j/\j<st/64+k then ~~~ (if j=st/64 then g (st/64)^^^ ~~~ (BitVec.allOnes 64<<<(st%64)) else g j) else (if j=st/64 then g (st/64)^^^ ~~~ (BitVec.allOnes 64<<<(st%64)) else g j))/\Fr (· =s) w2 wr) (fun i _=>(en/64-st/64)-(intOf i).toNat)
 case atStart=>exact ⟨0,by omega,rfl,R2.out.congr (fun j _=>(if_neg (show ¬(st/64<=j/\j<st/64+0) by omega)).symm),Fr.refl _ _⟩
 case round=>
  obtain ⟨k,hk,rfl,hr,hfr⟩:=hrel
  have HF:=Lib.hid hfr
  have HR:=Lib.hid hr
  have g1:=hr.h1
  rw [<- HN.out]at g1
  by_cases hlt:k<en/64-st/64
  ·have h2:=hr.at (i:=st/64+k) (by rw [<- HN.out];omega)
   have hf:=hr.fr (st/64+k)
   have e3:¬(st/64<=st/64+k/\st/64+k<st/64+k):=by omega
   rw [if_neg e3]at h2
   generalize hX:(if st/64+k=st/64 then g (st/64)^^^ ~~~ (BitVec.allOnes 64<<<(st%64)) else g (st/64+k))=X at h2
   have HX:=Lib.hid hX
   clear hr hfr hX
   go_wp2
   have i3:(0:Int)<=(st:Int)/64+k/\(st:Int)/64+k<n:=by omega
   refine wp_region_quiet_tail 17 (by kernel_rfl) (by kernel_rfl) ?_
   simp only [List.take_succ_cons,List.take_zero,List.drop_succ_cons,List.drop_zero]
   repeat (go_big_quiet_step (fail))
   refine wpQuiet_nil ?_
   intro _ ⟨nq2,hw'⟩
   subst hw'
   go_wp2
   go_roundw
   case rel=>
    refine ⟨k+1,by omega,by go_num,?_,(HF.out.drewN _).setCell (.inl rfl) _⟩
    rw [wn_max]
    refine ((HR.out.drewN nq2).set (st/64+k) (~~~ X)).congr (fun j _=>?_)
    by_cases e:j=st/64+k
    ·rw [if_pos e,if_pos (by omega),<- HX.out,e]
    ·rw [if_neg e]
     by_cases e2:st/64<=j/\j<st/64+k
     ·have e3:st/64<=j/\j<st/64+(k+1):=by omega
      rw [if_pos e2,if_pos e3]
     ·have e3:¬(st/64<=j/\j<st/64+(k+1)):=by omega
      rw [if_neg e2,if_neg e3]
   case measure=>simp [intOf];omega
  ·have hkn:k=en/64-st/64:=by omega
   subst hkn
   have rng:∀j,(st/64<=j/\j<st/64+(en/64-st/64))=(st/64<=j/\j<en/64):=fun j=>by apply propext;omega
   simp only [rng]at hr HR
   clear rng
   have done:∀(wf:World) (gf:Nat->BitVec 64),RS wf b s L c gf->Fr (· =s) wr wf->(∀k,k<nw L->∀j,j<64->(gf k).getLsbD j=(((m (64*k+j)^^(decide (k=st/64)&&decide (j<st%64)))^^(decide (st/64<=k)&&decide (k<en/64)))^^(decide (k=en/64)&&decide (j<en%64))))->
     MutA w b (.slice (some ⟨s,0,none⟩) (nw L) c) L (fun i=>if st<=i/\i<en then !m i else m i) (.pointer (some ⟨b,0,none⟩)) (.returned (.pointer (some ⟨b,0,none⟩))) wf:=by
    intro wf gf rf ff hgf
    refine ⟨rfl,_,rf.ba (fun k hk=>flip_word st en k m _ hse (hgf k hk)) (fun i hi=>?_),⟨(F2.out.trans (HF.out.mono (fun r hr=> .inr (by subst hr;rfl)))).trans (ff.mono (fun r hr=> .inr (by subst hr;rfl))),.inl rfl⟩⟩
    have e3:¬(st<=i/\i<en):=by omega
    rw [if_neg e3];exact HM.out i hi
   have DONE:=Lib.hid done
   have bits0:∀k,k<nw L->∀j,j<64->(if st/64<=k/\k<en/64 then ~~~ (if k=st/64 then g (st/64)^^^ ~~~ (BitVec.allOnes 64<<<(st%64)) else g k) else (if k=st/64 then g (st/64)^^^ ~~~ (BitVec.allOnes 64<<<(st%64)) else g k)).getLsbD j=((m (64*k+j)^^(decide (k=st/64)&&decide (j<st%64)))^^(decide (st/64<=k)&&decide (k<en/64))):=by
    intro k hk j hj
    have hin:(if k=st/64 then g (st/64)^^^ ~~~ (BitVec.allOnes 64<<<(st%64)) else g k).getLsbD j=(m (64*k+j)^^(decide (k=st/64)&&decide (j<st%64))):=by
     by_cases e:k=st/64
     ·rw [if_pos e,<- e,BitVec.getLsbD_xor,BitVec.getLsbD_not,bit_hi _ _ hj,HG.out k hk,getLsbD_pk]
      simp only [hj,decide_true,Bool.true_and]
      congr 1
      rw [Bool.eq_iff_iff];simp
     ·rw [if_neg e,HG.out k hk,getLsbD_pk];simp [hj,e]
    by_cases e:st/64<=k/\k<en/64
    ·rw [if_pos e,BitVec.getLsbD_not,hin]
     simp only [hj,e.1,e.2,decide_true,Bool.true_and,Bool.xor_true]
    ·have:(decide (st/64<=k)&&decide (k<en/64))=false:=by simp;omega
     rw [if_neg e,hin,this,Bool.xor_false]
   have BITS:=Lib.hid bits0
   clear bits0 done hfr
   obtain ⟨z,hz⟩:∃z,z=(64-en%64)%64:=⟨_,rfl⟩
   have hwz:∀w,Calls Tryz.prog 99 #[.int .u64 (IntKind.u64.wrap (-(en:Int)))] w fun r w'=>r= .returned (.int .u64 (z:Int))/\w'=w:=fun w=>by rw [hz];exact wordsIndex_neg en w
   have HW:=Lib.hid hwz;have HZ:=Lib.hid hz
   have hz64:z<64:=by omega
   clear hwz
   by_cases hz0:z=0
   ·have hdz:((z:Int) != 0)=false:=by simp;omega
    have hen0:en%64=0:=by omega
    clear hr hz
    go_wp2_with (first|(go_at_call 99;refine (HW.out _).mono ?_;rintro e w' ⟨rfl,rfl⟩))
    go_ret
    refine DONE.out _ _ HR.out (Fr.refl _ _) (fun k hk j hj=>?_)
    have:(decide (k=en/64)&&decide (j<en%64))=false:=by simp;omega
    rw [BITS.out k hk j hj,this,Bool.xor_false]
   ·have hdz:((z:Int) != 0)=true:=by simp;omega
    have hen0:en%64≠0:=by omega
    clear hz
    have h2:=hr.at (i:=en/64) (by rw [<- HN.out];omega)
    have hf:=hr.fr (en/64)
    have e3:¬(st/64<=en/64/\en/64<en/64):=by omega
    rw [if_neg e3]at h2
    generalize hX:(if en/64=st/64 then g (st/64)^^^ ~~~ (BitVec.allOnes 64<<<(st%64)) else g (en/64))=X at h2
    have HX:=Lib.hid hX
    clear hr hX
    go_wp2_with (first|(go_at_call 99;refine (HW.out _).mono ?_;rintro e w' ⟨rfl,rfl⟩))
    have i4:(0:Int)<=(en:Int)/64/\(en:Int)/64<n:=by omega
    refine wp_region_quiet_tail 11 (by kernel_rfl) (by kernel_rfl) ?_
    simp only [List.take_succ_cons,List.take_zero,List.drop_succ_cons,List.drop_zero]
    repeat (go_big_quiet_step ((go_at_call 99;exact Calls.quiet_of_same (wordsIndex_c _ _ (by omega)))))
    refine wpQuiet_nil ?_
    intro _ ⟨nq3,hw'⟩
    subst hw'
    go_wp2
    go_ret
    rw [all_shr,wn_xor]
    refine DONE.out _ _ ((HR.out.drewN nq3).set (en/64) _) (((Fr.refl (· =s) _).drewN _).setCell (.inl rfl) _) (fun k hk j hj=>?_)
    by_cases e:k=en/64
    ·have hb:=BITS.out k hk j hj
     have e3:¬(st/64<=k/\k<en/64):=by omega
     rw [if_neg e3]at hb
     rw [if_pos e,<- HX.out,<- e,BitVec.getLsbD_xor,hb,bit_lo]
     have d2:(decide (st/64<=k)&&decide (k<en/64))=false:=by simp;omega
     rw [show decide (z%64+j<64)=decide (j<en%64) from decide_eq_decide.2 (by have:=HZ.out;omega),d2]
     simp
    ·have:(decide (k=en/64)&&decide (j<en%64))=false:=by simp [e]
     rw [if_neg e,BITS.out k hk j hj,this,Bool.xor_false]
theorem flipRange_out(b st en L:Nat)(v:Value)(m:Nat->Bool)(w:World)(hse:st<en)(hen:en<=50000)(hext:L<en)(h:BA w b v L m):
  Calls Tryz.prog 46 #[.pointer (some ⟨b,0,none⟩),.int .u64 st,.int .u64 en] w (MutA w b v en (fun i=>if st<=i/\i<en then !m i else m i) (.pointer (some ⟨b,0,none⟩))):=by
 have h0:=hp_cell h.2.blk 0 (v:= .int .u64 L) rfl
 have H:=Lib.hid h;clear h
 have hd0:decide ((en:Int)<=(st:Int))=false:=by simp;omega
 have hd1:decide ((L:Int)<=(en:Int)-1)=true:=by simp;omega
 go_enter Tryz.func46,Tryz.ntmps46
 go_wp2_with (go_at_call 100;refine (extA_e b en L v m _ hext hen H.out).mono ?_;rintro e w1 ⟨rfl,v1,hba,hch⟩;refine Hid.out ?_)
 refine Lib.hid ?_
 clear h0
 obtain ⟨s,c,g,rfl,r,hg,hm⟩:=hba.rs (by omega)
 have HC:=Lib.hid hch;clear hch hba
 have g1:=r.h1
 have hl:=r.hl
 have ne:=r.ne
 have hn:=r.hn
 have hc:=r.hc
 have hq0:st/64<nw en:=by unfold nw;omega
 have hq1:en/64<=nw en:=by unfold nw;omega
 have hq2:en%64≠0->en/64<nw en:=by unfold nw;omega
 have hq01:st/64<=en/64:=by omega
 have c0:=r.at hq0
 have f0:=r.fr (st/64)
 have R:=Lib.hid r;have HG:=Lib.hid hg;have HM:=Lib.hid hm;clear r hg hm
 obtain ⟨n,hnL⟩:∃n,n=nw en:=⟨_,rfl⟩
 rw [<- hnL]at g1 hn hq0 hq1 hq2
 have hnb:n<=1000:=by subst hnL;unfold nw;omega
 have HN:=Lib.hid hnL;clear hnL
 go_wp2
 have i0:(0:Int)<=(st:Int)/64/\(st:Int)/64<n:=by omega
 refine wp_region_quiet_tail 12 (by kernel_rfl) (by kernel_rfl) ?_
 simp only [List.take_succ_cons,List.take_zero,List.drop_succ_cons,List.drop_zero]
 repeat (go_big_quiet_step ((go_at_call 99;exact Calls.quiet_of_same (wordsIndex_c _ _ (by omega)))))
 refine wpQuiet_nil ?_
 intro _ ⟨nq,hw'⟩
 subst hw'
 have i1:¬st/64=c:=by omega
 go_wp2
 have r2:=(R.out.drewN nq).set (st/64) (g (st/64)^^^ ~~~ (BitVec.allOnes 64<<<(st%64)))
 have fr2:Fr (Own b (.slice (some ⟨s,0,none⟩) (nw en) c)) w1 ((w1.drewN nq).setCell ⟨s,st/64,none⟩ (WV (g (st/64)^^^ ~~~ (BitVec.allOnes 64<<<(st%64))))):=((Fr.refl _ _).drewN _).setCell (.inl (.inr rfl)) _
 rw [all_shl,wn_max,wn_xor]
 generalize (w1.drewN nq).setCell ⟨s,st/64,none⟩ (WV (g (st/64)^^^ ~~~ (BitVec.allOnes 64<<<(st%64))))=w2 at*
 have R2:=Lib.hid r2;have F2:=Lib.hid fr2
 clear r2 fr2 g1 c0 f0
 go_loopw [53] (fun i wr=>∃k:Nat,k<=en/64-st/64/\i= .int .i64 k/\RS wr b s en c (fun j=>if st/64<=j/\j<st/64+k then ~~~ (if j=st/64 then g (st/64)^^^ ~~~ (BitVec.allOnes 64<<<(st%64)) else g j) else (if j=st/64 then g (st/64)^^^ ~~~ (BitVec.allOnes 64<<<(st%64)) else g j))/\Fr (· =s) w2 wr) (fun i _=>(en/64-st/64)-(intOf i).toNat)
 case atStart=>exact ⟨0,by omega,rfl,R2.out.congr (fun j _=>(if_neg (show ¬(st/64<=j/\j<st/64+0) by omega)).symm),Fr.refl _ _⟩
 case round=>
  obtain ⟨k,hk,rfl,hr,hfr⟩:=hrel
  have HF:=Lib.hid hfr
  have HR:=Lib.hid hr
  have g1:=hr.h1
  rw [<- HN.out]at g1
  by_cases hlt:k<en/64-st/64
  ·have h2:=hr.at (i:=st/64+k) (by rw [<- HN.out];omega)
   have hf:=hr.fr (st/64+k)
   have e3:¬(st/64<=st/64+k/\st/64+k<st/64+k):=by omega
   rw [if_neg e3]at h2
   generalize hX:(if st/64+k=st/64 then g (st/64)^^^ ~~~ (BitVec.allOnes 64<<<(st%64)) else g (st/64+k))=X at h2
   have HX:=Lib.hid hX
   clear hr hfr hX
   go_wp2
   have i3:(0:Int)<=(st:Int)/64+k/\(st:Int)/64+k<n:=by omega
   refine wp_region_quiet_tail 17 (by kernel_rfl) (by kernel_rfl) ?_
   simp only [List.take_succ_cons,List.take_zero,List.drop_succ_cons,List.drop_zero]
   repeat (go_big_quiet_step (fail))
   refine wpQuiet_nil ?_
   intro _ ⟨nq2,hw'⟩
   subst hw'
   go_wp2
   go_roundw
   case rel=>
    refine ⟨k+1,by omega,by go_num,?_,(HF.out.drewN _).setCell (.inl rfl) _⟩
    rw [wn_max]
    refine ((HR.out.drewN nq2).set (st/64+k) (~~~ X)).congr (fun j _=>?_)
    by_cases e:j=st/64+k
    ·rw [if_pos e,if_pos (by omega),<- HX.out,e]
    ·rw [if_neg e]
     by_cases e2:st/64<=j/\j<st/64+k
     ·have e3:st/64<=j/\j<st/64+(k+1):=by omega
      rw [if_pos e2,if_pos e3]
     ·have e3:¬(st/64<=j/\j<st/64+(k+1)):=by omega
      rw [if_neg e2,if_neg e3]
   case measure=>simp [intOf];omega
  ·have hkn:k=en/64-st/64:=by omega
   subst hkn
   have rng:∀j,(st/64<=j/\j<st/64+(en/64-st/64))=(st/64<=j/\j<en/64):=fun j=>by apply propext;omega
   simp only [rng]at hr HR
   clear rng
   have done:∀(wf:World) (gf:Nat->BitVec 64),RS wf b s en c gf->Fr (· =s) wr wf->(∀k,k<nw en->∀j,j<64->(gf k).getLsbD j=(((m (64*k+j)^^(decide (k=st/64)&&decide (j<st%64)))^^(decide (st/64<=k)&&decide (k<en/64)))^^(decide (k=en/64)&&decide (j<en%64))))->
     MutA w b v en (fun i=>if st<=i/\i<en then !m i else m i) (.pointer (some ⟨b,0,none⟩)) (.returned (.pointer (some ⟨b,0,none⟩))) wf:=by
    intro wf gf rf ff hgf
    refine ⟨rfl,_,rf.ba (fun k hk=>flip_word st en k m _ hse (hgf k hk)) (fun i hi=>?_),HC.out.trans ⟨(F2.out.trans (HF.out.mono (fun r hr=> .inr (by subst hr;rfl)))).trans (ff.mono (fun r hr=> .inr (by subst hr;rfl))),.inl rfl⟩⟩
    have e3:¬(st<=i/\i<en):=by omega
    rw [if_neg e3];exact HM.out i hi
   have DONE:=Lib.hid done
   have bits0:∀k,k<nw en->∀j,j<64->(if st/64<=k/\k<en/64 then ~~~ (if k=st/64 then g (st/64)^^^ ~~~ (BitVec.allOnes 64<<<(st%64)) else g k) else (if k=st/64 then g (st/64)^^^ ~~~ (BitVec.allOnes 64<<<(st%64)) else g k)).getLsbD j=((m (64*k+j)^^(decide (k=st/64)&&decide (j<st%64)))^^(decide (st/64<=k)&&decide (k<en/64))):=by
    intro k hk j hj
    have hin:(if k=st/64 then g (st/64)^^^ ~~~ (BitVec.allOnes 64<<<(st%64)) else g k).getLsbD j=(m (64*k+j)^^(decide (k=st/64)&&decide (j<st%64))):=by
     by_cases e:k=st/64
     ·rw [if_pos e,<- e,BitVec.getLsbD_xor,BitVec.getLsbD_not,bit_hi _ _ hj,HG.out k hk,getLsbD_pk]
      simp only [hj,decide_true,Bool.true_and]
      congr 1
      rw [Bool.eq_iff_iff];simp
     ·rw [if_neg e,HG.out k hk,getLsbD_pk];simp [hj,e]
    by_cases e:st/64<=k/\k<en/64
    ·rw [if_pos e,BitVec.getLsbD_not,hin]
     simp only [hj,e.1,e.2,decide_true,Bool.true_and,Bool.xor_true]
    ·have:(decide (st/64<=k)&&decide (k<en/64))=false:=by simp;omega
     rw [if_neg e,hin,this,Bool.xor_false]
   have BITS:=Lib.hid bits0
   clear bits0 done hfr
   obtain ⟨z,hz⟩:∃z,z=(64-en%64)%64:=⟨_,rfl⟩
   have hwz:∀w,Calls Tryz.prog 99 #[.int .u64 (IntKind.u64.wrap (-(en:Int)))] w fun r w'=>r= .returned (.int .u64 (z:Int))/\w'=w:=fun w=>by rw [hz];exact wordsIndex_neg en w
   have HW:=Lib.hid hwz;have HZ:=Lib.hid hz
   have hz64:z<64:=by omega
   clear hwz
   by_cases hz0:z=0
   ·have hdz:((z:Int) != 0)=false:=by simp;omega
    have hen0:en%64=0:=by omega
    clear hr hz
    go_wp2_with (first|(go_at_call 99;refine (HW.out _).mono ?_;rintro e w' ⟨rfl,rfl⟩))
    go_ret
    refine DONE.out _ _ HR.out (Fr.refl _ _) (fun k hk j hj=>?_)
    have:(decide (k=en/64)&&decide (j<en%64))=false:=by simp;omega
    rw [BITS.out k hk j hj,this,Bool.xor_false]
   ·have hdz:((z:Int) != 0)=true:=by simp;omega
    have hen0:en%64≠0:=by omega
    clear hz
    have h2:=hr.at (i:=en/64) (by rw [<- HN.out];omega)
    have hf:=hr.fr (en/64)
    have e3:¬(st/64<=en/64/\en/64<en/64):=by omega
    rw [if_neg e3]at h2
    generalize hX:(if en/64=st/64 then g (st/64)^^^ ~~~ (BitVec.allOnes 64<<<(st%64)) else g (en/64))=X at h2
    have HX:=Lib.hid hX
    clear hr hX
    go_wp2_with (first|(go_at_call 99;refine (HW.out _).mono ?_;rintro e w' ⟨rfl,rfl⟩))
    have i4:(0:Int)<=(en:Int)/64/\(en:Int)/64<n:=by omega
    refine wp_region_quiet_tail 11 (by kernel_rfl) (by kernel_rfl) ?_
    simp only [List.take_succ_cons,List.take_zero,List.drop_succ_cons,List.drop_zero]
    repeat (go_big_quiet_step ((go_at_call 99;exact Calls.quiet_of_same (wordsIndex_c _ _ (by omega)))))
    refine wpQuiet_nil ?_
    intro _ ⟨nq3,hw'⟩
    subst hw'
    go_wp2
    go_ret
    rw [all_shr,wn_xor]
    refine DONE.out _ _ ((HR.out.drewN nq3).set (en/64) _) (((Fr.refl (· =s) _).drewN _).setCell (.inl rfl) _) (fun k hk j hj=>?_)
    by_cases e:k=en/64
    ·have hb:=BITS.out k hk j hj
     have e3:¬(st/64<=k/\k<en/64):=by omega
     rw [if_neg e3]at hb
     rw [if_pos e,<- HX.out,<- e,BitVec.getLsbD_xor,hb,bit_lo]
     have d2:(decide (st/64<=k)&&decide (k<en/64))=false:=by simp;omega
     rw [show decide (z%64+j<64)=decide (j<en%64) from decide_eq_decide.2 (by have:=HZ.out;omega),d2]
     simp
    ·have:(decide (k=en/64)&&decide (j<en%64))=false:=by simp [e]
     rw [if_neg e,BITS.out k hk j hj,this,Bool.xor_false]
theorem make25(l c:Int)(h0:0<=l)(hlc:l<=c)(hc:c<=1000000)(w:World):
  (Instr.makeSlice 25 (.int .i64 l) (.int .i64 c)).run Tryz.prog w= .ok (.slice (some ⟨w.heap.size,0,none⟩) l.toNat c.toNat) (w.alloc (.cells (madeCells #[.bool false] c.toNat) 4)):=by
 obtain ⟨i,hi,hzz⟩:=Option.map_eq_some_iff.1 info4
 simp only [Prod.mk.injEq]at hzz
 obtain ⟨hz,hs,hb⟩:=hzz
 have hr:=run_make (P:=Tryz.prog) w 25 4 i _ Tryz.underlying25 hi hz .i64 .i64 l c h0 hlc (by rw [hb];omega) (by omega)
 simpa [hs,Value.cells] using hr
theorem rowLst{w:World}{g c n:Nat}{e:TypeId}{f:Nat->Value}(h:w.rowIs g e c f)(hn:n<=c)(hc:c<=1000000):Lst w e 1 (.slice (some ⟨g,0,none⟩) n c) n ((List.range n).map f):=by
 obtain ⟨cur,hg,hs,hf⟩:=h
 refine ⟨by simp,.inr ⟨g,c,cur,rfl,Nat.zero_le _,hg,hn,by simp only [maxLen];omega,by simpa using hs,?_⟩⟩
 apply List.ext_getElem?
 intro i
 rw [Nat.mul_one,List.getElem?_take]
 by_cases hi:i<n
 ·have:=hf i (by omega)
  simp [hi,this]
 ·simp [hi]
theorem has_m(v:Value)(l:List Bool)(n:Nat)(x:Bool)(hx:mOf l n=x)(w:World)(hv:BL w v l):
  Calls Tryz.prog 18 #[v,.int .i64 (n:Int)] w (fun e w'=>e= .returned (.bool x)/\w'=w):=by
 rw [<- hx];exact has_c v l n w hv
def joinL(a b:List Bool)(tb:Bool->Bool->Bool)(n:Nat):List Bool:=(List.range n).map (fun i=>tb (mOf a i) (mOf b i))
theorem joinL_length(a b:List Bool)(tb:Bool->Bool->Bool)(n:Nat):(joinL a b tb n).length=n:=by simp [joinL]
def tabV(tb:Bool->Bool->Bool):Value:= .agg #[.bool (tb false false),.bool (tb false true),.bool (tb true false),.bool (tb true true)]
theorem joined_c(va vb:Value)(a b:List Bool)(tb:Bool->Bool->Bool)(n:Nat)(w:World)(ha:BL w va a)(hb:BL w vb b)(hn:n<=10000):
  Calls Tryz.prog 21 #[va,vb,tabV tb,.int .i64 (n:Int)] w (NewBL w (joinL a b tb n)):=by
 have hmk:=make25 (n:Int) (n:Int) (by omega) (by omega) (by omega)
 rw [Int.toNat_natCast]at hmk
 obtain ⟨t0,h0⟩:∃t0,t0=tb false false:=⟨_,rfl⟩
 obtain ⟨t1,h1⟩:∃t0,t0=tb false true:=⟨_,rfl⟩
 obtain ⟨t2,h2⟩:∃t0,t0=tb true false:=⟨_,rfl⟩
 obtain ⟨t3,h3⟩:∃t0,t0=tb true true:=⟨_,rfl⟩
 unfold tabV
 rw [<- h0,<- h1,<- h2,<- h3]
 have HA:=Lib.hid ha;have HB:=Lib.hid hb;have H0:=Lib.hid h0;have H1:=Lib.hid h1;have H2:=Lib.hid h2;have H3:=Lib.hid h3
 clear ha hb h0 h1 h2 h3
 go_enter Tryz.func21,Tryz.ntmps21
 go_wp2
 have hrow0:(((w.alloc (.cells #[.bool t0,.bool t1,.bool t2,.bool t3] 61)).alloc (.cells (madeCells #[.bool false] n) 4))).rowIs (w.heap.size+1) 4 n (fun _=> .bool false):=by
  have:=World.rowIs_made (w.alloc (.cells #[.bool t0,.bool t1,.bool t2,.bool t3] 61)) (.bool false) n 4
  simpa using this
 have hfr0:Fr (fun _=>False) w (((w.alloc (.cells #[.bool t0,.bool t1,.bool t2,.bool t3] 61)).alloc (.cells (madeCells #[.bool false] n) 4))):=((Fr.refl _ w).alloc _).alloc _
 have hb0:(((w.alloc (.cells #[.bool t0,.bool t1,.bool t2,.bool t3] 61)).alloc (.cells (madeCells #[.bool false] n) 4))).heap[w.heap.size]? =some (.cells #[.bool t0,.bool t1,.bool t2,.bool t3] 61 (0,0)):=(hp_alloc _ _ (by simp)).trans (hp_new w _)
 generalize (w.alloc (.cells #[.bool t0,.bool t1,.bool t2,.bool t3] 61)).alloc (.cells (madeCells #[.bool false] n) 4)=w1 at*
 have HR0:=Lib.hid hrow0;have HF0:=Lib.hid hfr0;have HB0:=Lib.hid hb0;clear hrow0 hfr0 hb0 hmk
 go_loopw [16] (fun i wr=>∃k:Nat,k<=n/\i= .int .i64 (k:Int)/\wr.rowIs (w.heap.size+1) 4 n (fun j=> .bool (if j<k then tb (mOf a j) (mOf b j) else false))/\Fr (· =w.heap.size+1) w1 wr) (fun i _=>n-(intOf i).toNat)
 case atStart=>exact ⟨0,by omega,rfl,by simpa using HR0.out,Fr.refl _ _⟩
 case round=>
  obtain ⟨k,hk,rfl,hrow,hfr⟩:=hrel
  have hall:Fr (fun _=>False) w wr:=HF0.out.trans' hfr (fun r hr=> .inr (by omega))
  have HR:=Lib.hid hrow;have HF:=Lib.hid hfr;have HAL:=Lib.hid hall
  by_cases hlt:k<n
  ·have hbk:=(hfr.keep w.heap.size (hp_lt HB0.out) (by omega)).trans HB0.out
   have c0:=hp_cell hbk 0 (v:= .bool t0) rfl
   have c1:=hp_cell hbk 1 (v:= .bool t1) rfl
   have c2:=hp_cell hbk 2 (v:= .bool t2) rfl
   have c3:=hp_cell hbk 3 (v:= .bool t3) rfl
   have hcell:=hrow.cell (i:=k) (by omega)
   have hfz:=hrow.frozen k
   clear hrow hfr hall hbk
   have step:∀x y t,mOf a k=x->mOf b k=y->t=tb x y->(wr.setCell ⟨w.heap.size+1,k,none⟩ (.bool t)).rowIs (w.heap.size+1) 4 n (fun j=> .bool (if j<k+1 then tb (mOf a j) (mOf b j) else false)):=by
    intro x y t hx hy ht
    refine (HR.out.set k _).congr (fun j _=>?_)
    by_cases e:j=k
    ·subst e;rw [if_pos rfl,if_pos (by omega),hx,hy,ht]
    ·rw [if_neg e]
     by_cases e2:j<k
     ·rw [if_pos e2,if_pos (by omega)]
     ·rw [if_neg e2,if_neg (by omega)]
   have ST:=Lib.hid step;clear step
   cases hx:mOf a k
   ·cases hy:mOf b k
    ·have hA:=has_m va a k false hx;have hB:=has_m vb b k false hy
     have HA2:=Lib.hid hA;have HB2:=Lib.hid hB;have HX:=Lib.hid hx;have HY:=Lib.hid hy;clear hA hB hx hy
     go_wp2_with (go_at_call 18;refine (HA2.out wr (HA.out.keep HAL.out (fun _ _ h=>h))).mono ?_;rintro e w3 ⟨rfl,rfl⟩;refine Hid.out ?_)
     refine Lib.hid ?_
     go_wp2_with (go_at_call 18;refine (HB2.out _ (HB.out.keep HAL.out (fun _ _ h=>h))).mono ?_;rintro e w4 ⟨rfl,rfl⟩)
     go_roundw
     case rel=>exact ⟨k+1,by omega,by go_num,ST.out false false _ HX.out HY.out H0.out,HF.out.setCell (.inl rfl) _⟩
     case measure=>simp [intOf];omega
    ·have hA:=has_m va a k false hx;have hB:=has_m vb b k true hy
     have HA2:=Lib.hid hA;have HB2:=Lib.hid hB;have HX:=Lib.hid hx;have HY:=Lib.hid hy;clear hA hB hx hy
     go_wp2_with (go_at_call 18;refine (HA2.out wr (HA.out.keep HAL.out (fun _ _ h=>h))).mono ?_;rintro e w3 ⟨rfl,rfl⟩;refine Hid.out ?_)
     refine Lib.hid ?_
     go_wp2_with (go_at_call 18;refine (HB2.out _ (HB.out.keep HAL.out (fun _ _ h=>h))).mono ?_;rintro e w4 ⟨rfl,rfl⟩)
     go_roundw
     case rel=>exact ⟨k+1,by omega,by go_num,ST.out false true _ HX.out HY.out H1.out,HF.out.setCell (.inl rfl) _⟩
     case measure=>simp [intOf];omega
   ·cases hy:mOf b k
    ·have hA:=has_m va a k true hx;have hB:=has_m vb b k false hy
     have HA2:=Lib.hid hA;have HB2:=Lib.hid hB;have HX:=Lib.hid hx;have HY:=Lib.hid hy;clear hA hB hx hy
     go_wp2_with (go_at_call 18;refine (HA2.out wr (HA.out.keep HAL.out (fun _ _ h=>h))).mono ?_;rintro e w3 ⟨rfl,rfl⟩;refine Hid.out ?_)
     refine Lib.hid ?_
     go_wp2_with (go_at_call 18;refine (HB2.out _ (HB.out.keep HAL.out (fun _ _ h=>h))).mono ?_;rintro e w4 ⟨rfl,rfl⟩)
     go_roundw
     case rel=>exact ⟨k+1,by omega,by go_num,ST.out true false _ HX.out HY.out H2.out,HF.out.setCell (.inl rfl) _⟩
     case measure=>simp [intOf];omega
    ·have hA:=has_m va a k true hx;have hB:=has_m vb b k true hy
     have HA2:=Lib.hid hA;have HB2:=Lib.hid hB;have HX:=Lib.hid hx;have HY:=Lib.hid hy;clear hA hB hx hy
     go_wp2_with (go_at_call 18;refine (HA2.out wr (HA.out.keep HAL.out (fun _ _ h=>h))).mono ?_;rintro e w3 ⟨rfl,rfl⟩;refine Hid.out ?_)
     refine Lib.hid ?_
     go_wp2_with (go_at_call 18;refine (HB2.out _ (HB.out.keep HAL.out (fun _ _ h=>h))).mono ?_;rintro e w4 ⟨rfl,rfl⟩)
     go_roundw
     case rel=>exact ⟨k+1,by omega,by go_num,ST.out true true _ HX.out HY.out H3.out,HF.out.setCell (.inl rfl) _⟩
     case measure=>simp [intOf];omega
  ·have hkk:k=n:=by omega
   subst hkk
   clear hrow hfr hall
   go_wp2
   go_ret
   have hR:=rowLst HR.out (Nat.le_refl _) (by omega)
   unfold NewBL
   rw [joinL_length]
   refine ⟨_,rfl,?_,HAL.out,by simp [Value.ownBlock];try omega⟩
   have e:(joinL a b tb k).map Value.bool=(List.range k).map (fun j=>Value.bool (if j<k then tb (mOf a j) (mOf b j) else false)):=by
    unfold joinL
    rw [List.map_map]
    apply List.map_congr_left
    intro i hi
    have:=List.mem_range.1 hi
    simp [this]
   rw [e];exact hR
end Go.Proofs.YtobdfhlmipcjbaaGreatDoor
