/- How many numbers up to one: Rank; sixty-four numbers from one on: GetWord64AtBit. No condition beyond the set's own. spec.Ask: its closures; the facts that each question begins with, and those that it ends with. Conditions: places of four, lengths of at most 6,000. What is read of two sets: how many numbers they have together, in common, in one alone. No condition beyond the sets' own. Numbers packed and spread: plain laws, word by word. No condition. InPlaceDifference. Conditions: the two sets are one or share no block. -/
import Derived.Test.YtobdfhlmipcjbaaGreatDoorG02
import Derived.Test.YtobdfhlmipcjbaaGreatDoorG03
import Derived.Test.YtobdfhlmipcjbaaGreatDoorG04
import Derived.Test.YtobdfhlmipcjbaaGreatDoorG05
set_option linter.unusedVariables false
set_option linter.unusedSimpArgs false
set_option maxHeartbeats 2000000
set_option maxRecDepth 100000
namespace Go.Proofs.YtobdfhlmipcjbaaGreatDoor
open Go.RowKit Pop
def cntB(x:BitVec 64)(t:Nat):Nat:=(List.range t).countP (fun j=>x.getLsbD j)
theorem cntB_add(x:BitVec 64)(a t:Nat):cntB x (a+t)=cntB x a+(List.range t).countP (fun j=>x.getLsbD (a+j)):=by
 unfold cntB
 rw [List.range_add,List.countP_append,List.countP_map];rfl
theorem cntB_shl(x:BitVec 64)(k:Nat)(hk:k<64):pc (x<<<(63-k))=cntB x (k+1):=by
 show cntB (x<<<(63-k)) 64=_
 have h64:cntB (x<<<(63-k)) 64=cntB (x<<<(63-k)) ((63-k)+(k+1)):=congrArg _ (by omega)
 rw [h64,cntB_add]
 have h1:cntB (x<<<(63-k)) (63-k)=0:=by
  unfold cntB
  rw [List.countP_eq_zero]
  intro j hj
  have:=List.mem_range.1 hj
  simp [BitVec.getLsbD_shiftLeft,this]
 rw [h1,Nat.zero_add]
 unfold cntB
 apply List.countP_congr
 intro j hj
 have:=List.mem_range.1 hj
 rw [BitVec.getLsbD_shiftLeft,show 63-k+j-(63-k)=j by omega]
 have d1:decide (63-k+j<64)=true:=by simp;omega
 have d2:decide (63-k+j<63-k)=false:=by simp
 rw [d1,d2];simp
theorem cntB_pk(m:Nat->Bool)(p t:Nat)(ht:t<=64):cntN m (64*p)+cntB (pk m p) t=cntN m (64*p+t):=by
 rw [cntN_add]
 congr 1
 unfold cntB
 apply List.countP_congr
 intro j hj
 have:=List.mem_range.1 hj
 rw [getLsbD_pk]
 have d1:decide (j<64)=true:=by simp;omega
 rw [d1];simp
theorem rank_c(b i L:Nat)(v:Value)(m:Nat->Bool)(w:World)(hi:i<=50000)(h:BA w b v L m):
  Calls Tryz.prog 94 #[.pointer (some ⟨b,0,none⟩),.int .u64 (i:Int)] w fun e w'=>e= .returned (.int .u64 ((cntN m (i+1):Nat):Int))/\w'=w:=by
 obtain ⟨h0,hl,hm,A,s,c,h1,hc,hA,hw⟩:=h.view2
 have hn:=nw_bound hl
 have hout:∀j,64*nw L<=j->m j=false:=fun j hj=>hm j (by unfold nw at hj;omega)
 generalize nw L=n at*
 obtain ⟨p,hp⟩:∃p,i/64=p:=⟨_,rfl⟩
 obtain ⟨k,hk⟩:∃k,i%64=k:=⟨_,rfl⟩
 have hpi:(i:Int)/64=(p:Int):=by omega
 have hik:i=64*p+k:=by omega
 have hk64:k<64:=by omega
 have hp2:p<=1000:=by omega
 have e1:bits .and .u64 (i:Int) 63=(k:Int):=by rw [and63 i (by omega),hk]
 obtain ⟨t,ht⟩:∃t,t=min p n:=⟨_,rfl⟩
 have htn:t<=n:=by omega
 have HW:=Lib.hid hw;have HIK:=Lib.hid hik;have HO:=Lib.hid hout;have HA:=Lib.hid hA
 clear hm hw hik h hA h0 hout hk hp
 have split:(n<p/\t=n)\/(n=p/\t=p)\/(p<n/\t=p):=by omega
 have fin0:t=n->n<=p->cntW (pk m) t=cntN m (i+1):=fun h1 h2=>by
  rw [cntW_pk,h1]
  exact (cntN_past HO.out (by have:=HIK.out;omega)).symm
 have FIN0:=Lib.hid fin0;clear fin0 ht
 rcases split with ⟨hcs,hst⟩|⟨hcs,hst⟩|⟨hcs,hst⟩
 ·subst hst
  have d0:decide ((t:Int)<(p:Int))=true:=by simp;omega
  go_enter Tryz.func94,Tryz.ntmps94
  go_wp2
  clear d0 hpi e1
  go_loopw [4,7] (fun a q wr=>∃k:Nat,k<=t/\q= .int .i64 (k:Int)/\a= .int .u64 ((cntW (pk m) k:Nat):Int)/\wr=w) (fun _ q _=>t-(intOf q).toNat)
  case atStart=>exact ⟨0,by omega,rfl,rfl,rfl⟩
  case round=>
   obtain ⟨q,hq,rfl,rfl,rfl⟩:=hrel
   have hle:=cntW_le (pk m) q
   by_cases hlt:q<t
   ·obtain rfl:=HA.out (by omega)
    have hx:=HW.out q hlt
    have p0:=pc_le (pk m q)
    have b1:cntW (pk m) q<=64000:=by omega
    clear hle
    by_cases hz:pk m q=0
    ·have hpz:pc (pk m q)=0:=(pc_zero_iff _).2 hz
     rw [hz]at hx
     have hz0:wn (0:BitVec 64)=0:=rfl
     have HPZ:=Lib.hid hpz;clear hz hpz
     go_wp2
     go_roundw
     case rel=>exact ⟨q+1,by omega,by go_num,by show _=Value.int .u64 ((cntW (pk m) q+pc (pk m q):Nat):Int);rw [HPZ.out];rfl,by first|rfl|trivial⟩
     case measure=>simp [intOf];omega
    ·have hz0:¬wn (pk m q)=0:=by rw [wn_eq_zero];exact hz
     clear hz
     go_wp2_with (go_at_call 125;refine (ones_c _ _).mono ?_;rintro e w' ⟨rfl,rfl⟩)
     go_roundw
     case rel=>exact ⟨q+1,by omega,by go_num,by show _=Value.int .u64 ((cntW (pk m) q+pc (pk m q):Nat):Int);go_num,by first|rfl|trivial⟩
     case measure=>simp [intOf];omega
   ·have hqt:q=t:=by omega
    subst hqt
    have hf:=FIN0.out (by first|rfl|trivial) (by omega)
    have HF:=Lib.hid hf;clear hf hle
    go_wp2
    go_ret
    rw [<- HF.out]
    exact ⟨rfl,rfl⟩
 ·subst hcs
  subst hst
  go_enter Tryz.func94,Tryz.ntmps94
  go_wp2
  clear hpi e1
  go_loopw [4,7] (fun a q wr=>∃k:Nat,k<=t/\q= .int .i64 (k:Int)/\a= .int .u64 ((cntW (pk m) k:Nat):Int)/\wr=w) (fun _ q _=>t-(intOf q).toNat)
  case atStart=>exact ⟨0,by omega,rfl,rfl,rfl⟩
  case round=>
   obtain ⟨q,hq,rfl,rfl,rfl⟩:=hrel
   have hle:=cntW_le (pk m) q
   by_cases hlt:q<t
   ·obtain rfl:=HA.out (by omega)
    have hx:=HW.out q hlt
    have p0:=pc_le (pk m q)
    have b1:cntW (pk m) q<=64000:=by omega
    clear hle
    by_cases hz:pk m q=0
    ·have hpz:pc (pk m q)=0:=(pc_zero_iff _).2 hz
     rw [hz]at hx
     have hz0:wn (0:BitVec 64)=0:=rfl
     have HPZ:=Lib.hid hpz;clear hz hpz
     go_wp2
     go_roundw
     case rel=>exact ⟨q+1,by omega,by go_num,by show _=Value.int .u64 ((cntW (pk m) q+pc (pk m q):Nat):Int);rw [HPZ.out];rfl,by first|rfl|trivial⟩
     case measure=>simp [intOf];omega
    ·have hz0:¬wn (pk m q)=0:=by rw [wn_eq_zero];exact hz
     clear hz
     go_wp2_with (go_at_call 125;refine (ones_c _ _).mono ?_;rintro e w' ⟨rfl,rfl⟩)
     go_roundw
     case rel=>exact ⟨q+1,by omega,by go_num,by show _=Value.int .u64 ((cntW (pk m) q+pc (pk m q):Nat):Int);go_num,by first|rfl|trivial⟩
     case measure=>simp [intOf];omega
   ·have hqt:q=t:=by omega
    subst hqt
    have hf:=FIN0.out (by first|rfl|trivial) (by omega)
    have HF:=Lib.hid hf;clear hf hle
    go_wp2
    go_ret
    rw [<- HF.out]
    exact ⟨rfl,rfl⟩
 ·subst hst
  have d0:decide ((n:Int)<(t:Int))=false:=by simp;omega
  have d1:decide ((t:Int)<(n:Int))=true:=by simp;omega
  obtain rfl:=HA.out (by omega)
  have hxt:=HW.out t hcs
  obtain ⟨y,hy⟩:∃y,y=pk m t<<<(63-k):=⟨_,rfl⟩
  have j1:((63:Int)-(k:Int)).toNat=63-k:=by omega
  have j2:(0:Int)<=(63:Int)-(k:Int)/\(63:Int)-(k:Int)<=63:=by omega
  have e2:IntKind.u64.wrap (wn (pk m t)*(2:Int)^(63-k))=wn y:=by rw [hy];exact wn_shl _ _
  have hsum:cntW (pk m) t+pc y=cntN m (i+1):=by
   rw [hy,cntB_shl _ _ hk64,cntW_pk,cntB_pk _ _ _ (by omega),HIK.out,Nat.add_assoc]
  have hcb:=cntW_le (pk m) t
  have hpy:=pc_le y
  have HSUM:=Lib.hid hsum;clear hsum hy
  go_enter Tryz.func94,Tryz.ntmps94
  go_wp2
  go_loopw [4,7] (fun a q wr=>∃k:Nat,k<=t/\q= .int .i64 (k:Int)/\a= .int .u64 ((cntW (pk m) k:Nat):Int)/\wr=w) (fun _ q _=>t-(intOf q).toNat)
  case atStart=>exact ⟨0,by omega,rfl,rfl,rfl⟩
  case round=>
   obtain ⟨q,hq,rfl,rfl,rfl⟩:=hrel
   have hle:=cntW_le (pk m) q
   by_cases hlt:q<t
   ·have hqn:q<n:=by omega
    have hx:=HW.out q hqn
    have p0:=pc_le (pk m q)
    have b1:cntW (pk m) q<=64000:=by omega
    clear hle hcb hpy e2 j1 j2
    by_cases hz:pk m q=0
    ·have hpz:pc (pk m q)=0:=(pc_zero_iff _).2 hz
     rw [hz]at hx
     have hz0:wn (0:BitVec 64)=0:=rfl
     have HPZ:=Lib.hid hpz;clear hz hpz
     go_wp2
     go_roundw
     case rel=>exact ⟨q+1,by omega,by go_num,by show _=Value.int .u64 ((cntW (pk m) q+pc (pk m q):Nat):Int);rw [HPZ.out];rfl,by first|rfl|trivial⟩
     case measure=>simp [intOf];omega
    ·have hz0:¬wn (pk m q)=0:=by rw [wn_eq_zero];exact hz
     clear hz
     go_wp2_with (go_at_call 125;refine (ones_c _ _).mono ?_;rintro e w' ⟨rfl,rfl⟩)
     go_roundw
     case rel=>exact ⟨q+1,by omega,by go_num,by show _=Value.int .u64 ((cntW (pk m) q+pc (pk m q):Nat):Int);go_num,by first|rfl|trivial⟩
     case measure=>simp [intOf];omega
   ·have hqt:q=t:=by omega
    subst hqt
    have b1:cntW (pk m) q<=64000:=by omega
    clear hle hcb
    go_wp2_with (go_at_call 125;refine (ones_c y _).mono ?_;rintro e w' ⟨rfl,rfl⟩)
    go_ret
    rw [<- HSUM.out]
    exact ⟨by go_num,rfl⟩
def pkAt(m:Nat->Bool)(i:Nat):BitVec 64:=pk (fun j=>m (i+j)) 0
theorem getLsbD_pkAt(m:Nat->Bool)(i j:Nat):(pkAt m i).getLsbD j=(decide (j<64)&&m (i+j)):=by
 unfold pkAt
 rw [getLsbD_pk]
 show (_&&m (i+(64*0+j)))=_
 rw [Nat.mul_zero,Nat.zero_add]
theorem pkAt_two(m:Nat->Bool)(p k:Nat)(hk:k<64):(pk m p>>>k)|||(pk m (p+1)<<<(64-k))=pkAt m (64*p+k):=by
 apply BitVec.eq_of_getLsbD_eq
 intro j hj
 rw [BitVec.getLsbD_or,BitVec.getLsbD_ushiftRight,BitVec.getLsbD_shiftLeft,getLsbD_pk,getLsbD_pk,getLsbD_pkAt]
 rcases Nat.lt_or_ge (k+j) 64 with h|h
 ·have d1:decide (k+j<64)=true:=by simpa using h
  have d2:decide (j<64-k)=true:=by simp;omega
  rw [d1,d2,Nat.add_assoc];simp [hj]
 ·have d1:decide (k+j<64)=false:=by simp;omega
  have d2:decide (j<64-k)=false:=by simp;omega
  have d3:decide (j-(64-k)<64)=true:=by simp;omega
  rw [d1,d2,d3,show 64*(p+1)+(j-(64-k))=64*p+k+j by omega];simp [hj]
theorem word64_c(b i L:Nat)(v:Value)(m:Nat->Bool)(w:World)(hi:i<=50000)(h:BA w b v L m):
  Calls Tryz.prog 97 #[.pointer (some ⟨b,0,none⟩),.int .u64 (i:Int)] w fun e w'=>e= .returned (WV (pkAt m i))/\w'=w:=by
 obtain ⟨h0,hl,hm,A,s,c,h1,hc,hA,hw⟩:=h.view2
 have hn:=nw_bound hl
 have hout:∀j,nw L<=j->pk m j=0:=fun j hj=>pk_out hm hj
 generalize nw L=n at*
 obtain ⟨p,hp⟩:∃p,i/64=p:=⟨_,rfl⟩
 obtain ⟨k,hk⟩:∃k,i%64=k:=⟨_,rfl⟩
 have hpi:(i:Int)/64=(p:Int):=by omega
 have hik:i=64*p+k:=by omega
 have hk64:k<64:=by omega
 have hp2:p<=1000:=by omega
 have hwi:∀w,Calls Tryz.prog 99 #[.int .u64 (i:Int)] w fun e w'=>e= .returned (.int .u64 (k:Int))/\w'=w:=fun w=>by have h:=wordsIndex_c i w (by omega);rwa [hk]at h
 have hres:=pkAt_two m p k hk64
 rw [<- hik]at hres
 rw [<- hres]
 have HWI:=Lib.hid hwi;have HW:=Lib.hid hw
 obtain ⟨x,hx⟩:∃x,x=pk m p>>>k:=⟨_,rfl⟩
 obtain ⟨y,hy⟩:∃y,y=pk m (p+1)<<<(64-k):=⟨_,rfl⟩
 have e1:wn (pk m p)/(2:Int)^k=wn x:=by rw [hx];exact wn_shr _ _
 have e2:IntKind.u64.wrap (wn (pk m (p+1))*(2:Int)^(64-k))=wn y:=by rw [hy];exact wn_shl _ _
 have e3:bits .or .u64 (wn x) (wn y)=wn (x|||y):=wn_or _ _
 have j1:((64:Int)-(k:Int)).toNat=64-k:=by omega
 have j2:(0:Int)<=(64:Int)-(k:Int)/\(64:Int)-(k:Int)<=64:=by omega
 have hx0:n<=p->x=0:=fun h=>by rw [hx,hout p h];simp
 have hy0:n<=p+1->y=0:=fun h=>by rw [hy,hout (p+1) h];simp
 rw [<- hx,<- hy]
 clear hwi hw hik h h0 hm hl hp hk hres hx hy hout
 rcases Nat.lt_or_ge (p+1) n with hq|hq
 ·have hlt:p<n:=by omega
  obtain rfl:=hA (by omega)
  have d0:decide ((p:Int)<(n:Int))=true:=by simp;omega
  have d1:decide ((p:Int)+1<(n:Int))=true:=by simp;omega
  have i1:(0:Int)<=(p:Int)+1/\(p:Int)+1<n:=by omega
  have i2:((p:Int)+1).toNat=p+1:=by omega
  have c0:=HW.out p hlt
  have c1:=HW.out (p+1) hq
  clear hA hx0 hy0
  go_enter Tryz.func97,Tryz.ntmps97
  go_wp2_with (go_at_call 99;refine (HWI.out _).mono ?_;rintro e w' ⟨rfl,rfl⟩)
  go_ret
  exact ⟨rfl,rfl⟩
 ·have hyz:=hy0 hq
  subst hyz
  have d1:decide ((p:Int)+1<(n:Int))=false:=by simp;omega
  have hz0:wn (0:BitVec 64)=0:=rfl
  rcases Nat.lt_or_ge p n with hlt|hlt
  ·obtain rfl:=hA (by omega)
   have d0:decide ((p:Int)<(n:Int))=true:=by simp;omega
   have c0:=HW.out p hlt
   clear hA hx0 hy0 e2
   go_enter Tryz.func97,Tryz.ntmps97
   go_wp2_with (go_at_call 99;refine (HWI.out _).mono ?_;rintro e w' ⟨rfl,rfl⟩)
   go_ret
   refine ⟨ret_arg ?_,rfl⟩
   show Value.int .u64 (bits .or .u64 (wn x) (wn 0))=_
   rw [wn_or]
  ·have hxz:=hx0 hlt
   subst hxz
   have d0:decide ((p:Int)<(n:Int))=false:=by simp;omega
   clear hA hx0 hy0 e2 e1
   go_enter Tryz.func97,Tryz.ntmps97
   go_wp2_with (go_at_call 99;refine (HWI.out _).mono ?_;rintro e w' ⟨rfl,rfl⟩)
   go_ret
   refine ⟨ret_arg ?_,rfl⟩
   show Value.int .u64 (bits .or .u64 (wn 0) (wn 0))=_
   rw [wn_or]
end Go.Proofs.YtobdfhlmipcjbaaGreatDoor
namespace Go.Proofs.YtobdfhlmipcjbaaGreatDoor
open Go.RowKit
abbrev nilV:Value:= .slice none 0 0
theorem noOwn(k:Nat):∀r,nilV.ownBlock=some r->k<=r:=by intro r hr;cases hr
theorem askNum_c(n:Int)(w:World):
  Calls Tryz.prog 22 #[.int .i64 n] w (fun e w'=>e= .returned (.tuple #[.agg #[.bool false,.int .i64 n,.int .u64 0,.string ByteArray.empty,nilV,nilV],.bool true])/\Fr (fun _=>False) w w'):=by
 go_enter Tryz.func22,Tryz.ntmps22
 go_wp2
 simp [bodyPost,results,Tryz.f22,go_sem]
 exact ⟨rfl,(Fr.refl _ _).alloc _⟩
theorem askIs_c(b:Bool)(w:World):
  Calls Tryz.prog 23 #[.bool b] w (fun e w'=>e= .returned (.tuple #[.agg #[.bool b,.int .i64 0,.int .u64 0,.string ByteArray.empty,nilV,nilV],.bool true])/\Fr (fun _=>False) w w'):=by
 go_enter Tryz.func23,Tryz.ntmps23
 go_wp2
 simp [bodyPost,results,Tryz.f23,go_sem]
 exact ⟨rfl,(Fr.refl _ _).alloc _⟩
def SetsV(w:World)(vs:Nat->Value)(ls:Nat->List Bool):Prop:=∀i,i<4->BL w (vs i) (ls i)/\(ls i).length<=6000
def setsV(vs:Nat->Value):Value:= .agg #[vs 0,vs 1,vs 2,vs 3]
def AskP(w:World)(is:Bool)(n:Int)(wd:BitVec 64)(s:ByteArray)(xs bs:List Value)(e:Ending)(w':World):Prop:=
 ∃l b,e= .returned (.tuple #[ansV is n wd s l b,.bool true])/\Lst w' 29 1 l xs.length xs/\Lst w' 5 1 b bs.length bs/\(∀r,l.ownBlock=some r->w.heap.size<=r)/\(∀r,b.ownBlock=some r->w.heap.size<=r)/\Fr (fun _=>False) w w'
def AskN(w:World)(e:Ending)(w':World):Prop:=∃z,e= .returned (.tuple #[.agg #[.bool false,.int .i64 0,.int .u64 z,.string { data:= #[] },nilV,nilV],.bool false])/\Fr (fun _=>False) w w'
def bothL(a b:List Bool):List Bool:=joinL a b (fun x y=>x&&y) (min a.length b.length)
def shar(a b:List Bool):Nat:=cntN (mOf (bothL a b)) (bothL a b).length
theorem askIn{w:World}{vs:Nat->Value}{ls:Nat->List Bool}(hs:SetsV w vs ls){a b:Nat}(ha:a<4)(hb:b<4):
  ∃(la lb:Nat) (oa:Option Addr) (ca:Nat) (ob:Option Addr) (cb:Nat),la<=6000/\lb<=6000/\la<=ca/\
   Hid (BL w (.slice oa la ca) (ls a))/\Hid (BL w (.slice ob lb cb) (ls b))/\Hid (la=(ls a).length)/\Hid (lb=(ls b).length)/\Hid (vs a= .slice oa la ca)/\Hid (vs b= .slice ob lb cb):=by
 obtain ⟨oa,ca,ea⟩:=(hs a ha).1.sl
 obtain ⟨ob,cb,eb⟩:=(hs b hb).1.sl
 exact ⟨_,_,oa,ca,ob,cb,(hs a ha).2,(hs b hb).2,(hs a ha).1.cap ea,ea ▸ (hs a ha).1,eb ▸ (hs b hb).1,rfl,rfl,ea,eb⟩
structure AskW(w1 w:World)(op:Int)(fr to n:Nat)(wd:BitVec 64):Prop where
 c0:w1.cell? ⟨w.heap.size,0,none⟩=some (.int .i64 op)
 c4:w1.cell? ⟨w.heap.size,4,none⟩=some (.int .i64 (fr:Int))
 c5:w1.cell? ⟨w.heap.size,5,none⟩=some (.int .i64 (to:Int))
 c6:w1.cell? ⟨w.heap.size,6,none⟩=some (.int .i64 (n:Int))
 p2:w1.heap[w.heap.size+1+1]? =some (.cells #[.bool false,.int .i64 0,.int .u64 0,.string { data:= #[] },.slice none 0 0,.slice none 0 0] 40 (0,0))
 fr_:Fr (fun _=>False) w w1
 size:w1.heap.size=w.heap.size+3
theorem askMid{w:World}{vs:Nat->Value}{a b la lb ca cb:Nat}{oa ob:Option Addr}(op:Int)(c fr to n:Nat)(wd:BitVec 64)(many:Value)(ha:a<4)(hb:b<4)(EA:Hid (vs a= .slice oa la ca))(EB:Hid (vs b= .slice ob lb cb)):
  ∃w1,(((w.alloc (.cells #[.int .i64 op,.int .i64 (a:Int),.int .i64 (b:Int),.int .i64 (c:Int),.int .i64 (fr:Int),.int .i64 (to:Int),.int .i64 (n:Int),WV wd,many] 35)).alloc (.cells #[vs 0,vs 1,vs 2,vs 3] 26)).alloc (.cells #[.bool false,.int .i64 0,.int .u64 0,.string { data:= #[] },.slice none 0 0,.slice none 0 0] 40))=w1/\
   w1.cell? ⟨w.heap.size,0,none⟩=some (.int .i64 op)/\w1.cell? ⟨w.heap.size,1,none⟩=some (.int .i64 (a:Int))/\w1.cell? ⟨w.heap.size,2,none⟩=some (.int .i64 (b:Int))/\w1.cell? ⟨w.heap.size+1,a,none⟩=some (.slice oa la ca)/\w1.cell? ⟨w.heap.size+1,b,none⟩=some (.slice ob lb cb)/\Hid (AskW w1 w op fr to n wd):=by
 have q0:(((w.alloc (.cells #[.int .i64 op,.int .i64 (a:Int),.int .i64 (b:Int),.int .i64 (c:Int),.int .i64 (fr:Int),.int .i64 (to:Int),.int .i64 (n:Int),WV wd,many] 35)).alloc (.cells #[vs 0,vs 1,vs 2,vs 3] 26)).alloc (.cells #[.bool false,.int .i64 0,.int .u64 0,.string { data:= #[] },.slice none 0 0,.slice none 0 0] 40)).heap[w.heap.size]? =some (.cells #[.int .i64 op,.int .i64 (a:Int),.int .i64 (b:Int),.int .i64 (c:Int),.int .i64 (fr:Int),.int .i64 (to:Int),.int .i64 (n:Int),WV wd,many] 35 (0,0)):=alloc_at (alloc_at (hp_new w _) _) _
 have q1:(((w.alloc (.cells #[.int .i64 op,.int .i64 (a:Int),.int .i64 (b:Int),.int .i64 (c:Int),.int .i64 (fr:Int),.int .i64 (to:Int),.int .i64 (n:Int),WV wd,many] 35)).alloc (.cells #[vs 0,vs 1,vs 2,vs 3] 26)).alloc (.cells #[.bool false,.int .i64 0,.int .u64 0,.string { data:= #[] },.slice none 0 0,.slice none 0 0] 40)).heap[w.heap.size+1]? =some (.cells #[vs 0,vs 1,vs 2,vs 3] 26 (0,0)):=alloc_at (by simpa using hp_new (w.alloc _) _) _
 have q2:(((w.alloc (.cells #[.int .i64 op,.int .i64 (a:Int),.int .i64 (b:Int),.int .i64 (c:Int),.int .i64 (fr:Int),.int .i64 (to:Int),.int .i64 (n:Int),WV wd,many] 35)).alloc (.cells #[vs 0,vs 1,vs 2,vs 3] 26)).alloc (.cells #[.bool false,.int .i64 0,.int .u64 0,.string { data:= #[] },.slice none 0 0,.slice none 0 0] 40)).heap[w.heap.size+1+1]? =some (.cells #[.bool false,.int .i64 0,.int .u64 0,.string { data:= #[] },.slice none 0 0,.slice none 0 0] 40 (0,0)):=by simpa using hp_new ((w.alloc _).alloc _) _
 have pick:∀i,i<4->(#[vs 0,vs 1,vs 2,vs 3]:Array Value)[i]? =some (vs i):=by
  intro i hi
  rcases(by omega:i=0\/i=1\/i=2\/i=3) with rfl|rfl|rfl|rfl <;> rfl
 exact ⟨_,rfl,hp_cell q0 0 rfl,hp_cell q0 1 rfl,hp_cell q0 2 rfl,hp_cell q1 a (by rw [pick a ha,EA.out]),hp_cell q1 b (by rw [pick b hb,EB.out]),
  ⟨hp_cell q0 0 rfl,hp_cell q0 4 rfl,hp_cell q0 5 rfl,hp_cell q0 6 rfl,q2,(((Fr.refl _ _).alloc _).alloc _).alloc _,by simp⟩⟩
structure AskS(w2 w:World)(p:Nat)(op:Int)(fr to n:Nat):Prop where
 c0:w2.cell? ⟨p,0,none⟩=some (.int .i64 op)
 c4:w2.cell? ⟨p,4,none⟩=some (.int .i64 (fr:Int))
 c5:w2.cell? ⟨p,5,none⟩=some (.int .i64 (to:Int))
 c6:w2.cell? ⟨p,6,none⟩=some (.int .i64 (n:Int))
 p2:w2.heap[p+1+1]? =some (.cells #[.bool false,.int .i64 0,.int .u64 0,.string { data:= #[] },.slice none 0 0,.slice none 0 0] 40 (0,0))
 fr_:Fr (fun _=>False) w w2
 hp:p=w.heap.size
 size:w.heap.size+3<=w2.heap.size
theorem AskS.keep{w w2 w3:World}{p:Nat}{op:Int}{fr to n:Nat}(h:AskS w2 w p op fr to n)(hf:Fr (fun _=>False) w2 w3):AskS w3 w p op fr to n:=by
 have h0:p<w2.heap.size:=by have:=h.size;have:=h.hp;omega
 have hb:∀i,w3.cell? ⟨p,i,none⟩=w2.cell? ⟨p,i,none⟩:=fun i=>hf.cell (a:=⟨p,i,none⟩) h0 (fun h=>h)
 exact ⟨(hb 0).trans h.c0,(hb 4).trans h.c4,(hb 5).trans h.c5,(hb 6).trans h.c6,(hf.keep _ (hp_lt h.p2) (fun h=>h)).trans h.p2,h.fr_.trans hf,h.hp,Nat.le_trans h.size hf.size⟩
def AskJ(w:World)(op:Int)(fr to n:Nat)(la lb ca cb:Nat)(oa ob:Option Addr)(a b:List Bool)(e:Ending)(w2:World):Prop:=
 ∃v3,e= .returned v3/\w2.cell? ⟨w.heap.size,0,none⟩=some (.int .i64 op)/\Hid (Calls Tryz.prog 24 #[v3] w2 (fun e w'=>e= .returned (.int .i64 ((shar a b:Nat):Int))/\w'=w2))/\
  Hid (AskS w2 w w.heap.size op fr to n)/\Hid (BL w2 (.slice oa la ca) a)/\Hid (BL w2 (.slice ob lb cb) b)
theorem askJ{w w1:World}{la lb ca cb:Nat}{oa ob:Option Addr}{a b:List Bool}{op:Int}{fr to n:Nat}{wd:BitVec 64}(nq:Nat)(hla:la<=6000)(hlb:lb<=6000)(HA:Hid (BL w (.slice oa la ca) a))(HB:Hid (BL w (.slice ob lb cb) b))(HLA:Hid (la=a.length))(HLB:Hid (lb=b.length))(HW:Hid (AskW w1 w op fr to n wd)):
  Hid (Calls Tryz.prog 21 #[.slice oa la ca,.slice ob lb cb,tabV (fun x y=>x&&y),.int .i64 (min (la:Int) (lb:Int))] (w1.drewN nq) (AskJ w op fr to n la lb ca cb oa ob a b)):=by
 have hf1:Fr (fun _=>False) w (w1.drewN nq):=HW.out.fr_.drewN nq
 have e1:=HLA.out
 have e2:=HLB.out
 have hA:=HA.out.keep hf1 (fun _ _ h=>h)
 have hB:=HB.out.keep hf1 (fun _ _ h=>h)
 have h:=joined_c _ _ a b (fun x y=>x&&y) (min a.length b.length) (w1.drewN nq) hA hB (by omega)
 rw [show (((min a.length b.length:Nat)):Int)=min (la:Int) (lb:Int) by omega]at h
 refine h.mono ?_
 rintro e w2 ⟨v3,he,hv3,hf2,ho2⟩
 have hs:AskS (w1.drewN nq) w w.heap.size op fr to n:=⟨HW.out.c0,HW.out.c4,HW.out.c5,HW.out.c6,HW.out.p2,hf1,rfl,Nat.le_of_eq HW.out.size.symm⟩
 have hs2:=hs.keep hf2
 exact ⟨v3,he,hs2.c0,spCount_c v3 _ w2 hv3 (by unfold bothL;rw [joinL_length];omega),hs2,hA.keep hf2 (fun _ _ h=>h),hB.keep hf2 (fun _ _ h=>h)⟩
theorem AskS.six{w w2:World}{p:Nat}{op:Int}{fr to n:Nat}(h:AskS w2 w p op fr to n):Six w2 (p+1+1):=Go.Proofs.YtobdfhlmipcjbaaGreatDoor.six h.p2
theorem askSix{w w3:World}{p:Nat}{op:Int}{fr to n:Nat}(is:Bool)(nn:Int)(z:Int)(s:ByteArray)(l b:Value)(wd:BitVec 64)(hz:z=wn wd)(xs bs:List Value)(HS:Hid (AskS w3 w p op fr to n))(hl:Lst w3 29 1 l xs.length xs)(hb:Lst w3 5 1 b bs.length bs)
  (hol:∀r,l.ownBlock=some r->w.heap.size+3<=r) (hob:∀r,b.ownBlock=some r->w.heap.size+3<=r):
  ∃w4,(((((w3.setCell ⟨p+1+1,0,none⟩ (.bool is)).setCell ⟨p+1+1,1,none⟩ (.int .i64 nn)).setCell ⟨p+1+1,2,none⟩ (.int .u64 z)).setCell ⟨p+1+1,3,none⟩ (.string s)).setCell ⟨p+1+1,4,none⟩ l).setCell ⟨p+1+1,5,none⟩ b=w4/\
   w4.cell? ⟨p+1+1,0,none⟩=some (.bool is)/\w4.cell? ⟨p+1+1,1,none⟩=some (.int .i64 nn)/\w4.cell? ⟨p+1+1,2,none⟩=some (.int .u64 z)/\w4.cell? ⟨p+1+1,3,none⟩=some (.string s)/\w4.cell? ⟨p+1+1,4,none⟩=some l/\w4.cell? ⟨p+1+1,5,none⟩=some b/\
   Hid (AskP w is nn wd s xs bs (.returned (.tuple #[.agg #[.bool is,.int .i64 nn,.int .u64 z,.string s,l,b],.bool true])) w4):=by
 have h:=HS.out
 have hp4:=set6 (.bool is) (.int .i64 nn) (.int .u64 z) (.string s) l b h.p2
 have hf4:=fr6 (w:=w3) (p:=p+1+1) (.bool is) (.int .i64 nn) (.int .u64 z) (.string s) l b
 have hp:=h.hp
 refine ⟨_,rfl,hp_cell hp4 0 rfl,hp_cell hp4 1 rfl,hp_cell hp4 2 rfl,hp_cell hp4 3 rfl,hp_cell hp4 4 rfl,hp_cell hp4 5 rfl,?_⟩
 exact ⟨l,b,by rw [hz];rfl,hl.keep hf4 (fun r hr e=>by have:=hol r hr;omega),hb.keep hf4 (fun r hr e=>by have:=hob r hr;omega),fun r hr=>by have:=hol r hr;omega,fun r hr=>by have:=hob r hr;omega,h.fr_.trans' hf4 (fun r hr=> .inr (by omega))⟩
theorem askCell{w2:World}{oa:Option Addr}{la ca:Nat}{l:List Bool}(h:Hid (BL w2 (.slice oa la ca) l))(hl:Hid (la=l.length)):
  Hid (∀i,i<la->∃s c,Value.slice oa la ca= .slice (some ⟨s,0,none⟩) la c/\w2.cell? ⟨s,i,none⟩=some (.bool (mOf l i))):=fun i hi=>by
 have e:=hl.out
 obtain ⟨s,c,e1,hc⟩:=h.out.am (i:=i) (by omega)
 exact ⟨s,c,by rw [e1,e],hc⟩
end Go.Proofs.YtobdfhlmipcjbaaGreatDoor
namespace Go.Proofs.YtobdfhlmipcjbaaGreatDoor
open Go.RowKit Pop
theorem popcnt_zero(A:Option Addr)(c:Nat)(w:World):Calls Tryz.prog 115 #[.slice A 0 c] w fun e w'=>e= .returned (.int .u64 0)/\w'=w:=by
 go_enter Tryz.func115,Tryz.ntmps115
 go_wp2
 refine wp_loop_once ?_
 go_wp2
 refine wp_loop_once ?_
 go_wp2
 go_ret
 exact ⟨rfl,rfl⟩
theorem popcnt_tail(A:Option Addr)(s n l c:Nat)(f:Nat->BitVec 64)(w:World)(hA:l<n->A=some ⟨s,l,none⟩)(hn:n<=2000)(h:∀i,i<n->w.cell? ⟨s,i,none⟩=some (WV (f i))):
  Calls Tryz.prog 115 #[.slice A (n-l) c] w fun e w'=>e= .returned (.int .u64 ((cntW (fun i=>f (l+i)) (n-l):Nat):Int))/\w'=w:=by
 rcases Nat.lt_or_ge l n with h1|h1
 ·rw [hA h1]
  exact popcnt_c s l (n-l) c (fun i=>f (l+i)) w (by omega) (fun i hi=>h (l+i) (by omega))
 ·rw [show n-l=0 by omega]
  exact popcnt_zero A c w
theorem cntW_two(r f:Nat->BitVec 64)(n N:Nat)(h:n<=N)(he:∀i,n<=i->i<N->r i=f i):cntW r n+cntW (fun i=>f (n+i)) (N-n)=cntW r N:=by
 conv=>rhs;rw [show N=n+(N-n) by omega,cntW_add]
 congr 1
 exact cntW_ext _ (fun i hi=>(he (n+i) (by omega) (by omega)).symm)
theorem ucard_raw(p q x y nx ny c c2 s s2:Nat)(A B:Option Addr)(f g:Nat->BitVec 64)(w:World)(hnn:nx<=ny)(hn:ny<=1000)
  (x1:w.cell? ⟨x,1,none⟩=some (.slice A nx c)) (hA:0<nx->A=some ⟨s,0,none⟩) (hf:∀i,i<nx->w.cell? ⟨s,i,none⟩=some (WV (f i)))
  (y1:w.cell? ⟨y,1,none⟩=some (.slice B ny c2)) (hc2:ny<=c2) (hB:0<ny->B=some ⟨s2,0,none⟩) (hg:∀i,i<ny->w.cell? ⟨s2,i,none⟩=some (WV (g i)))
  (hS:Calls Tryz.prog 105 #[.pointer (some ⟨p,0,none⟩),.pointer (some ⟨q,0,none⟩)] w fun e w'=>e= .returned (.tuple #[.pointer (some ⟨x,0,none⟩),.pointer (some ⟨y,0,none⟩)])/\∃n,w'=w.drewN n):
  Calls Tryz.prog 84 #[.pointer (some ⟨p,0,none⟩),.pointer (some ⟨q,0,none⟩)] w fun e w'=>e= .returned (.int .u64 ((cntW (fun i=>f i|||g i) nx+cntW (fun i=>g (nx+i)) (ny-nx):Nat):Int))/\∃q,w'=w.drewN q:=by
 have hb1:=cntW_le (fun i=>f i|||g i) nx
 have hb2:=cntW_le (fun i=>g (nx+i)) (ny-nx)
 have HS:=Lib.hid hS;clear hS
 have HX:=Lib.hid x1;have HY:=Lib.hid y1;have HF:=Lib.hid hf;have HG:=Lib.hid hg
 clear x1 y1 hf hg
 go_enter Tryz.func84,Tryz.ntmps84
 go_wp2_with (first|(go_at_call 103;refine (panicIfNull_c _ _).mono ?_;rintro e w' ⟨rfl,rfl⟩)|(go_at_call 105;refine HS.out.mono ?_;rintro e w1 ⟨rfl,n1,hw1⟩;have HW1:=Lib.hid hw1;clear hw1;refine Hid.out ?_))
 refine Lib.hid ?_
 have x1:w1.cell? ⟨x,1,none⟩=some (.slice A nx c):=by rw [HW1.out];exact HX.out
 have y1:w1.cell? ⟨y,1,none⟩=some (.slice B ny c2):=by rw [HW1.out];exact HY.out
 have hf:∀i,i<nx->w1.cell? ⟨s,i,none⟩=some (WV (f i)):=fun i hi=>by rw [HW1.out];exact HF.out i hi
 have hg:∀i,i<ny->w1.cell? ⟨s2,i,none⟩=some (WV (g i)):=fun i hi=>by rw [HW1.out];exact HG.out i hi
 clear HX HY HF HG
 have HF:=Lib.hid hf;have HG:=Lib.hid hg;clear hf hg
 obtain ⟨r1,hr1⟩:∃r1,r1=cntW (fun i=>f i|||g i) nx:=⟨_,rfl⟩
 obtain ⟨r2,hr2⟩:∃r2,r2=cntW (fun i=>g (nx+i)) (ny-nx):=⟨_,rfl⟩
 rw [<- hr1]at hb1
 rw [<- hr2]at hb2
 have hb3:r1<=64000:=by omega
 have hb4:r2<=64000:=by omega
 have HR1:=Lib.hid hr1;have HR2:=Lib.hid hr2;clear hr1 hr2 hb1 hb2
 rcases Nat.eq_zero_or_pos nx with hx0|hx0
 ·subst hx0
  have hr10:r1=0:=HR1.out
  go_wp2
  rcases Nat.eq_zero_or_pos ny with hy0|hy0
  ·subst hy0
   have hr20:r2=0:=HR2.out
   clear hA hB
   go_quiet (fail)
   go_wp2
   go_ret
   exact ⟨by rw [<- HR1.out,<- HR2.out,hr10,hr20];rfl,_,by rw [HW1.out,World.drewN_drewN]⟩
  ·obtain rfl:=hB hy0
   clear hA hB
   go_quiet (fail)
   generalize hw3:w1.drewN nq=w3
   have HW3:=Lib.hid hw3
   have x1':w3.cell? ⟨x,1,none⟩=some (.slice A 0 c):=by rw [<- hw3];exact x1
   have y1':w3.cell? ⟨y,1,none⟩=some (.slice (some ⟨s2,0,none⟩) ny c2):=by rw [<- hw3];exact y1
   have hg:∀n i,i<ny->(w3.drewN n).cell? ⟨s2,i,none⟩=some (WV (g i)):=fun n i hi=>by rw [<- hw3];exact HG.out i hi
   have HG3:=Lib.hid hg;clear hw3 hg x1 y1
   have hP:∀n,Calls Tryz.prog 115 #[.slice (some ⟨s2,0,none⟩) ny c2] (w3.drewN n) fun e w'=>e= .returned (.int .u64 (r2:Int))/\w'=w3.drewN n:=fun n=>by
    have h:=popcnt_c s2 0 ny c2 g (w3.drewN n) (by omega) (fun i hi=>by rw [Nat.zero_add];exact HG3.out n i hi)
    have e:cntW g ny=r2:=by rw [HR2.out];simp
    rwa [e]at h
   have HP:=Lib.hid hP;clear hP
   go_wp2
   go_quiet ((go_at_call 115;exact Calls.quiet_of_same (HP.out _)))
   go_wp2
   go_ret
   refine ⟨ret_arg ?_,_,by rw [<- HW3.out,HW1.out];simp only [World.drewN_drewN];rfl⟩
   rw [<- HR1.out,<- HR2.out,hr10]
   show Value.int .u64 (r2:Int)=Value.int .u64 ((0+r2:Nat):Int)
   rw [Nat.zero_add]
 ·obtain rfl:=hA hx0
  obtain rfl:=hB (by omega)
  clear hA hB
  have hP0:∀n,Calls Tryz.prog 120 #[.slice (some ⟨s,0,none⟩) nx c,.slice (some ⟨s2,0,none⟩) ny c2] (w1.drewN n) fun e w''=>e= .returned (.int .u64 (r1:Int))/\∃m,w''=(w1.drewN n).drewN m:=fun n=>by
   have h:=pcor_c s s2 nx c ny c2 f g (w1.drewN n) hx0 (by omega) hnn (fun i hi=>HF.out i hi) (fun i hi=>HG.out i (by omega))
   rwa [<- HR1.out]at h
  have HP0:=Lib.hid hP0;clear hP0
  go_wp2
  go_quiet ((go_at_call 120;exact Calls.quiet_of (HP0.out _)))
  generalize hw3:w1.drewN nq=w3
  have HW3:=Lib.hid hw3
  have x1':w3.cell? ⟨x,1,none⟩=some (.slice (some ⟨s,0,none⟩) nx c):=by rw [<- hw3];exact x1
  have y1':w3.cell? ⟨y,1,none⟩=some (.slice (some ⟨s2,0,none⟩) ny c2):=by rw [<- hw3];exact y1
  have hg:∀i,i<ny->w3.cell? ⟨s2,i,none⟩=some (WV (g i)):=fun i hi=>by rw [<- hw3];exact HG.out i hi
  have HG3:=Lib.hid hg;clear hw3 hg x1 y1
  go_wp2
  go_quiet (fail)
  generalize hw4:w3.drewN nq=w4
  have HW4:=Lib.hid hw4
  have x1:w4.cell? ⟨x,1,none⟩=some (.slice (some ⟨s,0,none⟩) nx c):=by rw [<- hw4];exact x1'
  have y1:w4.cell? ⟨y,1,none⟩=some (.slice (some ⟨s2,0,none⟩) ny c2):=by rw [<- hw4];exact y1'
  have hg:∀n i,i<ny->(w4.drewN n).cell? ⟨s2,i,none⟩=some (WV (g i)):=fun n i hi=>by rw [<- hw4];exact HG3.out i hi
  have HG4:=Lib.hid hg;clear hw4 hg x1' y1'
  rcases Nat.lt_or_ge nx ny with hlt|hge
  ·have hne:¬nx=c2:=by omega
   have hP:∀n d,Calls Tryz.prog 115 #[.slice (some ⟨s2,nx,none⟩) (ny-nx) d] (w4.drewN n) fun e w'=>e= .returned (.int .u64 (r2:Int))/\w'=w4.drewN n:=fun n d=>by
    have h:=popcnt_tail (some ⟨s2,nx,none⟩) s2 ny nx d g (w4.drewN n) (fun _=>rfl) (by omega) (fun i hi=>HG4.out n i hi)
    rwa [<- HR2.out]at h
   have HP:=Lib.hid hP;clear hP
   go_wp2
   go_quiet ((go_at_call 115;exact Calls.quiet_of_same (HP.out _ _)))
   go_wp2
   go_ret
   refine ⟨ret_arg ?_,_,by rw [<- HW4.out,<- HW3.out,HW1.out];simp only [World.drewN_drewN];rfl⟩
   rw [<- HR1.out,<- HR2.out];go_num
  ·have hr20:r2=0:=by rw [HR2.out,show ny-nx=0 by omega];rfl
   have hdd:decide (nx<ny)=false:=by simp;omega
   go_wp2
   go_ret
   refine ⟨ret_arg ?_,_,by rw [<- HW4.out,<- HW3.out,HW1.out];simp only [World.drewN_drewN];rfl⟩
   rw [<- HR1.out,<- HR2.out,hr20]
   show Value.int .u64 (r1:Int)=Value.int .u64 ((r1+0:Nat):Int)
   rfl
theorem ucard_x(p q x y Lx Ly:Nat)(vx vy:Value)(mx my:Nat->Bool)(w:World)(hle:Lx<=Ly)(hx:BA w x vx Lx mx)(hy:BA w y vy Ly my)
  (hS:Calls Tryz.prog 105 #[.pointer (some ⟨p,0,none⟩),.pointer (some ⟨q,0,none⟩)] w fun e w'=>e= .returned (.tuple #[.pointer (some ⟨x,0,none⟩),.pointer (some ⟨y,0,none⟩)])/\∃n,w'=w.drewN n):
  Calls Tryz.prog 84 #[.pointer (some ⟨p,0,none⟩),.pointer (some ⟨q,0,none⟩)] w fun e w'=>e= .returned (.int .u64 ((cntN (fun i=>mx i||my i) Ly:Nat):Int))/\∃q,w'=w.drewN q:=by
 obtain ⟨x0,hlx,hmx,A,s,c,x1,hc,hA,hwx⟩:=hx.view2
 obtain ⟨y0,hly,hmy,B,s2,c2,y1,hc2,hB,hwy⟩:=hy.view2
 have hout:∀i,Ly<=i->(fun i=>mx i||my i) i=false:=fun i hi=>by simp [hmx i (by omega),hmy i hi]
 have hnn:nw Lx<=nw Ly:=by unfold nw;omega
 have htl:∀i,nw Lx<=i->i<nw Ly->pk (fun i=>mx i||my i) i=pk my i:=fun i hi _=>pk_same (fun j _=>by show (mx (64*i+j)||my (64*i+j))=my (64*i+j);rw [hmx _ (by unfold nw at hi;omega)];simp)
 have h:=ucard_raw p q x y (nw Lx) (nw Ly) c c2 s s2 A B (pk mx) (pk my) w hnn (nw_bound hly) x1 hA hwx y1 hc2 hB hwy hS
 rw [show (fun i=>pk mx i|||pk my i)=pk (fun i=>mx i||my i) from funext (fun i=>pk_or mx my i),cntW_two _ _ _ _ hnn htl,cntW_set hout]at h
 exact h
theorem ucard_c(p q L M:Nat)(v u:Value)(m k:Nat->Bool)(w:World)(hx:BA w p v L m)(hy:BA w q u M k):
  Calls Tryz.prog 84 #[.pointer (some ⟨p,0,none⟩),.pointer (some ⟨q,0,none⟩)] w fun e w'=>e= .returned (.int .u64 ((cntN (fun i=>m i||k i) (max L M):Nat):Int))/\∃q,w'=w.drewN q:=by
 rcases Nat.lt_or_ge M L with h|h
 ·rw [Nat.max_eq_left (by omega)]
  have:=ucard_x p q q p M L u v k m w (by omega) hy hx (sort_gt p q L M w h hx.view.1 hy.view.1)
  rwa [show (fun i=>k i||m i)=(fun i=>m i||k i) from funext (fun i=>Bool.or_comm _ _)]at this
 ·rw [Nat.max_eq_right h]
  exact ucard_x p q p q L M v u m k w h hx hy (sort_le p q L M w h hx.view.1 hy.view.1)
theorem xcard_raw(p q x y nx ny c c2 s s2:Nat)(A B:Option Addr)(f g:Nat->BitVec 64)(w:World)(hnn:nx<=ny)(hn:ny<=1000)
  (x1:w.cell? ⟨x,1,none⟩=some (.slice A nx c)) (hA:0<nx->A=some ⟨s,0,none⟩) (hf:∀i,i<nx->w.cell? ⟨s,i,none⟩=some (WV (f i)))
  (y1:w.cell? ⟨y,1,none⟩=some (.slice B ny c2)) (hc2:ny<=c2) (hB:0<ny->B=some ⟨s2,0,none⟩) (hg:∀i,i<ny->w.cell? ⟨s2,i,none⟩=some (WV (g i)))
  (hS:Calls Tryz.prog 105 #[.pointer (some ⟨p,0,none⟩),.pointer (some ⟨q,0,none⟩)] w fun e w'=>e= .returned (.tuple #[.pointer (some ⟨x,0,none⟩),.pointer (some ⟨y,0,none⟩)])/\∃n,w'=w.drewN n):
  Calls Tryz.prog 87 #[.pointer (some ⟨p,0,none⟩),.pointer (some ⟨q,0,none⟩)] w fun e w'=>e= .returned (.int .u64 ((cntW (fun i=>f i^^^g i) nx+cntW (fun i=>g (nx+i)) (ny-nx):Nat):Int))/\∃q,w'=w.drewN q:=by
 have hb1:=cntW_le (fun i=>f i^^^g i) nx
 have hb2:=cntW_le (fun i=>g (nx+i)) (ny-nx)
 have HS:=Lib.hid hS;clear hS
 have HX:=Lib.hid x1;have HY:=Lib.hid y1;have HF:=Lib.hid hf;have HG:=Lib.hid hg
 clear x1 y1 hf hg
 go_enter Tryz.func87,Tryz.ntmps87
 go_wp2_with (first|(go_at_call 103;refine (panicIfNull_c _ _).mono ?_;rintro e w' ⟨rfl,rfl⟩)|(go_at_call 105;refine HS.out.mono ?_;rintro e w1 ⟨rfl,n1,hw1⟩;have HW1:=Lib.hid hw1;clear hw1;refine Hid.out ?_))
 refine Lib.hid ?_
 have x1:w1.cell? ⟨x,1,none⟩=some (.slice A nx c):=by rw [HW1.out];exact HX.out
 have y1:w1.cell? ⟨y,1,none⟩=some (.slice B ny c2):=by rw [HW1.out];exact HY.out
 have hf:∀i,i<nx->w1.cell? ⟨s,i,none⟩=some (WV (f i)):=fun i hi=>by rw [HW1.out];exact HF.out i hi
 have hg:∀i,i<ny->w1.cell? ⟨s2,i,none⟩=some (WV (g i)):=fun i hi=>by rw [HW1.out];exact HG.out i hi
 clear HX HY HF HG
 have HF:=Lib.hid hf;have HG:=Lib.hid hg;clear hf hg
 obtain ⟨r1,hr1⟩:∃r1,r1=cntW (fun i=>f i^^^g i) nx:=⟨_,rfl⟩
 obtain ⟨r2,hr2⟩:∃r2,r2=cntW (fun i=>g (nx+i)) (ny-nx):=⟨_,rfl⟩
 rw [<- hr1]at hb1
 rw [<- hr2]at hb2
 have hb3:r1<=64000:=by omega
 have hb4:r2<=64000:=by omega
 have HR1:=Lib.hid hr1;have HR2:=Lib.hid hr2;clear hr1 hr2 hb1 hb2
 rcases Nat.eq_zero_or_pos nx with hx0|hx0
 ·subst hx0
  have hr10:r1=0:=HR1.out
  go_wp2
  rcases Nat.eq_zero_or_pos ny with hy0|hy0
  ·subst hy0
   have hr20:r2=0:=HR2.out
   clear hA hB
   go_quiet (fail)
   go_wp2
   go_ret
   exact ⟨by rw [<- HR1.out,<- HR2.out,hr10,hr20];rfl,_,by rw [HW1.out,World.drewN_drewN]⟩
  ·obtain rfl:=hB hy0
   clear hA hB
   go_quiet (fail)
   generalize hw3:w1.drewN nq=w3
   have HW3:=Lib.hid hw3
   have x1':w3.cell? ⟨x,1,none⟩=some (.slice A 0 c):=by rw [<- hw3];exact x1
   have y1':w3.cell? ⟨y,1,none⟩=some (.slice (some ⟨s2,0,none⟩) ny c2):=by rw [<- hw3];exact y1
   have hg:∀n i,i<ny->(w3.drewN n).cell? ⟨s2,i,none⟩=some (WV (g i)):=fun n i hi=>by rw [<- hw3];exact HG.out i hi
   have HG3:=Lib.hid hg;clear hw3 hg x1 y1
   have hP:∀n,Calls Tryz.prog 115 #[.slice (some ⟨s2,0,none⟩) ny c2] (w3.drewN n) fun e w'=>e= .returned (.int .u64 (r2:Int))/\w'=w3.drewN n:=fun n=>by
    have h:=popcnt_c s2 0 ny c2 g (w3.drewN n) (by omega) (fun i hi=>by rw [Nat.zero_add];exact HG3.out n i hi)
    have e:cntW g ny=r2:=by rw [HR2.out];simp
    rwa [e]at h
   have HP:=Lib.hid hP;clear hP
   go_wp2
   go_quiet ((go_at_call 115;exact Calls.quiet_of_same (HP.out _)))
   go_wp2
   go_ret
   refine ⟨ret_arg ?_,_,by rw [<- HW3.out,HW1.out];simp only [World.drewN_drewN];rfl⟩
   rw [<- HR1.out,<- HR2.out,hr10]
   show Value.int .u64 (r2:Int)=Value.int .u64 ((0+r2:Nat):Int)
   rw [Nat.zero_add]
 ·obtain rfl:=hA hx0
  obtain rfl:=hB (by omega)
  clear hA hB
  have hP0:∀n,Calls Tryz.prog 123 #[.slice (some ⟨s,0,none⟩) nx c,.slice (some ⟨s2,0,none⟩) ny c2] (w1.drewN n) fun e w''=>e= .returned (.int .u64 (r1:Int))/\∃m,w''=(w1.drewN n).drewN m:=fun n=>by
   have h:=pcxor_c s s2 nx c ny c2 f g (w1.drewN n) hx0 (by omega) hnn (fun i hi=>HF.out i hi) (fun i hi=>HG.out i (by omega))
   rwa [<- HR1.out]at h
  have HP0:=Lib.hid hP0;clear hP0
  go_wp2
  go_quiet ((go_at_call 123;exact Calls.quiet_of (HP0.out _)))
  generalize hw3:w1.drewN nq=w3
  have HW3:=Lib.hid hw3
  have x1':w3.cell? ⟨x,1,none⟩=some (.slice (some ⟨s,0,none⟩) nx c):=by rw [<- hw3];exact x1
  have y1':w3.cell? ⟨y,1,none⟩=some (.slice (some ⟨s2,0,none⟩) ny c2):=by rw [<- hw3];exact y1
  have hg:∀i,i<ny->w3.cell? ⟨s2,i,none⟩=some (WV (g i)):=fun i hi=>by rw [<- hw3];exact HG.out i hi
  have HG3:=Lib.hid hg;clear hw3 hg x1 y1
  go_wp2
  go_quiet (fail)
  generalize hw4:w3.drewN nq=w4
  have HW4:=Lib.hid hw4
  have x1:w4.cell? ⟨x,1,none⟩=some (.slice (some ⟨s,0,none⟩) nx c):=by rw [<- hw4];exact x1'
  have y1:w4.cell? ⟨y,1,none⟩=some (.slice (some ⟨s2,0,none⟩) ny c2):=by rw [<- hw4];exact y1'
  have hg:∀n i,i<ny->(w4.drewN n).cell? ⟨s2,i,none⟩=some (WV (g i)):=fun n i hi=>by rw [<- hw4];exact HG3.out i hi
  have HG4:=Lib.hid hg;clear hw4 hg x1' y1'
  rcases Nat.lt_or_ge nx ny with hlt|hge
  ·have hne:¬nx=c2:=by omega
   have hP:∀n d,Calls Tryz.prog 115 #[.slice (some ⟨s2,nx,none⟩) (ny-nx) d] (w4.drewN n) fun e w'=>e= .returned (.int .u64 (r2:Int))/\w'=w4.drewN n:=fun n d=>by
    have h:=popcnt_tail (some ⟨s2,nx,none⟩) s2 ny nx d g (w4.drewN n) (fun _=>rfl) (by omega) (fun i hi=>HG4.out n i hi)
    rwa [<- HR2.out]at h
   have HP:=Lib.hid hP;clear hP
   go_wp2
   go_quiet ((go_at_call 115;exact Calls.quiet_of_same (HP.out _ _)))
   go_wp2
   go_ret
   refine ⟨ret_arg ?_,_,by rw [<- HW4.out,<- HW3.out,HW1.out];simp only [World.drewN_drewN];rfl⟩
   rw [<- HR1.out,<- HR2.out];go_num
  ·have hr20:r2=0:=by rw [HR2.out,show ny-nx=0 by omega];rfl
   have hdd:decide (nx<ny)=false:=by simp;omega
   go_wp2
   go_ret
   refine ⟨ret_arg ?_,_,by rw [<- HW4.out,<- HW3.out,HW1.out];simp only [World.drewN_drewN];rfl⟩
   rw [<- HR1.out,<- HR2.out,hr20]
   show Value.int .u64 (r1:Int)=Value.int .u64 ((r1+0:Nat):Int)
   rfl
theorem xcard_x(p q x y Lx Ly:Nat)(vx vy:Value)(mx my:Nat->Bool)(w:World)(hle:Lx<=Ly)(hx:BA w x vx Lx mx)(hy:BA w y vy Ly my)
  (hS:Calls Tryz.prog 105 #[.pointer (some ⟨p,0,none⟩),.pointer (some ⟨q,0,none⟩)] w fun e w'=>e= .returned (.tuple #[.pointer (some ⟨x,0,none⟩),.pointer (some ⟨y,0,none⟩)])/\∃n,w'=w.drewN n):
  Calls Tryz.prog 87 #[.pointer (some ⟨p,0,none⟩),.pointer (some ⟨q,0,none⟩)] w fun e w'=>e= .returned (.int .u64 ((cntN (fun i=>mx i^^my i) Ly:Nat):Int))/\∃q,w'=w.drewN q:=by
 obtain ⟨x0,hlx,hmx,A,s,c,x1,hc,hA,hwx⟩:=hx.view2
 obtain ⟨y0,hly,hmy,B,s2,c2,y1,hc2,hB,hwy⟩:=hy.view2
 have hout:∀i,Ly<=i->(fun i=>mx i^^my i) i=false:=fun i hi=>by simp [hmx i (by omega),hmy i hi]
 have hnn:nw Lx<=nw Ly:=by unfold nw;omega
 have htl:∀i,nw Lx<=i->i<nw Ly->pk (fun i=>mx i^^my i) i=pk my i:=fun i hi _=>pk_same (fun j _=>by show (mx (64*i+j)^^my (64*i+j))=my (64*i+j);rw [hmx _ (by unfold nw at hi;omega)];simp)
 have h:=xcard_raw p q x y (nw Lx) (nw Ly) c c2 s s2 A B (pk mx) (pk my) w hnn (nw_bound hly) x1 hA hwx y1 hc2 hB hwy hS
 rw [show (fun i=>pk mx i^^^pk my i)=pk (fun i=>mx i^^my i) from funext (fun i=>pk_xor mx my i),cntW_two _ _ _ _ hnn htl,cntW_set hout]at h
 exact h
theorem xcard_c(p q L M:Nat)(v u:Value)(m k:Nat->Bool)(w:World)(hx:BA w p v L m)(hy:BA w q u M k):
  Calls Tryz.prog 87 #[.pointer (some ⟨p,0,none⟩),.pointer (some ⟨q,0,none⟩)] w fun e w'=>e= .returned (.int .u64 ((cntN (fun i=>m i^^k i) (max L M):Nat):Int))/\∃q,w'=w.drewN q:=by
 rcases Nat.lt_or_ge M L with h|h
 ·rw [Nat.max_eq_left (by omega)]
  have:=xcard_x p q q p M L u v k m w (by omega) hy hx (sort_gt p q L M w h hx.view.1 hy.view.1)
  rwa [show (fun i=>k i^^m i)=(fun i=>m i^^k i) from funext (fun i=>Bool.xor_comm _ _)]at this
 ·rw [Nat.max_eq_right h]
  exact xcard_x p q p q L M v u m k w h hx hy (sort_le p q L M w h hx.view.1 hy.view.1)
theorem icard_x(p q x y Lx Ly:Nat)(vx vy:Value)(mx my:Nat->Bool)(w:World)(hle:Lx<=Ly)(hLx:0<Lx)(Lp Lq:Nat)(hp0:w.cell? ⟨p,0,none⟩=some (.int .u64 (Lp:Int)))(hq0:w.cell? ⟨q,0,none⟩=some (.int .u64 (Lq:Int)))(hLp:0<Lp)(hLq:0<Lq)(hx:BA w x vx Lx mx)(hy:BA w y vy Ly my)
  (hS:Calls Tryz.prog 105 #[.pointer (some ⟨p,0,none⟩),.pointer (some ⟨q,0,none⟩)] w fun e w'=>e= .returned (.tuple #[.pointer (some ⟨x,0,none⟩),.pointer (some ⟨y,0,none⟩)])/\∃n,w'=w.drewN n):
  Calls Tryz.prog 85 #[.pointer (some ⟨p,0,none⟩),.pointer (some ⟨q,0,none⟩)] w fun e w'=>e= .returned (.int .u64 ((cntN (fun i=>mx i&&my i) Lx:Nat):Int))/\∃q,w'=w.drewN q:=by
 obtain ⟨x0,hlx,hmx,A,s,c,x1,hc,hA,hwx⟩:=hx.view2
 obtain ⟨y0,hly,hmy,B,s2,c2,y1,hc2,hB,hwy⟩:=hy.view2
 have hn0:0<nw Lx:=by unfold nw;omega
 have hnn:nw Lx<=nw Ly:=by unfold nw;omega
 obtain rfl:=hA hn0
 obtain rfl:=hB (by omega)
 have hb:=nw_bound hly
 have hout:∀i,Lx<=i->(fun i=>mx i&&my i) i=false:=fun i hi=>by simp [hmx i (by omega)]
 have hP:∀n,Calls Tryz.prog 121 #[.slice (some ⟨s,0,none⟩) (nw Lx) c,.slice (some ⟨s2,0,none⟩) (nw Ly) c2] (w.drewN n) fun e w'=>e= .returned (.int .u64 ((cntN (fun i=>mx i&&my i) Lx:Nat):Int))/\∃m,w'=(w.drewN n).drewN m:=fun n=>by
  have h:=pcand_c s s2 (nw Lx) c (nw Ly) c2 (pk mx) (pk my) (w.drewN n) hn0 (by omega) hnn (fun i hi=>hwx i hi) (fun i hi=>hwy i (by omega))
  rwa [show (fun i=>pk mx i&&&pk my i)=pk (fun i=>mx i&&my i) from funext (fun i=>pk_and mx my i),cntW_set hout]at h
 generalize nw Lx=nx at*
 generalize nw Ly=ny at*
 have hp1:((Lp:Int)==0)=false:=by simp;omega
 have hq1:((Lq:Int)==0)=false:=by simp;omega
 generalize cntN (fun i=>mx i&&my i) Lx=R at*
 have HP:=Lib.hid hP;have HS:=Lib.hid hS;have HX:=Lib.hid x1;have HY:=Lib.hid y1
 clear hP hS x1 y1 hwx hwy hmx hmy hout hx hy x0 y0 hle hLx hlx hly hLp hLq hc hc2 hA hB hn0 hnn hb
 go_enter Tryz.func85,Tryz.ntmps85
 go_wp2_with (first|(go_at_call 103;refine (panicIfNull_c _ _).mono ?_;rintro e w' ⟨rfl,rfl⟩)|(go_at_call 105;refine HS.out.mono ?_;rintro e w1 ⟨rfl,n1,hw1⟩;have HW1:=Lib.hid hw1;clear hw1;refine Hid.out ?_))
 refine Lib.hid ?_
 have x1:w1.cell? ⟨x,1,none⟩=some (.slice (some ⟨s,0,none⟩) nx c):=by rw [HW1.out];exact HX.out
 have y1:w1.cell? ⟨y,1,none⟩=some (.slice (some ⟨s2,0,none⟩) ny c2):=by rw [HW1.out];exact HY.out
 have hP2:∀n,Calls Tryz.prog 121 #[.slice (some ⟨s,0,none⟩) nx c,.slice (some ⟨s2,0,none⟩) ny c2] (w1.drewN n) fun e w'=>e= .returned (.int .u64 (R:Int))/\∃m,w'=(w1.drewN n).drewN m:=fun n=>by
  have h:=HP.out (n1+n);rw [HW1.out,World.drewN_drewN];exact h
 have HP2:=Lib.hid hP2;clear hP2
 go_wp2
 go_quiet ((go_at_call 121;exact Calls.quiet_of (HP2.out _)))
 go_wp2
 go_ret
 exact ⟨rfl,_,by rw [HW1.out,World.drewN_drewN]⟩
theorem icard_c(p q L M:Nat)(v u:Value)(m k:Nat->Bool)(w:World)(hx:BA w p v L m)(hy:BA w q u M k):
  Calls Tryz.prog 85 #[.pointer (some ⟨p,0,none⟩),.pointer (some ⟨q,0,none⟩)] w fun e w'=>e= .returned (.int .u64 ((cntN (fun i=>m i&&k i) (min L M):Nat):Int))/\∃q,w'=w.drewN q:=by
 have x0:=hx.view.1
 have y0:=hy.view.1
 rcases Nat.eq_zero_or_pos L with h0|h0
 ·subst h0
  rw [Nat.min_eq_left (Nat.zero_le _)]
  clear hx hy
  go_enter Tryz.func85,Tryz.ntmps85
  go_wp2_with ((go_at_call 103;refine (panicIfNull_c _ _).mono ?_;rintro e w' ⟨rfl,rfl⟩))
  go_ret
  exact ⟨rfl,0,rfl⟩
 ·have hL1:((L:Int)==0)=false:=by simp;omega
  rcases Nat.eq_zero_or_pos M with h1|h1
  ·subst h1
   rw [Nat.min_eq_right (Nat.zero_le _)]
   clear hx hy
   go_enter Tryz.func85,Tryz.ntmps85
   go_wp2_with ((go_at_call 103;refine (panicIfNull_c _ _).mono ?_;rintro e w' ⟨rfl,rfl⟩))
   go_ret
   exact ⟨rfl,0,rfl⟩
  ·rcases Nat.lt_or_ge M L with h|h
   ·rw [Nat.min_eq_right (by omega)]
    have:=icard_x p q q p M L u v k m w (by omega) h1 L M x0 y0 h0 h1 hy hx (sort_gt p q L M w h x0 y0)
    rwa [show (fun i=>k i&&m i)=(fun i=>m i&&k i) from funext (fun i=>Bool.and_comm _ _)]at this
   ·rw [Nat.min_eq_left h]
    exact icard_x p q p q L M v u m k w h h0 L M x0 y0 h0 h1 hx hy (sort_le p q L M w h x0 y0)
theorem getD_app(E X:List Bool)(i:Nat):(E++X).getD i false=if i<E.length then E.getD i false else X.getD (i-E.length) false:=by
 simp only [List.getD]
 split
 ·rename_i h;rw [List.getElem?_append_left h]
 ·rename_i h;rw [List.getElem?_append_right (by omega)]
theorem getD_out(E:List Bool){i:Nat}(h:E.length<=i):E.getD i false=false:=by
 rw [List.getD,List.getElem?_eq_none h];rfl
theorem app_at{E X:List Bool}{W off:Nat}{r:BitVec 64}(hE:E.length=64*W+off)(ho:off<64)(hr:∀p,p<64->r.getLsbD p=X.getD p false):
  pk (fun i=>E.getD i false) W|||(r<<<off)=pk (fun i=>(E++X).getD i false) W:=pk_ext fun j hj=>by
 rw [BitVec.getLsbD_or,BitVec.getLsbD_shiftLeft,getLsbD_pk,getD_app,hE]
 by_cases h:j<off
 ·rw [if_pos (by omega)];simp [hj,h]
 ·rw [if_neg (by omega),getD_out E (by omega),hr _ (by omega),show 64*W+j-(64*W+off)=j-off by omega]
  simp [hj,h]
theorem app_next{E X:List Bool}{W off:Nat}{r:BitVec 64}(hE:E.length=64*W+off)(ho:off<64)(hX:X.length<=64)(hr:∀p,p<64->r.getLsbD p=X.getD p false):
  r>>>(64-off)=pk (fun i=>(E++X).getD i false) (W+1):=pk_ext fun j hj=>by
 rw [BitVec.getLsbD_ushiftRight,getD_app,hE,if_neg (by omega),show 64*(W+1)+j-(64*W+off)=64-off+j by omega]
 by_cases h:64-off+j<64
 ·exact hr _ h
 ·rw [getD_out X (by omega)];exact BitVec.getLsbD_of_ge _ _ (by omega)
theorem app_else{E X:List Bool}{W off j:Nat}(hE:E.length=64*W+off)(ho:off<64)(hX:X.length<=64)(hj:j≠W)(hj2:j=W+1->off+X.length<=64):
  pk (fun i=>E.getD i false) j=pk (fun i=>(E++X).getD i false) j:=(pk_same fun q hq=>by
 show (E++X).getD _ _=E.getD _ _
 rw [getD_app,hE]
 split
 ·rfl
 ·rename_i h
  rw [getD_out E (by omega)]
  refine getD_out X ?_
  by_cases e:j=W+1
  ·have:=hj2 e;omega
  ·omega).symm
theorem cntN_up(m:Nat->Bool){n k:Nat}(h:n<=k):cntN m n<=cntN m k:=by
 obtain ⟨d,rfl⟩:=Nat.exists_eq_add_of_le h
 rw [cntN_add];exact Nat.le_add_right _ _
def exM(a m:Nat->Bool)(n:Nat)(i:Nat):Bool:=(exL a m n).getD i false
theorem exL_none(b m:Nat->Bool)(n:Nat)(h:∀i,i<n->m i=false):exL b m n= []:=by
 induction n with
 |zero=>rfl
 |succ n ih=>unfold exL;rw [ih (fun i hi=>h i (by omega)),h n (by omega)];rfl
theorem pc_cnt(m:Nat->Bool)(k:Nat):pc (pk m k)=cntN (fun i=>m (64*k+i)) 64:=by
 have h:=cnt_word m k
 rw [Nat.mul_succ,cntN_add2]at h
 omega
theorem exL_word(a m:Nat->Bool)(k:Nat):exL a m (64*(k+1))=exL a m (64*k)++exL (pk a k).getLsbD (pk m k).getLsbD 64:=by
 have h:=exL_add a m (64*k) 64
 rw [exL_ext (b:=fun i=>a (64*k+i)) (m:=fun i=>m (64*k+i)) (b':=(pk a k).getLsbD) (m':=(pk m k).getLsbD) 64 (fun i hi=>by rw [getLsbD_pk,getLsbD_pk];simp [hi])]at h
 rw [Nat.mul_succ]
 exact h
theorem exL_wlen(a m:Nat->Bool)(k:Nat):(exL (pk a k).getLsbD (pk m k).getLsbD 64).length=pc (pk m k):=by
 rw [exL_length,pc_cnt]
 exact cntN_ext _ fun i hi=>by rw [getLsbD_pk];simp [hi]
theorem pext_e(x m:BitVec 64)(w:World):
  Calls Tryz.prog 129 #[WV x,WV m] w fun e w'=>e= .returned (WV (pk (fun p=>(exL x.getLsbD m.getLsbD 64).getD p false) 0))/\w'=w:=by
 refine (pext_c x m w).mono ?_
 rintro e w' ⟨⟨r,rfl,hr⟩,hw⟩
 have e:r=pk (fun p=>(exL x.getLsbD m.getLsbD 64).getD p false) 0:=pk_ext fun j hj=>by rw [hr j hj,Nat.mul_zero,Nat.zero_add]
 exact ⟨by rw [e],hw⟩
theorem pdep_e(x m:BitVec 64)(w:World):
  Calls Tryz.prog 130 #[WV x,WV m] w fun e w'=>e= .returned (WV (pk (dpB x.getLsbD m.getLsbD) 0))/\w'=w:=by
 refine (pdep_c x m w).mono ?_
 rintro e w' ⟨⟨r,rfl,hr⟩,hw⟩
 have e:r=pk (dpB x.getLsbD m.getLsbD) 0:=pk_ext fun j hj=>by rw [hr j hj,Nat.mul_zero,Nat.zero_add]
 exact ⟨by rw [e],hw⟩
theorem dep_word(a m:Nat->Bool)(k:Nat):pk (dpB (pkAt a (cntN m (64*k))).getLsbD (pk m k).getLsbD) 0=pk (dpB a m) k:=(pk_ext fun j hj=>by
 rw [getLsbD_pk]
 unfold dpB
 have h:cntN (pk m k).getLsbD j=cntN (fun i=>m (64*k+i)) j:=cntN_ext _ fun i hi=>by rw [getLsbD_pk];simp;omega
 have h2:=cntN_le (fun i=>m (64*k+i)) j
 have d1:decide (cntN (fun i=>m (64*k+i)) j<64)=true:=by simp;omega
 simp only [Nat.mul_zero,Nat.zero_add]
 rw [h,getLsbD_pkAt,getLsbD_pk,cntN_add2,d1]
 simp [hj])
end Go.Proofs.YtobdfhlmipcjbaaGreatDoor
namespace Go.Proofs.YtobdfhlmipcjbaaGreatDoor
open Go.RowKit
theorem and_not_zero(x:BitVec 64):x&&& ~~~ (0:BitVec 64)=x:=by
 apply BitVec.eq_of_getLsbD_eq
 intro i hi
 rw [BitVec.getLsbD_and,BitVec.getLsbD_not]
 simp [hi]
theorem ipDif_le(b b2 L L2:Nat)(v v2:Value)(m m2:Nat->Bool)(w:World)(hL:0<L)(hL2:0<L2)(hcs:nw L2<=nw L)(h:BA w b v L m)(k2:BA w b2 v2 L2 m2)(hs:(b2=b/\m2=m)\/Sep b v b2 v2):
  Calls Tryz.prog 56 #[.pointer (some ⟨b,0,none⟩),.pointer (some ⟨b2,0,none⟩)] w (MutA w b v L (fun i=>m i&& !m2 i) (.tuple #[])):=by
 have hsl:b2=b->L2=L:=fun e=>by subst e;exact (h.same k2).2
 obtain ⟨s,c,g,rfl,r,hg,hm⟩:=h.rs hL
 obtain ⟨s2,c2,g2,rfl,r2,hg2,hm2⟩:=k2.rs hL2
 have hsame:s2=s->b2=b/\m2=m:=by
  intro e;subst e
  rcases hs with hs|hs
  ·exact hs
  ·exact absurd (.inr rfl) (hs s2 (.inr rfl))
 have hbs:s≠b2:=by
  rcases hs with ⟨rfl,_⟩|hs
  ·exact r.ne
  ·intro e;subst e;exact hs s (.inr rfl) (.inl rfl)
 have hg2s:s2=s->∀j,j<nw L2->g2 j=g j:=fun e j hj=>by
  obtain ⟨h1,rfl⟩:=hsame e
  have:=hsl h1
  rw [hg2 j hj,hg j (by rw [<- this];exact hj)]
 clear h k2 hs hsl
 have a0:=r.h0
 have a1:=r.h1
 have b0:=r2.h0
 have b1:=r2.h1
 have hl:=r.hl
 have hl2:=r2.hl
 obtain ⟨n,hn⟩:∃n,n=nw L:=⟨_,rfl⟩
 obtain ⟨n2,hn2⟩:∃n,n=nw L2:=⟨_,rfl⟩
 have hnb:n<=1000:=by subst hn;unfold nw;omega
 have hn2b:n2<=1000:=by subst hn2;unfold nw;omega
 have hn1:1<=n2:=by subst hn2;unfold nw;omega
 have hn0:1<=n:=by subst hn;unfold nw;omega
 rw [<- hn,<- hn2]at hcs
 have hln:n2<=n/\n2<=n2/\1<=n2:=by omega
 have hw1:∀w:World,w.cell? ⟨b,0,none⟩=some (.int .u64 (L:Int))->Calls Tryz.prog 101 #[.pointer (some ⟨b,0,none⟩)] w fun e w'=>e= .returned (.int .i64 (n:Int))/\w'=w:=fun w h=>by rw [hn];exact wordCount_c b L w (by omega) h
 have hw2:∀w:World,w.cell? ⟨b2,0,none⟩=some (.int .u64 (L2:Int))->Calls Tryz.prog 101 #[.pointer (some ⟨b2,0,none⟩)] w fun e w'=>e= .returned (.int .i64 (n2:Int))/\w'=w:=fun w h=>by rw [hn2];exact wordCount_c b2 L2 w (by omega) h
 have HW1:=Lib.hid hw1;have HW2:=Lib.hid hw2
 have A0:=Lib.hid a0;have B0:=Lib.hid b0
 have z0:=r.at (i:=n2-1) (by omega)
 have z2:=r2.at (i:=n2-1) (by omega)
 rw [<- hn]at a1
 rw [<- hn2]at b1
 have HN:=Lib.hid hn;have HN2:=Lib.hid hn2
 have R:=Lib.hid r;have R2:=Lib.hid r2;have HG:=Lib.hid hg;have HG2:=Lib.hid hg2;have HM:=Lib.hid hm;have HM2:=Lib.hid hm2;have HS:=Lib.hid hsame;have HGS:=Lib.hid hg2s
 clear hw1 hw2 r r2 hg hg2 hm hm2 hsame hg2s hn hn2
 have d1:decide (n<n2)=false:=by simp;omega
 have d4:decide ((n2:Int)<=0)=false:=by simp;omega
 have d4':¬n2=0:=by omega
 have i1:(0:Int)<=(n2:Int)-1/\(n2:Int)-1<n/\(n2:Int)-1<n2:=by omega
 have i2:((n2:Int)-1).toNat=n2-1:=by omega
 go_enter Tryz.func56,Tryz.ntmps56
 go_wp2_with (go_at_call 103;refine (panicIfNull_c _ _).mono ?_;rintro e w' ⟨rfl,rfl⟩)
 refine (HW2.out _ B0.out).mono ?_
 rintro e w' ⟨rfl,rfl⟩
 go_wp2_with (fail)
 refine (HW1.out _ A0.out).mono ?_
 rintro e w' ⟨rfl,rfl⟩
 go_wp2
 go_quiet (fail)
 go_wp2
 go_loopw [7] (fun i wr=>∃k:Nat,k<=n2/\i= .int .i64 (k:Int)/\RS wr b s L c (fun j=>if j<k then g j&&& ~~~ g2 j else g j)/\∃nd,Fr (· =s) (w'.drewN nd) wr) (fun i _=>n2-(intOf i).toNat)
 case atStart=>exact ⟨0,by omega,rfl,(R.out.drewN _).congr (fun j _=>by simp),_,Fr.refl _ _⟩
 case round=>
  obtain ⟨k,hk,rfl,hr,nd,hfr⟩:=hrel
  have HF:=Lib.hid hfr
  have HR:=Lib.hid hr
  by_cases hlt:k<n2
  ·have c0:=hr.at (i:=k) (by rw [<- HN.out];omega)
   have f0:=hr.fr k
   rw [if_neg (Nat.lt_irrefl k)]at c0
   have c1:=other_at (k:=k) (rowIs_drewN R2.out.hs nd) (by have:=R2.out.hn;rw [<- HN2.out]at this;omega) hfr (fun e=>by rw [c0,HGS.out e k (by rw [<- HN2.out];omega)])
   clear hr hfr
   go_wp2
   refine wp_region_quiet_tail 9 (by kernel_rfl) (by kernel_rfl) ?_
   simp only [List.take_succ_cons,List.take_zero,List.drop_succ_cons,List.drop_zero]
   repeat (go_big_quiet_step (fail))
   refine wpQuiet_nil ?_
   intro _ ⟨nq,hw'⟩
   subst hw'
   go_wp2
   go_roundw
   case rel=>
    refine ⟨k+1,by omega,by go_num,?_,nd,(HF.out.drewN nq).setCell (.inl rfl) _⟩
    rw [wn_andNot]
    refine ((HR.out.drewN nq).set k _).congr (fun j _=>?_)
    by_cases e:j=k
    ·subst e;rw [if_pos rfl,if_pos (Nat.lt_succ_self j)]
    ·rw [if_neg e]
     by_cases e2:j<k
     ·rw [if_pos e2,if_pos (show j<k+1 by omega)]
     ·rw [if_neg e2,if_neg (show ¬j<k+1 by omega)]
   case measure=>simp [intOf];omega
  ·have hkn:k=n2:=by omega
   subst hkn
   have d5:decide (k<k)=false:=by simp
   clear hr hfr
   go_wp2
   go_end0
   refine ⟨rfl,_,HR.out.ba (fun j hj=>?_) (fun i hi=>?_),⟨(((Fr.refl _ _).drewN nd).trans (HF.out.mono (fun r hr=> .inr (by subst hr;rfl)))),.inl rfl⟩⟩
   ·rw [HG.out j hj]
    by_cases e:j<k
    ·rw [if_pos e,HG2.out j (by rw [<- HN2.out];omega),pk_dif]
    ·rw [if_neg e,<- pk_dif,pk_out HM2.out (by rw [<- HN.out]at hj;rw [<- HN2.out];omega)]
     exact (and_not_zero _).symm
   ·rw [HM.out i hi];rfl
theorem ipDif_gt(b b2 L L2:Nat)(v v2:Value)(m m2:Nat->Bool)(w:World)(hL:0<L)(hL2:0<L2)(hcs:nw L<nw L2)(h:BA w b v L m)(k2:BA w b2 v2 L2 m2)(hs:(b2=b/\m2=m)\/Sep b v b2 v2):
  Calls Tryz.prog 56 #[.pointer (some ⟨b,0,none⟩),.pointer (some ⟨b2,0,none⟩)] w (MutA w b v L (fun i=>m i&& !m2 i) (.tuple #[])):=by
 have hsl:b2=b->L2=L:=fun e=>by subst e;exact (h.same k2).2
 obtain ⟨s,c,g,rfl,r,hg,hm⟩:=h.rs hL
 obtain ⟨s2,c2,g2,rfl,r2,hg2,hm2⟩:=k2.rs hL2
 have hsame:s2=s->b2=b/\m2=m:=by
  intro e;subst e
  rcases hs with hs|hs
  ·exact hs
  ·exact absurd (.inr rfl) (hs s2 (.inr rfl))
 have hbs:s≠b2:=by
  rcases hs with ⟨rfl,_⟩|hs
  ·exact r.ne
  ·intro e;subst e;exact hs s (.inr rfl) (.inl rfl)
 have hg2s:s2=s->∀j,j<nw L2->g2 j=g j:=fun e j hj=>by
  obtain ⟨h1,rfl⟩:=hsame e
  have:=hsl h1
  rw [hg2 j hj,hg j (by rw [<- this];exact hj)]
 clear h k2 hs hsl
 have a0:=r.h0
 have a1:=r.h1
 have b0:=r2.h0
 have b1:=r2.h1
 have hl:=r.hl
 have hl2:=r2.hl
 obtain ⟨n,hn⟩:∃n,n=nw L:=⟨_,rfl⟩
 obtain ⟨n2,hn2⟩:∃n,n=nw L2:=⟨_,rfl⟩
 have hnb:n<=1000:=by subst hn;unfold nw;omega
 have hn2b:n2<=1000:=by subst hn2;unfold nw;omega
 have hn1:1<=n2:=by subst hn2;unfold nw;omega
 have hn0:1<=n:=by subst hn;unfold nw;omega
 rw [<- hn,<- hn2]at hcs
 have hln:n<=n/\n<=n2/\1<=n:=by omega
 have hw1:∀w:World,w.cell? ⟨b,0,none⟩=some (.int .u64 (L:Int))->Calls Tryz.prog 101 #[.pointer (some ⟨b,0,none⟩)] w fun e w'=>e= .returned (.int .i64 (n:Int))/\w'=w:=fun w h=>by rw [hn];exact wordCount_c b L w (by omega) h
 have hw2:∀w:World,w.cell? ⟨b2,0,none⟩=some (.int .u64 (L2:Int))->Calls Tryz.prog 101 #[.pointer (some ⟨b2,0,none⟩)] w fun e w'=>e= .returned (.int .i64 (n2:Int))/\w'=w:=fun w h=>by rw [hn2];exact wordCount_c b2 L2 w (by omega) h
 have HW1:=Lib.hid hw1;have HW2:=Lib.hid hw2
 have A0:=Lib.hid a0;have B0:=Lib.hid b0
 have z0:=r.at (i:=n-1) (by omega)
 have z2:=r2.at (i:=n-1) (by omega)
 rw [<- hn]at a1
 rw [<- hn2]at b1
 have HN:=Lib.hid hn;have HN2:=Lib.hid hn2
 have R:=Lib.hid r;have R2:=Lib.hid r2;have HG:=Lib.hid hg;have HG2:=Lib.hid hg2;have HM:=Lib.hid hm;have HM2:=Lib.hid hm2;have HS:=Lib.hid hsame;have HGS:=Lib.hid hg2s
 clear hw1 hw2 r r2 hg hg2 hm hm2 hsame hg2s hn hn2
 have d1:decide (n<n2)=true:=by simp;omega
 have d4:decide ((n:Int)<=0)=false:=by simp;omega
 have d4':¬n=0:=by omega
 have i1:(0:Int)<=(n:Int)-1/\(n:Int)-1<n/\(n:Int)-1<n2:=by omega
 have i2:((n:Int)-1).toNat=n-1:=by omega
 go_enter Tryz.func56,Tryz.ntmps56
 go_wp2_with (go_at_call 103;refine (panicIfNull_c _ _).mono ?_;rintro e w' ⟨rfl,rfl⟩)
 refine (HW2.out _ B0.out).mono ?_
 rintro e w' ⟨rfl,rfl⟩
 go_wp2_with (fail)
 refine (HW1.out _ A0.out).mono ?_
 rintro e w' ⟨rfl,rfl⟩
 go_wp2_with (fail)
 refine (HW1.out _ A0.out).mono ?_
 rintro e w' ⟨rfl,rfl⟩
 go_wp2
 go_quiet (fail)
 go_wp2
 go_loopw [7] (fun i wr=>∃k:Nat,k<=n/\i= .int .i64 (k:Int)/\RS wr b s L c (fun j=>if j<k then g j&&& ~~~ g2 j else g j)/\∃nd,Fr (· =s) (w'.drewN nd) wr) (fun i _=>n-(intOf i).toNat)
 case atStart=>exact ⟨0,by omega,rfl,(R.out.drewN _).congr (fun j _=>by simp),_,Fr.refl _ _⟩
 case round=>
  obtain ⟨k,hk,rfl,hr,nd,hfr⟩:=hrel
  have HF:=Lib.hid hfr
  have HR:=Lib.hid hr
  by_cases hlt:k<n
  ·have c0:=hr.at (i:=k) (by rw [<- HN.out];omega)
   have f0:=hr.fr k
   rw [if_neg (Nat.lt_irrefl k)]at c0
   have c1:=other_at (k:=k) (rowIs_drewN R2.out.hs nd) (by have:=R2.out.hn;rw [<- HN2.out]at this;omega) hfr (fun e=>by rw [c0,HGS.out e k (by rw [<- HN2.out];omega)])
   clear hr hfr
   go_wp2
   refine wp_region_quiet_tail 9 (by kernel_rfl) (by kernel_rfl) ?_
   simp only [List.take_succ_cons,List.take_zero,List.drop_succ_cons,List.drop_zero]
   repeat (go_big_quiet_step (fail))
   refine wpQuiet_nil ?_
   intro _ ⟨nq,hw'⟩
   subst hw'
   go_wp2
   go_roundw
   case rel=>
    refine ⟨k+1,by omega,by go_num,?_,nd,(HF.out.drewN nq).setCell (.inl rfl) _⟩
    rw [wn_andNot]
    refine ((HR.out.drewN nq).set k _).congr (fun j _=>?_)
    by_cases e:j=k
    ·subst e;rw [if_pos rfl,if_pos (Nat.lt_succ_self j)]
    ·rw [if_neg e]
     by_cases e2:j<k
     ·rw [if_pos e2,if_pos (show j<k+1 by omega)]
     ·rw [if_neg e2,if_neg (show ¬j<k+1 by omega)]
   case measure=>simp [intOf];omega
  ·have hkn:k=n:=by omega
   subst hkn
   have d5:decide (k<k)=false:=by simp
   clear hr hfr
   go_wp2
   go_end0
   refine ⟨rfl,_,HR.out.ba (fun j hj=>?_) (fun i hi=>?_),⟨(((Fr.refl _ _).drewN nd).trans (HF.out.mono (fun r hr=> .inr (by subst hr;rfl)))),.inl rfl⟩⟩
   ·rw [HG.out j hj]
    by_cases e:j<k
    ·rw [if_pos e,HG2.out j (by rw [<- HN2.out];omega),pk_dif]
    ·rw [if_neg e,<- pk_dif,pk_out HM2.out (by rw [<- HN.out]at hj;rw [<- HN2.out];omega)]
     exact (and_not_zero _).symm
   ·rw [HM.out i hi];rfl
theorem ipDif_c(b b2 L L2:Nat)(v v2:Value)(m m2:Nat->Bool)(w:World)(h:BA w b v L m)(k2:BA w b2 v2 L2 m2)(hs:(b2=b/\m2=m)\/Sep b v b2 v2):
  Calls Tryz.prog 56 #[.pointer (some ⟨b,0,none⟩),.pointer (some ⟨b2,0,none⟩)] w (MutA w b v L (fun i=>m i&& !m2 i) (.tuple #[])):=by
 by_cases hz:0<L/\0<L2
 ·by_cases e:nw L2<=nw L
  ·exact ipDif_le b b2 L L2 v v2 m m2 w hz.1 hz.2 e h k2 hs
  ·exact ipDif_gt b b2 L L2 v v2 m m2 w hz.1 hz.2 (by omega) h k2 hs
 ·have he:(fun i=>m i&& !m2 i)=m:=by
   funext i
   by_cases e:L=0
   ·rw [h.1 i (by omega)];rfl
   ·rw [k2.1 i (by omega)];simp
  rw [he]
  have hl:=h.2.lim
  have hl2:=k2.2.lim
  have a0:=hp_cell h.2.blk 0 (v:= .int .u64 L) rfl
  have b0:=hp_cell k2.2.blk 0 (v:= .int .u64 L2) rfl
  obtain ⟨n,hn⟩:∃n,n=nw L:=⟨_,rfl⟩
  obtain ⟨n2,hn2⟩:∃n,n=nw L2:=⟨_,rfl⟩
  have hnn:n=0\/n2=0:=by subst hn hn2;unfold nw;omega
  have hnb:n<=1000:=by subst hn;unfold nw;omega
  have hn2b:n2<=1000:=by subst hn2;unfold nw;omega
  have hw1:∀w:World,w.cell? ⟨b,0,none⟩=some (.int .u64 (L:Int))->Calls Tryz.prog 101 #[.pointer (some ⟨b,0,none⟩)] w fun e w'=>e= .returned (.int .i64 (n:Int))/\w'=w:=fun w h=>by rw [hn];exact wordCount_c b L w (by omega) h
  have hw2:∀w:World,w.cell? ⟨b2,0,none⟩=some (.int .u64 (L2:Int))->Calls Tryz.prog 101 #[.pointer (some ⟨b2,0,none⟩)] w fun e w'=>e= .returned (.int .i64 (n2:Int))/\w'=w:=fun w h=>by rw [hn2];exact wordCount_c b2 L2 w (by omega) h
  have HH:=Lib.hid h
  have HW1:=Lib.hid hw1;have HW2:=Lib.hid hw2
  have A0:=Lib.hid a0;have B0:=Lib.hid b0
  clear hw1 hw2 h k2 he hn hn2 hz
  by_cases e:n<n2
  ·obtain rfl:n=0:=by omega
   clear hnn
   go_enter Tryz.func56,Tryz.ntmps56
   go_wp2_with (go_at_call 103;refine (panicIfNull_c _ _).mono ?_;rintro e w' ⟨rfl,rfl⟩)
   refine (HW2.out _ B0.out).mono ?_
   rintro e w' ⟨rfl,rfl⟩
   go_wp2_with (fail)
   refine (HW1.out _ A0.out).mono ?_
   rintro e w' ⟨rfl,rfl⟩
   go_wp2_with (fail)
   refine (HW1.out _ A0.out).mono ?_
   rintro e w' ⟨rfl,rfl⟩
   go_wp2
   first|go_end0|skip
   exact ⟨rfl,v,HH.out,Ch.refl _ _ _⟩
  ·obtain rfl:n2=0:=by omega
   clear hnn
   go_enter Tryz.func56,Tryz.ntmps56
   go_wp2_with (go_at_call 103;refine (panicIfNull_c _ _).mono ?_;rintro e w' ⟨rfl,rfl⟩)
   refine (HW2.out _ B0.out).mono ?_
   rintro e w' ⟨rfl,rfl⟩
   go_wp2_with (fail)
   refine (HW1.out _ A0.out).mono ?_
   rintro e w' ⟨rfl,rfl⟩
   go_wp2
   go_end0
   exact ⟨rfl,v,HH.out,Ch.refl _ _ _⟩
end Go.Proofs.YtobdfhlmipcjbaaGreatDoor
