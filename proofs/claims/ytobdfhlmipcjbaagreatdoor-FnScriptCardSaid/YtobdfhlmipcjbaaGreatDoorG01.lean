/- The number of bits that are set in a word, and that Go's adding of ever wider fields (math/bits.OnesCount64) comes to it. No condition. A region that draws its order, whose first operations only read and whose last ones stand in a chain behind them, may be walked in the order of the text (the ki. DERIVED: THE SHELF's CONTRACTS AT THIS DUMP, IN PLAIN WORDS (tools/lay-plain.mjs out of 'TryzShelf.lean', which tools/lay-shelf.mjs wrote): THE SAME DECLARATION. Words, rows, frames and the shape of a bit set in memory: the words that all walks of this seat are said in. No condition. Laws for slices of words: made, copied, held against nil, each said of rows by the index. No condition. math/bits.OnesCount64 answers how many bits are set, for every word. No condition. Lists in memory: a slice that is a list of values in a row of its own, append to it, and reading it. No condition beyond a length of at most a million. Contracts of the small functions that only reckon: word counts, places within a word, lengths, the first and the last bit of a word. Conditions: numbers far bel. extendSet: the set gets the length i + 1, its numbers stay. Conditions: the length does not shrink, i is below 50,000. spec.figures: a number in figures. No condition. impl.words: a copy of a list of numbers as words, by appends. Conditions: at most 1,000 numbers. One number put in, taken out, turned, asked for: Set, Clear, SetTo, Flip, Test. Conditions: numbers below 50,000. -/
import Derived.StillTail
import Derived.Deep.Quiet
import Derived.Shelf.Small.Bits
import Derived.Shelf.Strconv.Itoa0
import Derived.Shelf.Strconv.Itoa1
import Derived.Shelf.LaysM
import Derived.Shelf.Strconv.Itoa2
import Derived.Shelf.Strconv.Itoa3
import Derived.Shelf.Strconv.Itoa4
import Derived.Shelf.Bytes.Len
import Derived.Shelf.Bytes.TryGrow
import Derived.Shelf.Bytes.GrowSliceCatch
import Derived.Shelf.Bytes.GrowSlice
import Derived.Shelf.Bytes.GrowRow0
import Derived.Shelf.Bytes.GrowRow
import Derived.Shelf.Bytes.GrowNil
import Derived.Shelf.Bytes.Grow
import Derived.Shelf.Bytes.WriteString
import Derived.Shelf.Bytes.String
import Derived.Shelf.Bytes.Reset
import Derived.Shelf.Bytes.Write
import Derived.Shelf.Bytes.Bytes
import Derived.Ground.MnProg
import Derived.Shelf.Bin.BEUint64
import Derived.Shelf.Bin.BEPutUint64
import Derived.Shelf.Bytes.GrowRow0Kept
import Derived.Shelf.Bytes.GrowRowKept
import Derived.Shelf.Bytes.GrowNilKept
import Derived.Shelf.Bytes.GrowKept
import Derived.Shelf.Bytes.WriteStringKept
import Derived.Shelf.Bytes.ResetKept
import Derived.Shelf.Bytes.WriteKept
import Derived.Shelf.Bytes.BufferK
import Derived.Shelf.Bin.ReadersZ
import Derived.Shelf.Bytes.GrowRow0Own
import Derived.Shelf.Bytes.GrowRowOwn
import Derived.Shelf.Bytes.GrowNilOwn
import Derived.Shelf.Bytes.GrowOwn
import Derived.Shelf.Bytes.WriteAny
import Derived.Shelf.Bytes.SlSearch0
import Derived.Shelf.Bytes.SlEqualAll
import Derived.Shelf.Bytes.Small
import Derived.Shelf.Spec.TrailingZeros
import Derived.Ground.Names7Prog
import Derived.Test.YtobdfhlmipcjbaaGreatDoorProg
import Derived.WalkKit
import Derived.WalkSpells
import Derived.WalkLawsBesides
import Derived.BigQuiet
import Derived.WalkSmall
import Derived.Deep.OwnRows
import Derived.Lib.Hide
import Derived.Maps.AppendAt
import Derived.OwnWalk
import Derived.Lib.TrailingZeros
import Derived.Lib.ItoaMem
import Derived.Laws.IdiomStrings
import Derived.Deep.RegionHeld3
set_option linter.unusedVariables false
set_option linter.unusedSimpArgs false
set_option maxHeartbeats 2000000
set_option maxRecDepth 100000
namespace Go.Proofs.YtobdfhlmipcjbaaGreatDoor
namespace Pop
def pcN:Nat->Nat->Nat
 |0,_=>0
 |n+1,x=>x%2+pcN n (x/2)
def pc(x:BitVec 64):Nat:=(List.range 64).countP (fun j=>x.getLsbD j)
def M(c:Nat):Nat->Nat
 |0=>0
 |n+1=>c+256*M c n
def comb(g:Nat->Nat):Nat->Nat->Nat
 |0,_=>0
 |n+1,x=>g (x%256)+256*comb g n (x/256)
theorem and_split(a b:Nat):a&&&b=(a%256&&&b%256)+256*((a/256)&&&(b/256)):=by
 have h1:(a&&&b)%256=a%256&&&b%256:=Nat.and_mod_two_pow (n:=8)
 have h2:(a&&&b)/256=a/256&&&b/256:=Nat.and_div_two_pow (n:=8)
 rw [<- h1,<- h2]
 omega
theorem and_M(c n a:Nat)(hc:c<256):a&&&M c (n+1)=(a%256&&&c)+256*((a/256)&&&M c n):=by
 rw [and_split,show M c (n+1)%256=c by simp only [M];omega,show M c (n+1)/256=M c n by simp only [M];omega]
theorem stage(c p q:Nat)(hpq:p*q=256)(hp:0<p)(hc:c<256)(H:∀r,r<256->∀t,t<p->(r/p+q*t)&&&c=(r/p)&&&c):
  ∀n x,((x/p)&&&M c n)+(x&&&M c n)=comb (fun r=>((r/p)&&&c)+(r&&&c)) n x:=by
 intro n
 induction n with
 |zero=>intro x;simp [M,comb]
 |succ n ih=>
  intro x
  rw [and_M c n _ hc,and_M c n _ hc]
  simp only [comb]
  rw [<- ih (x/256)]
  have e1:x/p/256=x/256/p:=by rw [Nat.div_div_eq_div_mul,Nat.div_div_eq_div_mul,Nat.mul_comm]
  have e2:x/p%256=x%256/p+q*(x/256%p):=by
   have h0:x/p=x%256/p+q*(x/256):=by
    have:x=x%256+p*(q*(x/256)):=by rw [<- Nat.mul_assoc,hpq];omega
    conv=>lhs;rw [this]
    rw [Nat.add_mul_div_left _ _ hp]
   have h1:q*(x/256)=256*(x/256/p)+q*(x/256%p):=by
    have:=Nat.div_add_mod (x/256) p
    conv=>lhs;rw [<- this]
    rw [Nat.mul_add,<- Nat.mul_assoc,Nat.mul_comm q p,hpq]
   have h2:x%256/p+q*(x/256%p)<256:=by
    have a1:x%256/p<q:=by
     rw [Nat.div_lt_iff_lt_mul hp,Nat.mul_comm,hpq];omega
    have a2:x/256%p+1<=p:=Nat.mod_lt _ hp
    have a3:q*(x/256%p+1)<=q*p:=Nat.mul_le_mul_left _ a2
    rw [Nat.mul_add,Nat.mul_comm q p,hpq]at a3
    omega
   rw [h0,h1]
   omega
  rw [e1,e2,H (x%256) (Nat.mod_lt _ (by decide)) _ (Nat.mod_lt _ hp)]
  omega
theorem comb_lt(g:Nat->Nat)(hg:∀r,r<256->g r<256):∀n x,comb g n x<256^n:=by
 intro n
 induction n with
 |zero=>intro x;simp [comb]
 |succ n ih=>intro x;have:=ih (x/256);have:=hg (x%256) (Nat.mod_lt _ (by decide));simp only [comb,Nat.pow_succ];omega
theorem comb_comb(g h:Nat->Nat)(hg:∀r,r<256->g r<256):∀n x,comb h n (comb g n x)=comb (fun r=>h (g r)) n x:=by
 intro n
 induction n with
 |zero=>intro x;simp [comb]
 |succ n ih=>
  intro x
  have h1:=hg (x%256) (Nat.mod_lt _ (by decide))
  simp only [comb]
  rw [show (g (x%256)+256*comb g n (x/256))%256=g (x%256) by omega,show (g (x%256)+256*comb g n (x/256))/256=comb g n (x/256) by omega,ih]
theorem stage3(h:Nat->Nat)(hh:∀r,r<256->h r%16<=4/\h r/16<=4):∀n x,(comb h n x/16+comb h n x)&&&M 15 n=comb (fun r=>(h r/16+h r)&&&15) n x:=by
 intro n
 induction n with
 |zero=>intro x;simp [M,comb]
 |succ n ih=>
  intro x
  rw [and_M 15 n _ (by decide)]
  simp only [comb]
  rw [<- ih (x/256)]
  have h1:=hh (x%256) (Nat.mod_lt _ (by decide))
  have h2:comb h n (x/256)%16<=4:=by
   cases n with
   |zero=>simp [comb]
   |succ n=>have:=hh (x/256%256) (Nat.mod_lt _ (by decide));simp only [comb];omega
  generalize comb h n (x/256)=y at*
  generalize h (x%256)=u at*
  have e1:((u+256*y)/16+(u+256*y))%256=u/16+u+16*(y%16):=by omega
  have e2:((u+256*y)/16+(u+256*y))/256=y/16+y:=by omega
  rw [e1,e2]
  congr 1
  rw [Nat.and_two_pow_sub_one_eq_mod _ 4,Nat.and_two_pow_sub_one_eq_mod _ 4]
  omega
theorem pcN_split(m n:Nat):∀x,pcN (m+n) x=pcN m (x%2^m)+pcN n (x/2^m):=by
 induction m with
 |zero=>intro x;simp [pcN]
 |succ m ih=>
  intro x
  rw [show m+1+n=(m+n)+1 by omega]
  simp only [pcN]
  rw [ih (x/2)]
  have e1:x%2^(m+1)%2=x%2:=Nat.mod_mod_of_dvd _ ⟨2^m,by rw [Nat.pow_succ];omega⟩
  have e2:x%2^(m+1)/2=x/2%2^m:=by rw [Nat.pow_succ,Nat.mul_comm,Nat.mod_mul_right_div_self]
  have e3:x/2/2^m=x/2^(m+1):=by rw [Nat.div_div_eq_div_mul,Nat.pow_succ,Nat.mul_comm]
  rw [e1,e2,e3]
  omega
def pop8(r:Nat):Nat:=pcN 8 r
theorem fields(r:Nat)(hr:r<256):(fun r=>(((fun r=>((fun s=>((s/4)&&&51)+(s&&&51)) ((fun s=>((s/2)&&&85)+(s&&&85)) r))) r)/16+((fun r=>((fun s=>((s/4)&&&51)+(s&&&51)) ((fun s=>((s/2)&&&85)+(s&&&85)) r))) r))&&&15) r=pop8 r:=by
 revert r
 decide +kernel
theorem pop8_le:∀r,r<256->pop8 r<=8:=by decide +kernel
theorem comb_congr{g h:Nat->Nat}(e:∀r,r<256->g r=h r):∀n x,comb g n x=comb h n x:=by
 intro n
 induction n with
 |zero=>intro x;rfl
 |succ n ih=>intro x;simp only [comb];rw [e _ (Nat.mod_lt _ (by decide)),ih]
theorem three(x y1 y2:Nat)(e1:y1=((x/2)&&&M 85 8)+(x&&&M 85 8))(e2:y2=((y1/4)&&&M 51 8)+(y1&&&M 51 8)):
  (y2/16+y2)&&&M 15 8=comb pop8 8 x:=by
 have h1:y1=comb (fun s=>((s/2)&&&85)+(s&&&85)) 8 x:=e1.trans (stage 85 2 128 rfl (by decide) (by decide) (by decide +kernel) 8 x)
 have b1:∀r,r<256->(fun s=>((s/2)&&&85)+(s&&&85)) r<256:=by decide +kernel
 have h2:y2=comb (fun r=>((fun s=>((s/4)&&&51)+(s&&&51)) ((fun s=>((s/2)&&&85)+(s&&&85)) r))) 8 x:=by
  rw [e2,stage 51 4 64 rfl (by decide) (by decide) (by decide +kernel) 8 y1,h1,comb_comb _ _ b1]
 rw [h2,stage3 _ (by decide +kernel) 8 x]
 exact comb_congr (fun r hr=>fields r hr) 8 x
theorem up{r s t:Nat}(h:r=s+256*t)(hs:s<256):r/256=t:=by omega
theorem two{x y p q p' q':Nat}(h:x=p+256*q)(k:y=p'+256*q'):x+y=(p+p')+256*(q+q'):=by omega
theorem bnd{q p q' K:Nat}(h:q=p+256*q')(hp:p<=8)(hq:q'<=K):q<=8+256*K:=by omega
theorem div2(a:Nat):a/65536=a/256/256:=by rw [Nat.div_div_eq_div_mul]
theorem div4(a:Nat):a/4294967296=a/256/256/256/256:=by simp only [Nat.div_div_eq_div_mul,Nat.reduceMul]
theorem lim4{a b c q:Nat}(ha:a=q+q/256)(hb:b=a+a/65536)(hc:c=b+b/4294967296)(hq:q<=2305843009213693951):c<18446744073709551616:=by
 have h1:a<=2*q:=by omega
 have h2:b<=2*a:=by clear ha h1 hc;omega
 have h3:c<=2*b:=by clear ha h1 hb h2;omega
 clear ha hb hc
 omega
theorem low{c s t:Nat}(h:c=s+256*t)(hs:s<128):c%128=s:=by omega
theorem s1{a:Nat}(h:a<=8):a<256:=by omega
theorem s2{a b:Nat}(h:a<=8)(k:b<=8):a+b<256:=by omega
theorem s4{a b c d:Nat}(h:a<=8)(k:b<=8)(l:c<=8)(m:d<=8):a+b+(c+d)<256:=by omega
theorem s8{a b c d e f g i:Nat}(h:a<=8)(k:b<=8)(l:c<=8)(m:d<=8)(n:e<=8)(o:f<=8)(p:g<=8)(q:i<=8):a+b+(c+d)+(e+f+(g+i))<128:=by omega
theorem gather_aux(p0 p1 p2 p3 p4 p5 p6 p7:Nat)(k0:p0<=8)(k1:p1<=8)(k2:p2<=8)(k3:p3<=8)(k4:p4<=8)(k5:p5<=8)(k6:p6<=8)(k7:p7<=8)
  (q0 q1 q2 q3 q4 q5 q6:Nat) (h0:q0=p0+256*q1) (h1:q1=p1+256*q2) (h2:q2=p2+256*q3) (h3:q3=p3+256*q4) (h4:q4=p4+256*q5) (h5:q5=p5+256*q6) (h6:q6=p6+256*p7)
  (a b c:Nat) (ha:a=q0+q0/256) (hb:b=a+a/65536) (hc:c=b+b/4294967296):
  c%128=p0+p1+p2+p3+p4+p5+p6+p7/\c<18446744073709551616:=by
 have hq0:q0<=2305843009213693951:=Nat.le_trans (bnd h0 k0 (bnd h1 k1 (bnd h2 k2 (bnd h3 k3 (bnd h4 k4 (bnd h5 k5 (bnd h6 k6 k7))))))) (by decide)
 have hlim:=lim4 ha hb hc hq0
 have h7:p7=p7+256*0:=rfl
 rw [up h0 (s1 k0)]at ha
 have a0:=ha.trans (two h0 h1)
 have a1:=two h1 h2
 have a2:=two h2 h3
 have a3:=two h3 h4
 have a4:=two h4 h5
 have a5:=two h5 h6
 have a6:=two h6 h7
 rw [div2,up a0 (s2 k0 k1),up a1 (s2 k1 k2)]at hb
 have b0:=hb.trans (two a0 a2)
 have b1:=two a1 a3
 have b2:=two a2 a4
 have b3:=two a3 a5
 have b4:=two a4 a6
 rw [div4,up b0 (s4 k0 k1 k2 k3),up b1 (s4 k1 k2 k3 k4),up b2 (s4 k2 k3 k4 k5),up b3 (s4 k3 k4 k5 k6)]at hc
 have c0:=hc.trans (two b0 b4)
 have hs:p0+p1+(p2+p3)+(p4+p5+(p6+p7))<128:=s8 k0 k1 k2 k3 k4 k5 k6 k7
 exact ⟨(low c0 hs).trans (by simp only [Nat.add_assoc]),hlim⟩
theorem gather(x:Nat)(hx:x<2^64)(a b c:Nat)(ha:a=comb pop8 8 x+comb pop8 8 x/256)(hb:b=a+a/65536)(hc:c=b+b/4294967296):
  c%128=pcN 64 x/\c<18446744073709551616:=by
 have h0:pcN 64 x=pcN 8 (x%256)+(pcN 8 (x/256%256)+(pcN 8 (x/256/256%256)+(pcN 8 (x/256/256/256%256)+(pcN 8 (x/256/256/256/256%256)+(pcN 8 (x/256/256/256/256/256%256)+(pcN 8 (x/256/256/256/256/256/256%256)+pcN 8 (x/256/256/256/256/256/256/256))))))) :=by
  rw [pcN_split 8 56,pcN_split 8 48,pcN_split 8 40,pcN_split 8 32,pcN_split 8 24,pcN_split 8 16,pcN_split 8 8]
 have hl:x/256/256/256/256/256/256/256%256=x/256/256/256/256/256/256/256:=by
  refine Nat.mod_eq_of_lt ?_
  simp only [Nat.div_div_eq_div_mul]
  exact Nat.div_lt_of_lt_mul (by simpa using hx)
 have hp:comb pop8 8 x=pop8 (x%256)+256*(pop8 (x/256%256)+256*(pop8 (x/256/256%256)+256*(pop8 (x/256/256/256%256)+256*(pop8 (x/256/256/256/256%256)+256*(pop8 (x/256/256/256/256/256%256)+256*(pop8 (x/256/256/256/256/256/256%256)+256*pop8 (x/256/256/256/256/256/256/256))))))):=by
  simp only [comb,Nat.mul_zero,Nat.add_zero]
  rw [hl]
 have lt (y:Nat):pop8 (y%256)<=8:=pop8_le _ (Nat.mod_lt y (by decide:0<256))
 rw [hp]at ha
 clear hx
 have:=gather_aux _ _ _ _ _ _ _ _ (lt x) (lt _) (lt _) (lt _) (lt _) (lt _) (lt _) (by rw [<- hl];exact lt _) _ _ _ _ _ _ _ rfl rfl rfl rfl rfl rfl rfl a b c ha hb hc
 refine ⟨?_,this.2⟩
 rw [this.1,h0]
 simp only [pop8,Nat.add_assoc]
theorem pcN_count:∀n x,pcN n x=(List.range n).countP (fun j=>x.testBit j):=by
 intro n
 induction n with
 |zero=>intro x;rfl
 |succ n ih=>
  intro x
  rw [List.range_succ_eq_map,List.countP_cons,List.countP_map]
  simp only [pcN]
  rw [ih (x/2)]
  have e:(fun j=>(x/2).testBit j)=((fun j=>x.testBit j)∘Nat.succ):=by
   funext j;simp [Nat.testBit_succ]
  rw [e]
  have:x%2=if x.testBit 0=true then 1 else 0:=by
   rw [Nat.testBit_zero]
   rcases Nat.mod_two_eq_zero_or_one x with h|h <;> simp [h]
  omega
theorem pc_eq(x:BitVec 64):pc x=pcN 64 x.toNat:=by
 rw [pcN_count]
 rfl
theorem pc_le(x:BitVec 64):pc x<=64:=by
 have:=List.countP_le_length (p:=fun j=>x.getLsbD j) (l:=List.range 64)
 simpa [pc] using this
end Pop
end Go.Proofs.YtobdfhlmipcjbaaGreatDoor
namespace Go.Proofs.YtobdfhlmipcjbaaGreatDoor
open Go
section
variable {P:Program} {ops:Array Oper} {md:Region.Mode} {C:World->Prop}
def wpAnyLQ(P:Program)(md:Region.Mode)(ops:Array Oper)(C:World->Prop)(n:Nat)(L:Array Bool->Act->Prop):Nat->Array Bool->Act->Prop
 |0,listed,a=>L listed a
 |f+1,listed,a=>
  Region.ready md ops listed≠ []/\∀i∈Region.ready md ops listed,i<n/\qOp P ops C i (wpAnyLQ P md ops C n L f (listed.setIfInBounds i true)) a
theorem wpAny_of_headQ{n g:Nat}{L:Array Bool->Act->Prop}{Q':Exit->Act->World->Prop}(hL:∀listed a w,C w->L listed a->wpAny P md ops Q' g listed a w):
  ∀(f:Nat) (listed:Array Bool) (a:Act) (w:World),C w->wpAnyLQ P md ops C n L f listed a->wpAny P md ops Q' (f+g) listed a w
 |0,listed,a,w,hw,h=>by rw [Nat.zero_add];exact hL _ _ _ hw h
 |f+1,listed,a,w,hw,h=>by
  rw [show f+1+g=(f+g)+1 by omega]
  exact ⟨fun h0=>absurd h0 h.1,fun i hi=>wpOp_of_qOp hw (fun a' w' hw' h'=>wpAny_of_headQ hL f _ a' w' hw' h') (h.2 i hi).2⟩
theorem wpAnyLQ_first{n i:Nat}{oi:Oper}{v:Value}{L:Array Bool->Act->Prop}(hi:ops[i]? =some oi)(hsel:∀(j:Nat) (o:Oper) cs b,ops[j]? =some o->o.op≠ .select cs b)
  (hs:Region.sinkB md ops n=true) (hc:Region.chainB md ops n=true) (hn:n<ops.size) (hin:i<n)
  (hdone:∀listed a,L listed a->∀j∈Region.ready md ops listed,n<=j):
  ∀(f:Nat) (listed:Array Bool) (a:Act),HeadInv md ops n listed->
   (∀j oj,ops[j]? =some oj->j≠i->listed.getD j true=false->(∀e∈oj.after,Region.binds md e=true->e.on≠i)->oi.apart ops oj=true)->
   i∈Region.ready md ops listed->YieldsIn P ops C oi v a->
   wpAnyLQ P md ops C n L f (listed.setIfInBounds i true) (a.put oi.dst v)->wpAnyLQ P md ops C n L (f+1) listed a:=by
 intro f
 induction f with
 |zero=>
  intro listed a inv _ hr hy H
  have hun:=(mem_ready.1 hr).1
  refine ⟨fun h=>(by rw [h]at hr;cases hr),fun j hj=>?_⟩
  have hjn:j<n:=by
   rcases Nat.lt_or_ge j n with h|h
   ·exact h
   ·exact absurd hj (tail_waits hs hc hn inv _ i rfl hin hun j h)
  refine ⟨hjn,?_⟩
  by_cases hji:j=i
  ·subst hji;exact hy.qOp hi H
  ·have:=hdone _ _ H j (ready_mono hj hji)
   omega
 |succ f ih=>
  intro listed a inv hfree hr hy H
  have hun:=(mem_ready.1 hr).1
  refine ⟨fun h=>(by rw [h]at hr;cases hr),fun j hj=>?_⟩
  have hjn:j<n:=by
   rcases Nat.lt_or_ge j n with h|h
   ·exact h
   ·exact absurd hj (tail_waits hs hc hn inv _ i rfl hin hun j h)
  refine ⟨hjn,?_⟩
  by_cases hji:j=i
  ·subst hji;exact hy.qOp hi H
  ·have h1:=(H.2 j (ready_mono hj hji)).2
   obtain ⟨hjun,oj,hoj,hall⟩:=mem_ready.1 hj
   have hnot:∀e∈oj.after,Region.binds md e=true->e.on≠i:=fun e he hb heq=>by
    have h1:=hall e he hb
    rw [heq,getD_both hun]at h1
    cases h1
   have h2:=qOp_put hoj (hfree j oj hoj hji hjun hnot) (fun cs b=>hsel i oi cs b hi) (fun cs b=>hsel j oj cs b hoj) hy h1
   have hfree':∀k ok,ops[k]? =some ok->k≠i->(listed.setIfInBounds j true).getD k true=false->
     (∀e∈ok.after,Region.binds md e=true->e.on≠i)->oi.apart ops ok=true:=fun k ok hk hki hun hno=>by
    refine hfree k ok hk hki ?_ hno
    by_cases hjk:j=k
    ·subst hjk;exact hjun
    ·rw [getD_set_ne true hjk]at hun;exact hun
   refine qOp_mono (fun a' h3=>ih (listed.setIfInBounds j true) a' (inv.set hj hjn) hfree' (ready_mono hr (Ne.symm hji)) h3.1 ?_) h2
   rw [Array.setIfInBounds_comm _ _ hji]
   exact h3.2
theorem wpAnyLQ_lex{n g:Nat}{Lq:Act->Prop}(hsel:Region.noSelect ops=true)(hs:Region.sinkB md ops n=true)(hc:Region.chainB md ops n=true)(hn:n<ops.size):
  ∀(l:List Oper) (k:Nat) (listed:Array Bool) (a:Act),(∀j,j<l.length->l[j]? =ops[k+j]?)->k+l.length=n->HeadInv md ops n listed->
  Region.lexHead md ops g l.length k listed=true->wpQuiet P ops C Lq l a->
  wpAnyLQ P md ops C n (fun listed' a'=>Region.seqB md ops g n listed'=true/\Lq a') l.length listed a
 | [],k,listed,a,_,hk,_,hB,h=>by
  have:k=n:=by simpa using hk
  subst this
  exact ⟨by simpa [Region.lexHead] using hB,h⟩
 |o::l,k,listed,a,hl,hk,inv,hB,h=>by
  have h0:ops[k]? =some o:=by simpa using (hl 0 (by simp)).symm
  simp only [List.length_cons,Region.lexHead,Bool.and_eq_true]at hB
  obtain ⟨⟨hr,hf⟩,hB'⟩:=hB
  have hkn:k<n:=by simp only [List.length_cons]at hk;omega
  have hr':k∈Region.ready md ops listed:=by simpa using hr
  have hst:qOp P ops C k (wpQuiet P ops C Lq l) a:=by unfold qOp;simp only [h0];exact h
  obtain ⟨v,hy,hK⟩:=yieldsIn_of_qOp h0 hst
  exact wpAnyLQ_first h0 (Region.noSelect_spec hsel) hs hc hn hkn (fun listed' a' hL=>seqB_ready hL.1) l.length listed a inv (Region.free_spec h0 hf) hr' hy
   (wpAnyLQ_lex hsel hs hc hn l (k+1) _ _ (fun j hj=>by have:=hl (j+1) (by simp;omega);simpa [Nat.add_assoc,Nat.add_comm 1 j] using this) (by simp only [List.length_cons]at hk;omega) (inv.set hr' hkn) hB' hK)
theorem wp_region_quiet_tail{id:Nat}{Q:Exit->Act->World->Prop}{a:Act}{w:World}{l:List Oper}(n:Nat)(hm:P.follows .mixedOrders=true)(hB:Region.lexTailB .any l.toArray n=true)
  (h:wpQuiet P l.toArray (fun w'=>∃n,w'=w.drewN n) (fun a'=>∀w',(∃n,w'=w.drewN n)->wpList P l.toArray Q (l.drop n) a' w') (l.take n) a):(Code.region id l.toArray true).wp P Q a w:=by
 simp only [Region.lexTailB,Bool.and_eq_true,decide_eq_true_eq]at hB
 obtain ⟨⟨⟨⟨hsel,hn⟩,hs⟩,hc⟩,hlex⟩:=hB
 have hn':n<l.length:=by simpa using hn
 have htl:(l.take n).length=n:=by simp;omega
 have hdl:(l.drop n).length=l.toArray.size-n:=by simp
 have inv0:HeadInv .any l.toArray n (Array.replicate l.toArray.size false):=
  ⟨by simp,fun j oj _ hl=>(by rw [getD_replicate_false]at hl;cases hl),fun t _ ht=>getD_in (by simpa using ht) (getD_replicate_false _ _)⟩
 have H:=wpAnyLQ_lex (md:= .any) (g:=l.toArray.size-n) hsel hs hc hn (l.take n) 0 _ a (fun j hj=>by
  have hj':j<n:=by rw [htl]at hj;exact hj
  simp [hj']) (by simpa using htl) inv0 (by rw [htl];exact hlex) h
 refine wp_region_any hm ?_
 have:=wpAny_of_headQ (Q':=Q) (g:=l.toArray.size-n) (fun listed a' w' hw' hL=>by
  have:=wpAny_of_seq (md:= .any) (Q':=Q) (l.drop n) n listed a' w' (fun j=>by simp [List.getElem?_drop]) (by rw [hdl];exact hL.1) (hL.2 w' hw')
  rwa [hdl]at this) _ _ _ _ (⟨1,rfl⟩:∃n,{ w with drawn:=w.drawn+1 } =w.drewN n) H
 rw [htl,show n+(l.toArray.size-n)=l.toArray.size by omega]at this
 exact this
end
end Go.Proofs.YtobdfhlmipcjbaaGreatDoor
namespace Go.Proofs
open Go.Shelf
def Tryz.lays135_ren:Go.Shelf.Ren:=⟨fun|135=>152|n=>n,fun|5=>5|3=>3|9=>9|n=>n,fun|n=>n⟩
theorem Tryz.lays135:Go.Proofs.Lays.n135 Tryz.prog Tryz.lays135_ren:={
 mixed:=by kernel_rfl
 f135:=Tryz.func152.trans (congrArg some (by kernel_rfl))
 t3:=Tryz.underlying3
 a3:=Tryz.isAgg3
 z3:=Tryz.sizeOf3
 v3:=Tryz.zeroValue3
 t5:=Tryz.underlying5
 a5:=Tryz.isAgg5
 z5:=Tryz.sizeOf5
 v5:=Tryz.zeroValue5
 t9:=Tryz.underlying9
 a9:=Tryz.isAgg9
 z9:=Tryz.sizeOf9
 v9:=Tryz.zeroValue9 }
theorem Tryz.bits_OnesCount8(x:Int)(w:World)(h0:0<=x)(h1:x<=255):
  Calls Tryz.prog 152 #[.int .u8 x] w fun e w'=>e= .returned (.int .i64 (Lib.onesCount x.toNat))/\w'=w:=Any.bits_OnesCount8 Tryz.lays135 x w h0 h1
def Tryz.lays129_ren:Go.Shelf.Ren:=⟨fun|129=>124|n=>n,fun|53=>29|3=>3|4=>4|46=>28|5=>5|9=>9|n=>n,fun|n=>n⟩
theorem Tryz.lays129:Go.Proofs.Lays.n129 Tryz.prog Tryz.lays129_ren:={
 mixed:=by kernel_rfl
 f129:=Tryz.func124.trans (congrArg some (by kernel_rfl))
 t3:=Tryz.underlying3
 a3:=Tryz.isAgg3
 z3:=Tryz.sizeOf3
 v3:=Tryz.zeroValue3
 t4:=Tryz.underlying4
 a4:=Tryz.isAgg4
 z4:=Tryz.sizeOf4
 v4:=Tryz.zeroValue4
 t5:=Tryz.underlying5
 a5:=Tryz.isAgg5
 z5:=Tryz.sizeOf5
 v5:=Tryz.zeroValue5
 t9:=Tryz.underlying9
 a9:=Tryz.isAgg9
 z9:=Tryz.sizeOf9
 v9:=Tryz.zeroValue9
 t46:=Tryz.underlying28
 a46:=Tryz.isAgg28
 z46:=Tryz.sizeOf28
 v46:=Tryz.zeroValue28
 t53:=Tryz.underlying29
 a53:=Tryz.isAgg29
 z53:=Tryz.sizeOf29
 v53:=Tryz.zeroValue29 }
theorem Tryz.bits_Len64(x:Int)(w:World)(h0:0<=x)(h1:x<=18446744073709551615):
  Calls Tryz.prog 124 #[.int .u64 x] w fun e w'=>e= .returned (.int .i64 (Lib.bitLen x.toNat))/\w'=w:=Any.bits_Len64 Tryz.lays129 x w h0 h1
def Tryz.laysM173_ren:Go.Shelf.Ren:=⟨fun|173=>118|246=>140|283=>148|284=>149|285=>150|286=>151|129=>124|317=>154|318=>155|319=>156|320=>157|337=>158|338=>40|n=>n,fun|2=>2|3=>3|9=>9|4=>4|171=>165|0=>0|53=>29|37=>38|5=>5|173=>166|212=>170|51=>171|20=>20|213=>172|46=>28|232=>174|233=>111|n=>n,fun|17=>6|18=>7|19=>0|n=>n⟩
theorem Tryz.laysM173:Go.Proofs.LaysM.n173 Tryz.prog Tryz.laysM173_ren:={
 mixed:=by kernel_rfl
 f129:=Tryz.func124.trans (congrArg some (by kernel_rfl))
 f173:=Tryz.func118.trans (congrArg some (by kernel_rfl))
 f246:=Tryz.func140.trans (congrArg some (by kernel_rfl))
 f283:=Tryz.func148.trans (congrArg some (by kernel_rfl))
 f284:=Tryz.func149.trans (congrArg some (by kernel_rfl))
 f285:=Tryz.func150.trans (congrArg some (by kernel_rfl))
 f286:=Tryz.func151.trans (congrArg some (by kernel_rfl))
 f317:=Tryz.func154.trans (congrArg some (by kernel_rfl))
 f318:=Tryz.func155.trans (congrArg some (by kernel_rfl))
 f319:=Tryz.func156.trans (congrArg some (by kernel_rfl))
 f320:=Tryz.func157.trans (congrArg some (by kernel_rfl))
 f337:=Tryz.func158.trans (congrArg some (by kernel_rfl))
 f338:=Tryz.func40.trans (congrArg some (by kernel_rfl))
 t0:=Tryz.underlying0
 a0:=Tryz.isAgg0
 z0:=Tryz.sizeOf0
 v0:=Tryz.zeroValue0
 t2:=Tryz.underlying2
 a2:=Tryz.isAgg2
 z2:=Tryz.sizeOf2
 v2:=Tryz.zeroValue2
 t3:=Tryz.underlying3
 a3:=Tryz.isAgg3
 z3:=Tryz.sizeOf3
 v3:=Tryz.zeroValue3
 t4:=Tryz.underlying4
 a4:=Tryz.isAgg4
 z4:=Tryz.sizeOf4
 v4:=Tryz.zeroValue4
 t5:=Tryz.underlying5
 a5:=Tryz.isAgg5
 z5:=Tryz.sizeOf5
 v5:=Tryz.zeroValue5
 t9:=Tryz.underlying9
 a9:=Tryz.isAgg9
 z9:=Tryz.sizeOf9
 v9:=Tryz.zeroValue9
 t20:=Tryz.underlying20
 a20:=Tryz.isAgg20
 z20:=Tryz.sizeOf20
 v20:=Tryz.zeroValue20
 t37:=Tryz.underlying38
 a37:=Tryz.isAgg38
 z37:=Tryz.sizeOf38
 v37:=Tryz.zeroValue38
 t46:=Tryz.underlying28
 a46:=Tryz.isAgg28
 z46:=Tryz.sizeOf28
 v46:=Tryz.zeroValue28
 t51:=Tryz.underlying171
 a51:=Tryz.isAgg171
 z51:=Tryz.sizeOf171
 v51:=Tryz.zeroValue171
 t53:=Tryz.underlying29
 a53:=Tryz.isAgg29
 z53:=Tryz.sizeOf29
 v53:=Tryz.zeroValue29
 t171:=Tryz.underlying165
 a171:=Tryz.isAgg165
 z171:=Tryz.sizeOf165
 v171:=Tryz.zeroValue165
 t173:=Tryz.underlying166
 a173:=Tryz.isAgg166
 z173:=Tryz.sizeOf166
 v173:=Tryz.zeroValue166
 t212:=Tryz.underlying170
 a212:=Tryz.isAgg170
 z212:=Tryz.sizeOf170
 v212:=Tryz.zeroValue170
 t213:=Tryz.underlying172
 a213:=Tryz.isAgg172
 z213:=Tryz.sizeOf172
 t232:=Tryz.underlying174
 a232:=Tryz.isAgg174
 z232:=Tryz.sizeOf174
 v232:=Tryz.zeroValue174
 t233:=Tryz.underlying111
 a233:=Tryz.isAgg111
 z233:=Tryz.sizeOf111
 v233:=Tryz.zeroValue111
 g17:=by kernel_rfl
 g18:=by kernel_rfl
 g19:=by kernel_rfl
 i0:=by kernel_rfl
 i2:=by kernel_rfl
 i3:=by kernel_rfl
 i4:=by kernel_rfl
 i5:=by kernel_rfl
 i9:=by kernel_rfl
 i20:=by kernel_rfl
 i37:=by kernel_rfl
 i46:=by kernel_rfl
 i51:=by kernel_rfl
 i53:=by kernel_rfl
 i171:=by kernel_rfl
 i173:=by kernel_rfl
 i212:=by kernel_rfl
 i232:=by kernel_rfl
 i233:=by kernel_rfl
 m17:=by kernel_rfl
 m18:=by kernel_rfl
 m19:=by kernel_rfl }
open Go.RowKit Go.Sort Go.Lib in
theorem Tryz.strconv_FormatInt_10(n:Int)(h0: -9223372036854775808<=n)(h1:n<=9223372036854775807)(w:World)(htab:Lib.TabIs Tryz.prog w "internal/strconv.uint64pow10" .u64 Lib.pow10Tab):
  Calls Tryz.prog 118 #[.int .i64 n,.int .i64 10] w fun e w'=>e= .returned (.string ⟨(Lib.itoa n).toArray⟩)/\∃k os,w'=grow (w.drewN k) os:=Any.strconv_FormatInt_10 Tryz.laysM173 n h0 h1 w htab
def Tryz.laysM178_ren:Go.Shelf.Ren:=⟨fun|178=>117|251=>138|252=>139|181=>145|184=>146|290=>147|324=>153|n=>n,fun|130=>124|9=>9|3=>3|75=>99|0=>0|93=>121|91=>119|131=>154|4=>4|37=>38|20=>20|80=>97|5=>5|n=>n,fun|14=>4|n=>n⟩
theorem Tryz.laysM178:Go.Proofs.LaysM.n178 Tryz.prog Tryz.laysM178_ren:={
 mixed:=by kernel_rfl
 f178:=Tryz.func117.trans (congrArg some (by kernel_rfl))
 f181:=Tryz.func145.trans (congrArg some (by kernel_rfl))
 f184:=Tryz.func146.trans (congrArg some (by kernel_rfl))
 f251:=Tryz.func138.trans (congrArg some (by kernel_rfl))
 f252:=Tryz.func139.trans (congrArg some (by kernel_rfl))
 f290:=Tryz.func147.trans (congrArg some (by kernel_rfl))
 f324:=Tryz.func153.trans (congrArg some (by kernel_rfl))
 t0:=Tryz.underlying0
 a0:=Tryz.isAgg0
 z0:=Tryz.sizeOf0
 v0:=Tryz.zeroValue0
 t3:=Tryz.underlying3
 a3:=Tryz.isAgg3
 z3:=Tryz.sizeOf3
 v3:=Tryz.zeroValue3
 t4:=Tryz.underlying4
 a4:=Tryz.isAgg4
 z4:=Tryz.sizeOf4
 v4:=Tryz.zeroValue4
 t9:=Tryz.underlying9
 a9:=Tryz.isAgg9
 z9:=Tryz.sizeOf9
 v9:=Tryz.zeroValue9
 t20:=Tryz.underlying20
 a20:=Tryz.isAgg20
 z20:=Tryz.sizeOf20
 v20:=Tryz.zeroValue20
 t37:=Tryz.underlying38
 a37:=Tryz.isAgg38
 z37:=Tryz.sizeOf38
 v37:=Tryz.zeroValue38
 t75:=Tryz.underlying99
 a75:=Tryz.isAgg99
 z75:=Tryz.sizeOf99
 v75:=Tryz.zeroValue99
 t91:=Tryz.underlying119
 a91:=Tryz.isAgg119
 z91:=Tryz.sizeOf119
 v91:=Tryz.zeroValue119
 t93:=Tryz.underlying121
 a93:=Tryz.isAgg121
 z93:=Tryz.sizeOf121
 v93:=Tryz.zeroValue121
 t130:=Tryz.underlying124
 a130:=Tryz.isAgg124
 z130:=Tryz.sizeOf124
 v130:=Tryz.zeroValue124
 t131:=Tryz.underlying154
 a131:=Tryz.isAgg154
 z131:=Tryz.sizeOf154
 v131:=Tryz.zeroValue154
 g14:=by kernel_rfl
 t5:=Tryz.underlying5
 a5:=Tryz.isAgg5
 z5:=Tryz.sizeOf5
 v5:=Tryz.zeroValue5
 t80:=Tryz.underlying97
 a80:=Tryz.isAgg97
 z80:=Tryz.sizeOf97
 v80:=Tryz.zeroValue97
 i0:=by kernel_rfl
 i3:=by kernel_rfl
 i4:=by kernel_rfl
 i5:=by kernel_rfl
 i9:=by kernel_rfl
 i20:=by kernel_rfl
 i37:=by kernel_rfl
 i75:=by kernel_rfl
 i80:=by kernel_rfl
 i91:=by kernel_rfl
 i93:=by kernel_rfl
 i130:=by kernel_rfl
 i131:=by kernel_rfl
 m14:=by kernel_rfl }
open Go.RowKit in
def Tryz.laysM182_ren:Go.Shelf.Ren:=⟨fun|182=>119|n=>n,fun|130=>124|9=>9|4=>4|0=>0|93=>121|37=>38|3=>3|91=>119|5=>5|n=>n,fun|n=>n⟩
theorem Tryz.laysM182:Go.Proofs.LaysM.n182 Tryz.prog Tryz.laysM182_ren:={
 mixed:=by kernel_rfl
 f182:=Tryz.func119.trans (congrArg some (by kernel_rfl))
 t0:=Tryz.underlying0
 a0:=Tryz.isAgg0
 z0:=Tryz.sizeOf0
 v0:=Tryz.zeroValue0
 t3:=Tryz.underlying3
 a3:=Tryz.isAgg3
 z3:=Tryz.sizeOf3
 v3:=Tryz.zeroValue3
 t4:=Tryz.underlying4
 a4:=Tryz.isAgg4
 z4:=Tryz.sizeOf4
 v4:=Tryz.zeroValue4
 t9:=Tryz.underlying9
 a9:=Tryz.isAgg9
 z9:=Tryz.sizeOf9
 v9:=Tryz.zeroValue9
 t37:=Tryz.underlying38
 a37:=Tryz.isAgg38
 z37:=Tryz.sizeOf38
 v37:=Tryz.zeroValue38
 t93:=Tryz.underlying121
 a93:=Tryz.isAgg121
 z93:=Tryz.sizeOf121
 v93:=Tryz.zeroValue121
 t130:=Tryz.underlying124
 a130:=Tryz.isAgg124
 z130:=Tryz.sizeOf124
 v130:=Tryz.zeroValue124
 t5:=Tryz.underlying5
 a5:=Tryz.isAgg5
 z5:=Tryz.sizeOf5
 v5:=Tryz.zeroValue5
 t91:=Tryz.underlying119
 a91:=Tryz.isAgg119
 z91:=Tryz.sizeOf119
 v91:=Tryz.zeroValue119
 i0:=by kernel_rfl
 i3:=by kernel_rfl
 i4:=by kernel_rfl
 i5:=by kernel_rfl
 i9:=by kernel_rfl
 i37:=by kernel_rfl
 i91:=by kernel_rfl
 i93:=by kernel_rfl
 i130:=by kernel_rfl }
open Go.RowKit in
theorem Tryz.Buffer_String(B b:Nat)(l:List UInt8)(w:World)(h:Lib.IsBuffer 121 5 B b (Lib.byteCells l) w):
  Calls Tryz.prog 119 #[.pointer (some ⟨b,0,none⟩)] w fun e w'=>e= .returned (.string ⟨l.toArray⟩)/\∃n,w'=w.drewN n:=Any.Buffer_String Tryz.laysM182 B b l w h
def Tryz.laysM180_ren:Go.Shelf.Ren:=⟨fun|180=>116|251=>138|252=>139|181=>145|184=>146|290=>147|324=>153|n=>n,fun|130=>124|37=>38|3=>3|75=>99|0=>0|93=>121|91=>119|131=>154|4=>4|20=>20|5=>5|80=>97|9=>9|n=>n,fun|14=>4|n=>n⟩
theorem Tryz.laysM180:Go.Proofs.LaysM.n180 Tryz.prog Tryz.laysM180_ren:={
 mixed:=by kernel_rfl
 f180:=Tryz.func116.trans (congrArg some (by kernel_rfl))
 f181:=Tryz.func145.trans (congrArg some (by kernel_rfl))
 f184:=Tryz.func146.trans (congrArg some (by kernel_rfl))
 f251:=Tryz.func138.trans (congrArg some (by kernel_rfl))
 f252:=Tryz.func139.trans (congrArg some (by kernel_rfl))
 f290:=Tryz.func147.trans (congrArg some (by kernel_rfl))
 f324:=Tryz.func153.trans (congrArg some (by kernel_rfl))
 t0:=Tryz.underlying0
 a0:=Tryz.isAgg0
 z0:=Tryz.sizeOf0
 v0:=Tryz.zeroValue0
 t3:=Tryz.underlying3
 a3:=Tryz.isAgg3
 z3:=Tryz.sizeOf3
 v3:=Tryz.zeroValue3
 t4:=Tryz.underlying4
 a4:=Tryz.isAgg4
 z4:=Tryz.sizeOf4
 v4:=Tryz.zeroValue4
 t20:=Tryz.underlying20
 a20:=Tryz.isAgg20
 z20:=Tryz.sizeOf20
 v20:=Tryz.zeroValue20
 t37:=Tryz.underlying38
 a37:=Tryz.isAgg38
 z37:=Tryz.sizeOf38
 v37:=Tryz.zeroValue38
 t75:=Tryz.underlying99
 a75:=Tryz.isAgg99
 z75:=Tryz.sizeOf99
 v75:=Tryz.zeroValue99
 t91:=Tryz.underlying119
 a91:=Tryz.isAgg119
 z91:=Tryz.sizeOf119
 v91:=Tryz.zeroValue119
 t93:=Tryz.underlying121
 a93:=Tryz.isAgg121
 z93:=Tryz.sizeOf121
 v93:=Tryz.zeroValue121
 t130:=Tryz.underlying124
 a130:=Tryz.isAgg124
 z130:=Tryz.sizeOf124
 v130:=Tryz.zeroValue124
 t131:=Tryz.underlying154
 a131:=Tryz.isAgg154
 z131:=Tryz.sizeOf154
 v131:=Tryz.zeroValue154
 g14:=by kernel_rfl
 t5:=Tryz.underlying5
 a5:=Tryz.isAgg5
 z5:=Tryz.sizeOf5
 v5:=Tryz.zeroValue5
 t9:=Tryz.underlying9
 a9:=Tryz.isAgg9
 z9:=Tryz.sizeOf9
 v9:=Tryz.zeroValue9
 t80:=Tryz.underlying97
 a80:=Tryz.isAgg97
 z80:=Tryz.sizeOf97
 v80:=Tryz.zeroValue97
 i0:=by kernel_rfl
 i3:=by kernel_rfl
 i4:=by kernel_rfl
 i5:=by kernel_rfl
 i9:=by kernel_rfl
 i20:=by kernel_rfl
 i37:=by kernel_rfl
 i75:=by kernel_rfl
 i80:=by kernel_rfl
 i91:=by kernel_rfl
 i93:=by kernel_rfl
 i130:=by kernel_rfl
 i131:=by kernel_rfl
 m14:=by kernel_rfl }
open Go.RowKit in
def Tryz.laysM183_ren:Go.Shelf.Ren:=⟨fun|183=>112|n=>n,fun|130=>124|37=>38|0=>0|93=>121|3=>3|5=>5|91=>119|n=>n,fun|n=>n⟩
theorem Tryz.laysM183:Go.Proofs.LaysM.n183 Tryz.prog Tryz.laysM183_ren:={
 mixed:=by kernel_rfl
 f183:=Tryz.func112.trans (congrArg some (by kernel_rfl))
 t0:=Tryz.underlying0
 a0:=Tryz.isAgg0
 z0:=Tryz.sizeOf0
 v0:=Tryz.zeroValue0
 t3:=Tryz.underlying3
 a3:=Tryz.isAgg3
 z3:=Tryz.sizeOf3
 v3:=Tryz.zeroValue3
 t37:=Tryz.underlying38
 a37:=Tryz.isAgg38
 z37:=Tryz.sizeOf38
 v37:=Tryz.zeroValue38
 t93:=Tryz.underlying121
 a93:=Tryz.isAgg121
 z93:=Tryz.sizeOf121
 v93:=Tryz.zeroValue121
 t130:=Tryz.underlying124
 a130:=Tryz.isAgg124
 z130:=Tryz.sizeOf124
 v130:=Tryz.zeroValue124
 t5:=Tryz.underlying5
 a5:=Tryz.isAgg5
 z5:=Tryz.sizeOf5
 v5:=Tryz.zeroValue5
 t91:=Tryz.underlying119
 a91:=Tryz.isAgg119
 z91:=Tryz.sizeOf119
 v91:=Tryz.zeroValue119
 i0:=by kernel_rfl
 i3:=by kernel_rfl
 i5:=by kernel_rfl
 i37:=by kernel_rfl
 i91:=by kernel_rfl
 i93:=by kernel_rfl
 i130:=by kernel_rfl }
open Go.RowKit in
theorem Tryz.Buffer_Bytes(B b:Nat)(bs:List Value)(w:World)(h:Lib.IsBuffer 121 5 B b bs w):
  Calls Tryz.prog 112 #[.pointer (some ⟨b,0,none⟩)] w fun e w'=>∃v,e= .returned v/\w'.ownsRow B 5 1 v bs.length bs/\∃n,w'=w.drewN n:=Any.Buffer_Bytes Tryz.laysM183 B b bs w h
def Tryz.laysBin42_ren:Go.Shelf.Ren:=⟨fun|42=>135|n=>n,fun|37=>143|22=>38|33=>29|0=>0|5=>5|45=>28|n=>n,fun|n=>n⟩
theorem Tryz.laysBin42:Go.Proofs.LaysBin.n42 Tryz.prog Tryz.laysBin42_ren:={
 mixed:=by kernel_rfl
 f42:=Tryz.func135.trans (congrArg some (by kernel_rfl))
 t0:=Tryz.underlying0
 a0:=Tryz.isAgg0
 z0:=Tryz.sizeOf0
 v0:=Tryz.zeroValue0
 i0:=by kernel_rfl
 t5:=Tryz.underlying5
 a5:=Tryz.isAgg5
 z5:=Tryz.sizeOf5
 v5:=Tryz.zeroValue5
 i5:=by kernel_rfl
 t22:=Tryz.underlying38
 a22:=Tryz.isAgg38
 z22:=Tryz.sizeOf38
 v22:=Tryz.zeroValue38
 i22:=by kernel_rfl
 t33:=Tryz.underlying29
 a33:=Tryz.isAgg29
 z33:=Tryz.sizeOf29
 v33:=Tryz.zeroValue29
 i33:=by kernel_rfl
 t37:=Tryz.underlying143
 a37:=Tryz.isAgg143
 z37:=Tryz.sizeOf143
 v37:=Tryz.zeroValue143
 i37:=by kernel_rfl
 t45:=Tryz.underlying28
 a45:=Tryz.isAgg28
 z45:=Tryz.sizeOf28
 v45:=Tryz.zeroValue28
 i45:=by kernel_rfl }
open Go.RowKit in
theorem Tryz.binary_BE_Uint64(g o n c:Nat)(b0 b1 b2 b3 b4 b5 b6 b7:UInt8)(w:World)(hn:8<=n)(c0:w.cell? ⟨g,o,none⟩=some (.int .u8 b0.toNat))(c1:w.cell? ⟨g,o+1,none⟩=some (.int .u8 b1.toNat))(c2:w.cell? ⟨g,o+2,none⟩=some (.int .u8 b2.toNat))(c3:w.cell? ⟨g,o+3,none⟩=some (.int .u8 b3.toNat))(c4:w.cell? ⟨g,o+4,none⟩=some (.int .u8 b4.toNat))(c5:w.cell? ⟨g,o+5,none⟩=some (.int .u8 b5.toNat))(c6:w.cell? ⟨g,o+6,none⟩=some (.int .u8 b6.toNat))(c7:w.cell? ⟨g,o+7,none⟩=some (.int .u8 b7.toNat)):
  Calls Tryz.prog 135 #[.agg #[],.slice (some ⟨g,o,none⟩) n c] w fun e w'=>e= .returned (.int .u64 (Lib.beNat [b0,b1,b2,b3,b4,b5,b6,b7]))/\Below w.heap.size w w':=Any.binary_BE_Uint64 Tryz.laysBin42 g o n c b0 b1 b2 b3 b4 b5 b6 b7 w hn c0 c1 c2 c3 c4 c5 c6 c7
def Tryz.laysBin43_ren:Go.Shelf.Ren:=⟨fun|43=>131|n=>n,fun|37=>143|22=>38|33=>29|0=>0|5=>5|45=>28|n=>n,fun|n=>n⟩
theorem Tryz.laysBin43:Go.Proofs.LaysBin.n43 Tryz.prog Tryz.laysBin43_ren:={
 mixed:=by kernel_rfl
 f43:=Tryz.func131.trans (congrArg some (by kernel_rfl))
 t0:=Tryz.underlying0
 a0:=Tryz.isAgg0
 z0:=Tryz.sizeOf0
 v0:=Tryz.zeroValue0
 i0:=by kernel_rfl
 t5:=Tryz.underlying5
 a5:=Tryz.isAgg5
 z5:=Tryz.sizeOf5
 v5:=Tryz.zeroValue5
 i5:=by kernel_rfl
 t22:=Tryz.underlying38
 a22:=Tryz.isAgg38
 z22:=Tryz.sizeOf38
 v22:=Tryz.zeroValue38
 i22:=by kernel_rfl
 t33:=Tryz.underlying29
 a33:=Tryz.isAgg29
 z33:=Tryz.sizeOf29
 v33:=Tryz.zeroValue29
 i33:=by kernel_rfl
 t37:=Tryz.underlying143
 a37:=Tryz.isAgg143
 z37:=Tryz.sizeOf143
 v37:=Tryz.zeroValue143
 i37:=by kernel_rfl
 t45:=Tryz.underlying28
 a45:=Tryz.isAgg28
 z45:=Tryz.sizeOf28
 v45:=Tryz.zeroValue28
 i45:=by kernel_rfl }
open Go.RowKit in
theorem Tryz.binary_BE_PutUint64(g o n c v:Nat)(hv:v<18446744073709551616)(x0 x1 x2 x3 x4 x5 x6 x7:Value)(w:World)(hn:8<=n)(c0:w.cell? ⟨g,o,none⟩=some x0)(c1:w.cell? ⟨g,o+1,none⟩=some x1)(c2:w.cell? ⟨g,o+2,none⟩=some x2)(c3:w.cell? ⟨g,o+3,none⟩=some x3)(c4:w.cell? ⟨g,o+4,none⟩=some x4)(c5:w.cell? ⟨g,o+5,none⟩=some x5)(c6:w.cell? ⟨g,o+6,none⟩=some x6)(c7:w.cell? ⟨g,o+7,none⟩=some x7)(f0:w.frozen? ⟨g,o,none⟩=false)(f1:w.frozen? ⟨g,o+1,none⟩=false)(f2:w.frozen? ⟨g,o+2,none⟩=false)(f3:w.frozen? ⟨g,o+3,none⟩=false)(f4:w.frozen? ⟨g,o+4,none⟩=false)(f5:w.frozen? ⟨g,o+5,none⟩=false)(f6:w.frozen? ⟨g,o+6,none⟩=false)(f7:w.frozen? ⟨g,o+7,none⟩=false):
  Calls Tryz.prog 131 #[.agg #[],.slice (some ⟨g,o,none⟩) n c,.int .u64 v] w fun e w'=>e= .returned (.tuple #[])/\w'=(w.alloc (.cells #[] 143)).setCells g o (Lib.byteCells (Lib.beBytes 8 v)):=Any.binary_BE_PutUint64 Tryz.laysBin43 g o n c v hv x0 x1 x2 x3 x4 x5 x6 x7 w hn c0 c1 c2 c3 c4 c5 c6 c7 f0 f1 f2 f3 f4 f5 f6 f7
open Go.RowKit in
theorem Tryz.Buffer_WriteString_k(B b:Nat)(bs:List Value)(s:ByteArray)(w:World)(h:Lib.IsBuffer 121 5 B b bs w)(hBw:B<=w.heap.size)(h1:∀v∈bs,v.oneCell'=true)(hlim:bs.length+s.size<=140737488355328):
  Calls Tryz.prog 117 #[.pointer (some ⟨b,0,none⟩),.string s] w fun e w'=>e= .returned (.tuple #[.int .i64 s.size,.nilIface])/\Lib.IsBuffer 121 5 B b (bs++Lib.byteCells s.data.toList) w'/\Below B w w'/\Lib.OthersKept 5 (some b) w w':=Any.Buffer_WriteString_k Tryz.laysM178 B b bs s w h hBw h1 hlim
open Go.RowKit in
theorem Tryz.Buffer_Write_any(B b:Nat)(bs cs:List Value)(a:Addr)(n c:Nat)(w:World)(h:Lib.IsBuffer 121 5 B b bs w)(hBw:B<=w.heap.size)(h1:∀v∈bs,v.oneCell'=true)(hn:cs.length=n)(hab:a.block≠b)(hsrc:∀j v,cs[j]? =some v->w.cell? (a.add j)=some v)(h1c:∀v∈cs,v.oneCell'=true)(hlim:bs.length+n<=140737488355328):
  Calls Tryz.prog 116 #[.pointer (some ⟨b,0,none⟩),.slice (some a) n c] w fun e w'=>e= .returned (.tuple #[.int .i64 n,.nilIface])/\Lib.IsBuffer 121 5 B b (bs++cs) w'/\Below B w w'/\Lib.OthersKept 5 (some b) w w':=Any.Buffer_Write_any Tryz.laysM180 B b bs cs a n c w h hBw h1 hn hab hsrc h1c hlim
def Tryz.laysnb115_ren:Go.Shelf.Ren:=⟨fun|115=>11|n=>n,fun|37=>38|4=>4|9=>9|5=>5|n=>n,fun|n=>n⟩
theorem Tryz.laysnb115:Go.Proofs.Lays.nb115 Tryz.prog Tryz.laysnb115_ren:={
 mixed:=by kernel_rfl
 f115:=Tryz.func11.trans (congrArg some (by kernel_rfl))
 t4:=Tryz.underlying4
 a4:=Tryz.isAgg4
 z4:=Tryz.sizeOf4
 v4:=Tryz.zeroValue4
 t9:=Tryz.underlying9
 a9:=Tryz.isAgg9
 z9:=Tryz.sizeOf9
 v9:=Tryz.zeroValue9
 t37:=Tryz.underlying38
 a37:=Tryz.isAgg38
 z37:=Tryz.sizeOf38
 v37:=Tryz.zeroValue38
 t5:=Tryz.underlying5
 a5:=Tryz.isAgg5
 z5:=Tryz.sizeOf5
 v5:=Tryz.zeroValue5 }
theorem Tryz.bytes_Equal_all(p1 p2:Option Addr)(n c m d:Nat)(xs ys:List Int)(w:World)(hx:xs.length=n)(hy:ys.length=m)(h1:Lib.BytesIn w p1 n xs)(h2:Lib.BytesIn w p2 m ys):
  Calls Tryz.prog 11 #[.slice p1 n c,.slice p2 m d] w fun e w'=>e= .returned (.bool (Lib.bytesOf xs==Lib.bytesOf ys))/\w'=w:=Any.bytes_Equal_all Tryz.laysnb115 p1 p2 n c m d xs ys w hx hy h1 h2
def Tryz.lays7n29_ren:Go.Shelf.Ren:=⟨fun|29=>40|n=>n,fun|22=>29|3=>3|4=>4|25=>28|54=>111|0=>0|5=>5|n=>n,fun|1=>0|n=>n⟩
theorem Tryz.lays7n29:Go.Proofs.Lays7.n29 Tryz.prog Tryz.lays7n29_ren:={
 mixed:=by kernel_rfl
 f29:=Tryz.func40.trans (congrArg some (by kernel_rfl))
 t0:=Tryz.underlying0
 a0:=Tryz.isAgg0
 z0:=Tryz.sizeOf0
 v0:=Tryz.zeroValue0
 i0:=by kernel_rfl
 t3:=Tryz.underlying3
 a3:=Tryz.isAgg3
 z3:=Tryz.sizeOf3
 v3:=Tryz.zeroValue3
 i3:=by kernel_rfl
 t4:=Tryz.underlying4
 a4:=Tryz.isAgg4
 z4:=Tryz.sizeOf4
 v4:=Tryz.zeroValue4
 i4:=by kernel_rfl
 t5:=Tryz.underlying5
 a5:=Tryz.isAgg5
 z5:=Tryz.sizeOf5
 v5:=Tryz.zeroValue5
 i5:=by kernel_rfl
 t22:=Tryz.underlying29
 a22:=Tryz.isAgg29
 z22:=Tryz.sizeOf29
 v22:=Tryz.zeroValue29
 i22:=by kernel_rfl
 t25:=Tryz.underlying28
 a25:=Tryz.isAgg28
 z25:=Tryz.sizeOf28
 v25:=Tryz.zeroValue28
 i25:=by kernel_rfl
 t54:=Tryz.underlying111
 a54:=Tryz.isAgg111
 z54:=Tryz.sizeOf111
 g1:=by kernel_rfl }
end Go.Proofs
namespace Go.Proofs.YtobdfhlmipcjbaaGreatDoor
open Go.RowKit
def wn(x:BitVec 64):Int:=x.toNat
abbrev WV(x:BitVec 64):Value:= .int .u64 (wn x)
theorem wn_inj{x y:BitVec 64}(h:wn x=wn y):x=y:=by
 unfold wn at h
 exact BitVec.eq_of_toNat_eq (by omega)
theorem wn_eq_zero(x:BitVec 64):(wn x=0)=(x=0):=by
 apply propext
 constructor
 ·intro h;exact wn_inj (h.trans rfl)
 ·rintro rfl;rfl
theorem wn_nonneg(x:BitVec 64):0<=wn x:=by unfold wn;omega
theorem wn_lt(x:BitVec 64):wn x<=18446744073709551615:=by unfold wn;have:=x.isLt;omega
theorem wn_bd(x:BitVec 64):0<=wn x/\wn x<=18446744073709551615:=⟨wn_nonneg x,wn_lt x⟩
theorem wn_all:(18446744073709551615:Int)=wn (BitVec.allOnes 64):=by decide +kernel
theorem wn_nat(n:Nat)(h:n<18446744073709551616):((n:Int))=wn (BitVec.ofNat 64 n):=by
 unfold wn;rw [BitVec.toNat_ofNat,Nat.mod_eq_of_lt (by omega)]
theorem ofInt_wn(x:BitVec 64):BitVec.ofInt 64 (wn x)=x:=by
 unfold wn;rw [BitVec.ofInt_natCast,BitVec.ofNat_toNat,BitVec.setWidth_eq]
theorem wrap_toNat(x:BitVec 64):IntKind.u64.wrap (x.toNat:Int)=wn x:=by
 rw [IntKind.wrap_u64];unfold wn;have:=x.isLt;omega
theorem wn_and(x y:BitVec 64):bits .and .u64 (wn x) (wn y)=wn (x&&&y):=by
 show IntKind.u64.wrap ((BitVec.ofInt 64 (wn x)&&&BitVec.ofInt 64 (wn y)).toNat:Int)=_
 rw [ofInt_wn,ofInt_wn,wrap_toNat]
theorem wn_or(x y:BitVec 64):bits .or .u64 (wn x) (wn y)=wn (x|||y):=by
 show IntKind.u64.wrap ((BitVec.ofInt 64 (wn x)|||BitVec.ofInt 64 (wn y)).toNat:Int)=_
 rw [ofInt_wn,ofInt_wn,wrap_toNat]
theorem wn_xor(x y:BitVec 64):bits .xor .u64 (wn x) (wn y)=wn (x^^^y):=by
 show IntKind.u64.wrap ((BitVec.ofInt 64 (wn x)^^^BitVec.ofInt 64 (wn y)).toNat:Int)=_
 rw [ofInt_wn,ofInt_wn,wrap_toNat]
theorem wn_andNot(x y:BitVec 64):bits .andNot .u64 (wn x) (wn y)=wn (x&&& ~~~y):=by
 show IntKind.u64.wrap ((BitVec.ofInt 64 (wn x)&&& ~~~(BitVec.ofInt 64 (wn y))).toNat:Int)=_
 rw [ofInt_wn,ofInt_wn,wrap_toNat]
theorem wn_shr(x:BitVec 64)(k:Nat):wn x/(2:Int)^k=wn (x>>>k):=by
 unfold wn
 rw [BitVec.toNat_ushiftRight,Nat.shiftRight_eq_div_pow,Int.natCast_ediv,Int.natCast_pow]
 rfl
theorem wrap_wn(z:Int):IntKind.u64.wrap z=wn (BitVec.ofInt 64 z):=by
 rw [IntKind.wrap_u64];unfold wn;rw [BitVec.toNat_ofInt];omega
theorem wn_shl(x:BitVec 64)(k:Nat):IntKind.u64.wrap (wn x*(2:Int)^k)=wn (x<<<k):=by
 rw [IntKind.wrap_u64]
 unfold wn
 rw [BitVec.toNat_shiftLeft,Nat.shiftLeft_eq]
 have h:((x.toNat:Int)*2^k)=((x.toNat*2^k:Nat):Int):=by rw [Int.natCast_mul,Int.natCast_pow];rfl
 rw [h]
 omega
theorem wn_one_shl(k:Nat):IntKind.u64.wrap ((2:Int)^k)=wn ((1:BitVec 64)<<<k):=by
 have:=wn_shl 1 k
 rwa [show wn 1=1 from rfl,Int.one_mul]at this
theorem wn_sub(x y:BitVec 64):IntKind.u64.wrap (wn x-wn y)=wn (x-y):=by
 rw [wrap_wn,Int.sub_eq_add_neg,BitVec.ofInt_add,BitVec.ofInt_neg,ofInt_wn,ofInt_wn,<- BitVec.sub_eq_add_neg]
theorem wn_add(x y:BitVec 64):IntKind.u64.wrap (wn x+wn y)=wn (x+y):=by
 rw [wrap_wn,BitVec.ofInt_add,ofInt_wn,ofInt_wn]
theorem and63(n:Nat)(h:n<=18446744073709551615):bits .and .u64 (n:Int) 63=((n%64:Nat):Int):=by
 have:=u64_and_nat n 63 (by omega) (by decide)
 rw [show ((63:Nat):Int)=63 from rfl]at this
 rw [this,nat_mask6]
theorem hp_other(w:World)(a:Addr)(v:Value){r:Nat}(h:r≠a.block):(w.setCell a v).heap[r]? =w.heap[r]?:=Below.heap_setCell w a v r h
theorem hp_alloc(w:World)(o:Obj){r:Nat}(h:r<w.heap.size):(w.alloc o).heap[r]? =w.heap[r]?:=Below.heap_alloc w o r h
theorem hp_new(w:World)(o:Obj):(w.alloc o).heap[w.heap.size]? =some o:=heap_alloc_new w o
theorem hp_lt{w:World}{r:Nat}{o:Obj}(h:w.heap[r]? =some o):r<w.heap.size:=lt_of_block h
theorem hp_same(w:World)(b i:Nat)(v:Value){c:Array Value}{t:TypeId}{fz:Nat×Nat}(h:w.heap[b]? =some (.cells c t fz)):
  (w.setCell ⟨b,i,none⟩ v).heap[b]? =some (.cells (c.setIfInBounds i v) t fz):=by
 simp [World.setCell,Array.getElem?_modify,h]
theorem hp_cell{w:World}{b:Nat}{c:Array Value}{t:TypeId}{fz:Nat×Nat}(h:w.heap[b]? =some (.cells c t fz))(i:Nat){v:Value}(hi:c[i]? =some v):w.cell? ⟨b,i,none⟩=some v:=by
 simp [World.cell?,h,hi]
theorem hp_free{w:World}{b:Nat}{c:Array Value}{t:TypeId}(h:w.heap[b]? =some (.cells c t (0,0)))(i:Nat):w.frozen? ⟨b,i,none⟩=false:=by
 simp [World.frozen?,h]
structure Fr(T:Nat->Prop)(w w':World):Prop where
 os:w'.os=w.os
 tape:w'.tape=w.tape
 output:w'.output=w.output
 size:w.heap.size<=w'.heap.size
 keep:∀r,r<w.heap.size->¬T r->w'.heap[r]? =w.heap[r]?
namespace Fr
variable {T S:Nat->Prop} {w w' w'':World}
theorem refl(T:Nat->Prop)(w:World):Fr T w w:=⟨rfl,rfl,rfl,Nat.le_refl _,fun _ _ _=>rfl⟩
theorem trans(h:Fr T w w')(k:Fr T w' w''):Fr T w w'':=
 ⟨k.os.trans h.os,k.tape.trans h.tape,k.output.trans h.output,Nat.le_trans h.size k.size,fun r hr hT=>(k.keep r (Nat.lt_of_lt_of_le hr h.size) hT).trans (h.keep r hr hT)⟩
theorem trans'(h:Fr T w w')(k:Fr S w' w'')(hs:∀r,S r->T r\/w.heap.size<=r):Fr T w w'':=
 ⟨k.os.trans h.os,k.tape.trans h.tape,k.output.trans h.output,Nat.le_trans h.size k.size,fun r hr hT=>(k.keep r (Nat.lt_of_lt_of_le hr h.size) (fun hS=>(hs r hS).elim hT (fun h=>by omega))).trans (h.keep r hr hT)⟩
theorem mono(h:Fr T w w')(hs:∀r,T r->S r):Fr S w w':=⟨h.os,h.tape,h.output,h.size,fun r hr hS=>h.keep r hr (fun hT=>hS (hs r hT))⟩
theorem drewN(h:Fr T w w')(n:Nat):Fr T w (w'.drewN n):=⟨h.os,h.tape,h.output,h.size,h.keep⟩
theorem drew(h:Fr T w w'):Fr T w w'.drew:=⟨h.os,h.tape,h.output,h.size,h.keep⟩
theorem alloc(h:Fr T w w')(o:Obj):Fr T w (w'.alloc o):=
 ⟨h.os,h.tape,h.output,by have:=h.size;simp;omega,fun r hr hT=>(hp_alloc _ _ (by have:=h.size;omega)).trans (h.keep r hr hT)⟩
theorem setCell(h:Fr T w w'){a:Addr}(ha:T a.block\/w.heap.size<=a.block)(v:Value):Fr T w (w'.setCell a v):=
 ⟨h.os,h.tape,h.output,by have:=h.size;simp;omega,fun r hr hT=>(hp_other _ _ _ (fun e=>by subst e;exact ha.elim hT (fun h=>by omega))).trans (h.keep r hr hT)⟩
theorem cell(h:Fr T w w'){a:Addr}(ha:a.block<w.heap.size)(hT:¬T a.block):w'.cell? a=w.cell? a:=World.cell?_of_block (w:=w) (h.keep _ ha hT)
theorem frozen(h:Fr T w w'){a:Addr}(ha:a.block<w.heap.size)(hT:¬T a.block):w'.frozen? a=w.frozen? a:=World.frozen?_of_block (w:=w) (h.keep _ ha hT)
theorem below{B:Nat}(h:Fr T w w')(hB:B<=w.heap.size)(hT:∀r,T r->B<=r):Below B w w':=
 ⟨h.os,h.tape,h.output,h.size,fun k hk=>h.keep k (by omega) (fun hTk=>by have:=hT k hTk;omega)⟩
theorem ofBelow(h:Below w.heap.size w w'):Fr (fun _=>False) w w':=⟨h.os,h.tape,h.output,h.size,fun r hr _=>h.block r hr⟩
end Fr
theorem rowIs_keep{w w':World}{T:Nat->Prop}{b n:Nat}{t:TypeId}{f:Nat->Value}(h:w.rowIs b t n f)(k:Fr T w w')(hT:¬T b):w'.rowIs b t n f:=
 h.of_block (k.keep b h.lt hT)
theorem rowIs_drewN{w:World}{b n:Nat}{t:TypeId}{f:Nat->Value}(h:w.rowIs b t n f)(k:Nat):(w.drewN k).rowIs b t n f:=h
abbrev nw(L:Nat):Nat:=(L+63)/64
structure BS(w:World)(b:Nat)(v:Value)(L:Nat)(f:Nat->BitVec 64):Prop where
 blk:w.heap[b]? =some (.cells #[.int .u64 (L:Int),v] 75 (0,0))
 lim:L<=50000
 arr:(L=0/\v= .slice none 0 0)\/∃s c,v= .slice (some ⟨s,0,none⟩) (nw L) c/\s≠b/\nw L<=c/\c<=9223372036854775807/\∃g:Nat->BitVec 64,w.rowIs s 29 c (fun i=>WV (g i))/\∀i,i<nw L->g i=f i
def pk(m:Nat->Bool)(k:Nat):BitVec 64:=(List.range 64).foldl (fun acc j=>if m (64*k+j) then acc|||((1:BitVec 64)<<<j) else acc) 0
theorem getLsbD_one_shl(i j:Nat):((1:BitVec 64)<<<i).getLsbD j=(decide (j<64)&&decide (j=i)):=by
 rw [BitVec.getLsbD_shiftLeft]
 rw [show ((1:BitVec 64))=1#64 from rfl,BitVec.getLsbD_one]
 by_cases h1:j<64 <;> by_cases h2:j<i <;> by_cases h3:j=i <;> simp [h1,h2,h3] <;> omega
theorem pk_fold(m:Nat->Bool)(k:Nat):∀n j,((List.range n).foldl (fun acc j=>if m (64*k+j) then acc|||((1:BitVec 64)<<<j) else acc) (0:BitVec 64)).getLsbD j=(decide (j<64)&&decide (j<n)&&m (64*k+j)):=by
 intro n
 induction n with
 |zero=>intro j;simp
 |succ n ih=>
  intro j
  rw [List.range_succ,List.foldl_append]
  simp only [List.foldl_cons,List.foldl_nil]
  split
  ·rename_i h
   rw [BitVec.getLsbD_or,ih,getLsbD_one_shl]
   by_cases e:j=n
   ·subst e;simp [h]
   ·have:decide (j<n+1)=decide (j<n):=by simp;omega
    simp [e,this]
  ·rename_i h
   rw [ih]
   by_cases e:j=n
   ·subst e;simp [h]
   ·have:decide (j<n+1)=decide (j<n):=by simp;omega
    simp [this]
theorem getLsbD_pk(m:Nat->Bool)(k j:Nat):(pk m k).getLsbD j=(decide (j<64)&&m (64*k+j)):=by
 unfold pk
 rw [pk_fold]
 by_cases h:j<64 <;> simp [h]
theorem pk_ext{x:BitVec 64}{m:Nat->Bool}{k:Nat}(h:∀j,j<64->x.getLsbD j=m (64*k+j)):x=pk m k:=
 BitVec.eq_of_getLsbD_eq fun j hj=>by rw [h j hj,getLsbD_pk];simp [hj]
def BA(w:World)(b:Nat)(v:Value)(L:Nat)(m:Nat->Bool):Prop:=(∀i,L<=i->m i=false)/\BS w b v L (pk m)
theorem BS.congr{w:World}{b:Nat}{v:Value}{L:Nat}{f g:Nat->BitVec 64}(h:BS w b v L f)(e:∀i,i<nw L->f i=g i):BS w b v L g:=by
 obtain ⟨h1,h2,h3⟩:=h
 refine ⟨h1,h2,?_⟩
 rcases h3 with h3|⟨s,c,hv,hs,hc,hc',q,hq,hqf⟩
 ·exact .inl h3
 ·exact .inr ⟨s,c,hv,hs,hc,hc',q,hq,fun i hi=>(hqf i hi).trans (e i hi)⟩
def Own(b:Nat)(v:Value)(r:Nat):Prop:=r=b\/v.ownBlock=some r
theorem BS.keep{w w':World}{T:Nat->Prop}{b:Nat}{v:Value}{L:Nat}{f:Nat->BitVec 64}(h:BS w b v L f)(k:Fr T w w')(hT:∀r,Own b v r->¬T r):BS w' b v L f:=by
 obtain ⟨h1,h2,h3⟩:=h
 refine ⟨(k.keep b (hp_lt h1) (hT b (.inl rfl))).trans h1,h2,?_⟩
 rcases h3 with h3|⟨s,c,rfl,hs,hc,hc',q,hq,hqf⟩
 ·exact .inl h3
 ·exact .inr ⟨s,c,rfl,hs,hc,hc',q,rowIs_keep hq k (hT s (.inr rfl)),hqf⟩
theorem BS.drewN{w:World}{b:Nat}{v:Value}{L:Nat}{f:Nat->BitVec 64}(h:BS w b v L f)(n:Nat):BS (w.drewN n) b v L f:=h.keep ((Fr.refl (fun _=>False) w).drewN n) (fun _ _ h=>h)
theorem BS.own_lt{w:World}{b:Nat}{v:Value}{L:Nat}{f:Nat->BitVec 64}(h:BS w b v L f):∀r,Own b v r->r<w.heap.size:=by
 rintro r (rfl|hr)
 ·exact hp_lt h.blk
 ·rcases h.arr with ⟨_,rfl⟩|⟨s,c,rfl,_,_,_,q,hq,_⟩
  ·cases hr
  ·cases hr;exact hq.lt
structure Ch(w w':World)(b:Nat)(v v':Value):Prop where
 fr:Fr (Own b v) w w'
 own:v'.ownBlock=v.ownBlock\/v'.ownBlock=none\/∃r,v'.ownBlock=some r/\w.heap.size<=r
theorem Ch.refl(w:World)(b:Nat)(v:Value):Ch w w b v v:=⟨Fr.refl _ _,.inl rfl⟩
theorem Ch.trans{w w' w'':World}{b:Nat}{v v' v'':Value}(h:Ch w w' b v v')(k:Ch w' w'' b v' v''):Ch w w'' b v v'':=by
 refine ⟨h.fr.trans' k.fr ?_,?_⟩
 ·rintro r (rfl|hr)
  ·exact .inl (.inl rfl)
  ·rcases h.own with e|e|⟨r',e,hr'⟩
   ·exact .inl (.inr (by rw [<- e];exact hr))
   ·rw [e]at hr;cases hr
   ·rw [e]at hr;cases hr;exact .inr hr'
 ·rcases k.own with e|e|⟨r,e,hr⟩
  ·rw [e];exact h.own
  ·exact .inr (.inl e)
  ·exact .inr (.inr ⟨r,e,Nat.le_trans h.fr.size hr⟩)
theorem info29:(Tryz.prog.info? 29).map (fun i=>(i.zero,i.size,i.bytes))=some (some (.int .u64 0),1,8):=by kernel_rfl
theorem size29:(Tryz.prog.info? 29).map (·.size)=some 1:=by kernel_rfl
@[go_sem] theorem eql33 (w:World) (a:Option Addr) (n c:Nat):(binOp .eql 33 (.slice a n c) (.slice none 0 0)).run Tryz.prog w= .ok (.bool a.isNone) w:=
 Lib.run_eql_slice_nil w 33 29 a n c 0 0 Tryz.underlying33
@[go_sem] theorem neq33 (w:World) (a:Option Addr) (n c:Nat):(binOp .neq 33 (.slice a n c) (.slice none 0 0)).run Tryz.prog w= .ok (.bool (!a.isNone)) w:=
 run_neq_slice_nil_any w 33 29 a n c 0 0 Tryz.underlying33
theorem make33(l c:Int)(h0:0<=l)(hlc:l<=c)(hc:c<=1000000)(w:World):
  (Instr.makeSlice 33 (.int .i64 l) (.int .i64 c)).run Tryz.prog w= .ok (.slice (some ⟨w.heap.size,0,none⟩) l.toNat c.toNat) (w.alloc (.cells (madeCells #[.int .u64 0] c.toNat) 29)):=by
 obtain ⟨i,hi,hzz⟩:=Option.map_eq_some_iff.1 info29
 simp only [Prod.mk.injEq]at hzz
 obtain ⟨hz,hs,hb⟩:=hzz
 have hr:=run_make (P:=Tryz.prog) w 33 29 i _ Tryz.underlying33 hi hz .i64 .i64 l c h0 hlc (by rw [hb];omega) (by omega)
 simpa [hs,Value.cells] using hr
theorem row_made(w:World)(c:Nat):(w.alloc (.cells (madeCells #[.int .u64 0] c) 29)).rowIs w.heap.size 29 c (fun _=>WV 0):=World.rowIs_made w _ c 29
theorem one_WV(x:BitVec 64):(WV x).oneCell'=true:=rfl
theorem copy33(w:World)(ty:TypeId)(g o s so dLen dCap sLen sCap cd cs k:Nat)(h f:Nat->BitVec 64)
  (hd:w.rowIs g 29 cd (fun i=>WV (h i))) (hs:w.rowIs s 29 cs (fun i=>WV (f i))) (hk:k=Nat.min sLen dLen) (hod:o+k<=cd) (hos:so+k<=cs):
  ∃w',(Builtin.copy_ #[33,33] ty #[.slice (some ⟨g,o,none⟩) dLen dCap,.slice (some ⟨s,so,none⟩) sLen sCap]).run Tryz.prog w= .ok (goInt k) w'/\
   w'.rowIs g 29 cd (fun i=>WV (if o<=i/\i<o+k then f (so+(i-o)) else h i))/\Fr (· =g) w w':=by
 obtain ⟨cur,hg,hn,hc⟩:=hd
 have e:=run_copy_row (P:=Tryz.prog) w 33 33 ty 29 g o dLen dCap ⟨s,so,none⟩ sLen sCap cur 29 ((List.range k).map fun i=>WV (f (so+i))) Tryz.underlying33 size29 hg (by simpa using hk)
  (by
   intro j v hv
   rw [List.getElem?_map]at hv
   rcases Nat.lt_or_ge j k with hj|hj
   ·rw [List.getElem?_range hj]at hv
    simp only [Option.map_some,Option.some.injEq]at hv
    subst hv
    have:=hs.cell (i:=so+j) (by omega)
    unfold Addr.add
    split
    ·rename_i h0;subst h0;exact this
    ·exact this
   ·rw [List.getElem?_eq_none (by simpa using hj)]at hv;cases hv)
  (by simpa [hn] using hod) (by intro v hv;obtain ⟨i,_,rfl⟩:=List.mem_map.1 hv;rfl)
 simp only [List.length_map,List.length_range]at e
 refine ⟨_,e,⟨_,setRow_heap w g cur _ 29 (0,0) hg,?_,?_⟩,⟨rfl,rfl,rfl,by simp [World.setRow],fun r _ hr=>setRow_other w g r _ hr⟩⟩
 ·simp [hn];omega
 ·intro i hi
  have hlen:cur.toList.length=cd:=by simpa using hn
  rw [List.getElem?_toArray]
  show _=some (WV (if o<=i/\i<o+k then f (so+(i-o)) else h i))
  by_cases h1:i<o
  ·rw [if_neg (by omega),List.append_assoc,List.getElem?_append_left (by simp;omega),List.getElem?_take,if_pos h1]
   have:=hc i hi
   simpa using this
  ·by_cases h2:i<o+k
   ·rw [if_pos ⟨by omega,h2⟩,List.append_assoc,List.getElem?_append_right (by simp;omega),List.getElem?_append_left (by simp;omega)]
    simp only [List.length_take,hlen,List.getElem?_map]
    rw [Nat.min_eq_left (by omega),List.getElem?_range (by omega)]
    rfl
   ·rw [if_neg (by omega),List.getElem?_append_right (by simp;omega)]
    simp only [List.length_append,List.length_take,List.length_map,List.length_range,List.getElem?_drop,hlen]
    rw [show o+k+(i-(min o cd+k))=i by omega]
    have:=hc i hi
    simpa using this
theorem copy33_none(w:World)(ty:TypeId)(d a:Option Addr)(dLen dCap sLen sCap:Nat)(hn:Nat.min sLen dLen=0):
  (Builtin.copy_ #[33,33] ty #[.slice d dLen dCap,.slice a sLen sCap]).run Tryz.prog w= .ok (goInt 0) w:=
 run_copy_none w 33 33 ty 29 d a dLen dCap sLen sCap Tryz.underlying33 size29 hn
end Go.Proofs.YtobdfhlmipcjbaaGreatDoor
namespace Go.Proofs.YtobdfhlmipcjbaaGreatDoor
open Go.RowKit Pop
theorem toNat_add_lt(x y:BitVec 64)(h:x.toNat+y.toNat<18446744073709551616):(x+y).toNat=x.toNat+y.toNat:=by
 rw [BitVec.toNat_add];exact Nat.mod_eq_of_lt h
theorem shr_nat(x:BitVec 64)(k:Nat):(x>>>k).toNat=x.toNat/2^k:=by
 rw [BitVec.toNat_ushiftRight,Nat.shiftRight_eq_div_pow]
theorem ones_math(x y1 y2 p a b c:BitVec 64)(e1:y1=((x>>>1)&&&6148914691236517205)+(x&&&6148914691236517205))(e2:y2=((y1>>>2)&&&3689348814741910323)+(y1&&&3689348814741910323))
  (ep:p=((y2>>>4)+y2)&&&1085102592571150095) (ea:a=p+(p>>>8)) (eb:b=a+(a>>>16)) (ec:c=b+(b>>>32)):c.toNat%128=pc x:=by
 have m1:(6148914691236517205:BitVec 64).toNat=M 85 8:=by decide +kernel
 have m2:(3689348814741910323:BitVec 64).toNat=M 51 8:=by decide +kernel
 have m3:(1085102592571150095:BitVec 64).toNat=M 15 8:=by decide +kernel
 have s1:=stage 85 2 128 rfl (by decide) (by decide) (by decide +kernel) 8 x.toNat
 have n1:y1.toNat=((x.toNat/2)&&&M 85 8)+(x.toNat&&&M 85 8):=by
  have hlt:=comb_lt (fun r=>((r/2)&&&85)+(r&&&85)) (by decide +kernel) 8 x.toNat
  rw [<- s1]at hlt
  rw [e1,toNat_add_lt] <;> simp only [BitVec.toNat_and,shr_nat,m1,Nat.pow_one]
  exact hlt
 have s2:=stage 51 4 64 rfl (by decide) (by decide) (by decide +kernel) 8 y1.toNat
 have n2:y2.toNat=((y1.toNat/4)&&&M 51 8)+(y1.toNat&&&M 51 8):=by
  have hlt:=comb_lt (fun r=>((r/4)&&&51)+(r&&&51)) (by decide +kernel) 8 y1.toNat
  rw [<- s2]at hlt
  rw [e2,toNat_add_lt] <;> simp only [BitVec.toNat_and,shr_nat,m2,Nat.reducePow]
  exact hlt
 have n2':=n2
 rw [s2]at n2'
 have t3:=three x.toNat y1.toNat y2.toNat n1 n2
 have hy2:y2.toNat/16+y2.toNat<18446744073709551616:=by
  have hlt:comb (fun r=>((r/4)&&&51)+(r&&&51)) 8 y1.toNat<=119*M 1 8:=by
   have key:∀n x,comb (fun r=>((r/4)&&&51)+(r&&&51)) n x<=119*M 1 n:=by
    intro n
    induction n with
    |zero=>intro x;simp [comb,M]
    |succ n ih=>
     intro x
     have h1:∀r,r<256->((r/4)&&&51)+(r&&&51)<=119:=by decide +kernel
     have h2:=h1 (x%256) (Nat.mod_lt _ (by decide))
     have h3:=ih (x/256)
     simp only [comb,M]
     omega
   exact key 8 _
  rw [<- n2']at hlt
  have:(119*M 1 8:Nat)=8608480567731124087:=by decide +kernel
  rw [this]at hlt
  omega
 have np:p.toNat=comb pop8 8 x.toNat:=by
  rw [<- t3,ep,BitVec.toNat_and,toNat_add_lt] <;> simp only [shr_nat,m3,Nat.reducePow]
  exact hy2
 have g:=gather x.toNat x.isLt _ _ _ rfl rfl rfl
 rw [<- np]at g
 have hp:p.toNat+p.toNat/256<=18446744073709551615:=by
  have h:=g.2;clear g np;generalize p.toNat+p.toNat/256=q at *;omega
 have na:a.toNat=p.toNat+p.toNat/256:=by
  rw [ea,toNat_add_lt] <;> simp only [shr_nat,Nat.reducePow];omega
 rw [<- na]at g hp
 have hb:a.toNat+a.toNat/65536<=18446744073709551615:=by
  have h:=g.2;clear g np na;generalize a.toNat+a.toNat/65536=q at *;omega
 have nb:b.toNat=a.toNat+a.toNat/65536:=by
  rw [eb,toNat_add_lt] <;> simp only [shr_nat,Nat.reducePow];omega
 rw [<- nb]at g hb
 have nc:c.toNat=b.toNat+b.toNat/4294967296:=by
  rw [ec,toNat_add_lt] <;> simp only [shr_nat,Nat.reducePow];exact g.2
 rw [nc,g.1,pc_eq]
theorem and127(z:BitVec 64):bits .and .i64 (wrap64 (wn z)) 127=((z.toNat%128:Nat):Int):=by
 have h1:BitVec.ofInt 64 (wrap64 (wn z))=z:=by
  apply BitVec.eq_of_toNat_eq
  rw [BitVec.toNat_ofInt]
  unfold wrap64 wn
  have:=z.isLt
  omega
 have h2:(z&&&127#64).toNat=z.toNat%128:=by
  rw [BitVec.toNat_and];exact Nat.and_two_pow_sub_one_eq_mod z.toNat 7
 show IntKind.i64.wrap ((BitVec.ofInt 64 (wrap64 (wn z))&&&BitVec.ofInt 64 127).toNat:Int)=_
 rw [h1,show BitVec.ofInt 64 127=127#64 from rfl,h2,IntKind.wrap_i64]
 omega
theorem wn_half(x:BitVec 64):wn x/(2:Int)=wn (x>>>1):=wn_shr x 1
theorem wn_d4(x:BitVec 64):wn x/(4:Int)=wn (x>>>2):=wn_shr x 2
theorem wn_d16(x:BitVec 64):wn x/(16:Int)=wn (x>>>4):=wn_shr x 4
theorem wn_d256(x:BitVec 64):wn x/(256:Int)=wn (x>>>8):=wn_shr x 8
theorem wn_d65536(x:BitVec 64):wn x/(65536:Int)=wn (x>>>16):=wn_shr x 16
theorem wn_d32(x:BitVec 64):wn x/(4294967296:Int)=wn (x>>>32):=wn_shr x 32
theorem wn_k1(x:BitVec 64):bits .and .u64 (wn x) (6148914691236517205:Int)=wn (x&&&6148914691236517205):=wn_and x 6148914691236517205
theorem wn_k2(x:BitVec 64):bits .and .u64 (wn x) (3689348814741910323:Int)=wn (x&&&3689348814741910323):=wn_and x 3689348814741910323
theorem wn_k3(x:BitVec 64):bits .and .u64 (wn x) (1085102592571150095:Int)=wn (x&&&1085102592571150095):=wn_and x 1085102592571150095
theorem ret_i64{a b:Int}(h:a=b):Ending.returned (.int .i64 a)= .returned (.int .i64 b):=by rw [h]
theorem ones_c(x:BitVec 64)(w:World):Calls Tryz.prog 125 #[WV x] w fun e w'=>e= .returned (.int .i64 (pc x:Nat))/\w'=w:=by
 have hx:=wn_bd x
 go_enter Tryz.func125,Tryz.ntmps125
 go_wp2
 go_ret
 refine ⟨ret_i64 ?_,rfl⟩
 simp only [wn_half,wn_d4,wn_d16,wn_d256,wn_d65536,wn_d32,wn_k1,wn_k2,wn_k3,wn_add,and127]
 refine congrArg (fun n:Nat=>(n:Int)) ?_
 exact ones_math x _ _ _ _ _ _ rfl rfl rfl rfl rfl rfl
end Go.Proofs.YtobdfhlmipcjbaaGreatDoor
namespace Go.Proofs.YtobdfhlmipcjbaaGreatDoor
open Go.RowKit
abbrev Lst(w:World)(e:TypeId)(size:Nat)(v:Value)(n:Nat)(xs:List Value):Prop:=w.ownsRow 0 e size v n xs
def Src(w:World)(size:Nat)(u:Value)(m:Nat)(ys:List Value):Prop:=
 ∃A c,u= .slice A m c/\ys.length=m*size/\(0<m->∃ad,A=some ad/\∀j y,ys[j]? =some y->w.cell? (ad.add j)=some y)
theorem Lst.src{w:World}{e:TypeId}{size n:Nat}{v:Value}{xs:List Value}(h:Lst w e size v n xs):Src w size v n xs:=by
 obtain ⟨hl,h⟩:=h
 rcases h with ⟨rfl,rfl⟩|⟨g,cap,cur,rfl,hb,hg,hn,hc,hs,ht⟩
 ·exact ⟨_,_,rfl,hl,fun h=>absurd h (by omega)⟩
 ·exact ⟨_,_,rfl,hl,fun _=>⟨_,rfl,World.ownsRow.cells (w:=w) (g:=g) (base:=0) (e:=e) (size:=size) (n:=n) ⟨hl,.inr ⟨g,cap,cur,rfl,hb,hg,hn,hc,hs,ht⟩⟩ rfl⟩⟩
theorem Lst.nil(w:World)(e:TypeId)(size:Nat):Lst w e size (.slice none 0 0) 0 []:=⟨by simp,.inl ⟨rfl,rfl⟩⟩
theorem Lst.keep{w w':World}{T:Nat->Prop}{e:TypeId}{size n:Nat}{v:Value}{xs:List Value}(h:Lst w e size v n xs)(k:Fr T w w')(hT:∀r,v.ownBlock=some r->¬T r):Lst w' e size v n xs:=by
 obtain ⟨hl,h⟩:=h
 refine ⟨hl,?_⟩
 rcases h with h|⟨g,cap,cur,rfl,hb,hg,h⟩
 ·exact .inl h
 ·exact .inr ⟨g,cap,cur,rfl,hb,(k.keep g (hp_lt hg) (hT g rfl)).trans hg,h⟩
theorem Lst.drewN{w:World}{e:TypeId}{size n:Nat}{v:Value}{xs:List Value}(h:Lst w e size v n xs)(k:Nat):Lst (w.drewN k) e size v n xs:=h
theorem Lst.alloc{w:World}{e:TypeId}{size n:Nat}{v:Value}{xs:List Value}(h:Lst w e size v n xs)(o:Obj):Lst (w.alloc o) e size v n xs:=
 h.keep ((Fr.refl (fun _=>False) w).alloc o) (fun _ _ h=>h)
theorem Lst.own_lt{w:World}{e:TypeId}{size n:Nat}{v:Value}{xs:List Value}(h:Lst w e size v n xs):∀r,v.ownBlock=some r->r<w.heap.size:=by
 intro r hr
 rcases h.2 with ⟨rfl,_⟩|⟨g,cap,cur,rfl,hb,hg,_⟩
 ·cases hr
 ·cases hr;exact hp_lt hg
theorem Lst.sl{w:World}{e:TypeId}{size n:Nat}{v:Value}{xs:List Value}(h:Lst w e size v n xs):∃a c,v= .slice a n c:=by
 rcases h.2 with ⟨rfl,rfl⟩|⟨g,cap,cur,rfl,_⟩
 ·exact ⟨_,_,rfl⟩
 ·exact ⟨_,_,rfl⟩
theorem Lst.at{w:World}{e:TypeId}{n:Nat}{v:Value}{xs:List Value}(h:Lst w e 1 v n xs){i:Nat}(hi:i<n):∃s c,v= .slice (some ⟨s,0,none⟩) n c/\∃y,xs[i]? =some y/\w.cell? ⟨s,i,none⟩=some y:=by
 have hl:=h.1
 have hc:=h.src
 rcases h.2 with ⟨_,rfl⟩|⟨g,cap,cur,rfl,hb,hg,hn,hcm,hs,ht⟩
 ·omega
 ·refine ⟨g,cap,rfl,xs[i]'(by omega),List.getElem?_eq_getElem _,?_⟩
  obtain ⟨A,c,e1,_,hh⟩:=hc
  cases e1
  obtain ⟨ad,e2,hh⟩:=hh (by omega)
  cases e2
  have:=hh i _ (List.getElem?_eq_getElem (by omega))
  by_cases h0:i=0
  ·subst h0;simpa [Addr.add] using this
  ·simpa [Addr.add,h0] using this
theorem Src.drewN{w:World}{size m:Nat}{u:Value}{ys:List Value}(h:Src w size u m ys)(k:Nat):Src (w.drewN k) size u m ys:=h
theorem Src.alloc{w:World}{size m:Nat}{u:Value}{ys:List Value}(h:Src w size u m ys)(o:Obj):Src (w.alloc o) size u m ys:=by
 obtain ⟨A,c,e1,hl,hh⟩:=h
 refine ⟨A,c,e1,hl,fun hm=>?_⟩
 obtain ⟨ad,e2,hh⟩:=hh hm
 refine ⟨ad,e2,fun j y hj=>?_⟩
 have hc:=hh j y hj
 rw [World.cell?_alloc_lt];exact hc;exact block_lt_of_cell hc
theorem ofGrown{w w':World}{row:Option Nat}(h:w.grownBy w' row):Fr (fun r=>row=some r) w w':=
 ⟨h.os,h.tape,h.output,h.size,fun r hr hn=>h.block r hr (fun e=>hn e.symm)⟩
theorem run_app(t ty e:TypeId)(i:TypeInfo)(z:Value)(size bytes:Nat)(ht:Tryz.prog.underlying t=some (.slice e))(hi:Tryz.prog.info? e=some i)(hz:i.zero=some z)
  (hsize:i.size=size) (hby:i.bytes=bytes) (hzs:z.cells.size=size) (hsz:0<size) (w:World)
  (v:Value) (n:Nat) (xs:List Value) (hv:Lst w e size v n xs) (u:Value) (m:Nat) (ys:List Value) (hu:Src w size u m ys) (h1:∀y∈ys,y.oneCell'=true)
  (hlen:n+m<=1000000) (hbb:bytes<=1000):
  ∃v' w',(Builtin.append_ #[t,t] ty #[v,u]).run Tryz.prog w= .ok v' w'/\Lst w' e size v' (n+m) (xs++ys)/\Fr (fun r=>v.ownBlock=some r) w w'/\
   (v'.ownBlock=v.ownBlock\/v'.ownBlock=some w.heap.size):=by
 obtain ⟨A,c,rfl,hl,hh⟩:=hu
 have hmul:(n+m)*bytes<=1000000*1000:=Nat.mul_le_mul hlen hbb
 rcases A with _|ad
 ·have hm:m=0:=by
   rcases Nat.eq_zero_or_pos m with h0|h0
   ·exact h0
   ·obtain ⟨ad,h,_⟩:=hh h0
    cases h
  subst hm
  have hn:ys= []:=List.eq_nil_of_length_eq_zero (by simpa using hl)
  subst hn
  refine ⟨v,w,?_,by simpa using hv,Fr.refl _ _,.inl rfl⟩
  rcases hv.2 with ⟨rfl,rfl⟩|⟨g,cap,cur,rfl,_,_,hnc,_⟩
  ·simp [Builtin.append_,run_underlying ht,sizeOf,typeInfo,hi,Builtin.lenOf,Builtin.firstCells]
  ·simp [Builtin.append_,run_underlying ht,sizeOf,typeInfo,hi,Builtin.lenOf,Builtin.firstCells,hnc,storeCells]
 ·have hcells:∀j y,ys[j]? =some y->w.cell? (ad.add j)=some y:=by
   intro j y hy
   rcases Nat.eq_zero_or_pos m with h0|h0
   ·subst h0
    have hn:ys= []:=List.eq_nil_of_length_eq_zero (by simpa using hl)
    subst hn
    simp at hy
   ·obtain ⟨ad',h,hc⟩:=hh h0
    cases h
    exact hc j y hy
  obtain ⟨v',w',hrun,h2,h3,_,h5⟩:=run_append_own_at w 0 t ty e i z size bytes ht hi hz hsize hby hzs hsz v n xs hv ad m c ys hl hcells h1 (by simp only [maxLen];omega) (by omega) (Nat.zero_le _)
  exact ⟨v',w',hrun,h2,ofGrown h3,h5⟩
theorem wpList_app(t e:TypeId)(i:TypeInfo)(z:Value)(size bytes:Nat)(ht:Tryz.prog.underlying t=some (.slice e))(hi:Tryz.prog.info? e=some i)(hz:i.zero=some z)
  (hsize:i.size=size) (hby:i.bytes=bytes) (hzs:z.cells.size=size) (hsz:0<size) (hbb:bytes<=1000) (s x:Operand)
  {ops:Array Oper} {rest:List Oper} {o:Oper} {a:Act} {Q:Exit->Act->World->Prop} (hgd:o.guard=none) (ho:o.op= .call { callee:= .builtin .append,args:= #[s,x],argTypes:= #[t,t] }) (w:World)
  (v:Value) (n:Nat) (xs:List Value) (hv:Lst w e size v n xs) (u:Value) (m:Nat) (ys:List Value) (hu:Src w size u m ys) (h1:∀y∈ys,y.oneCell'=true)
  (hlen:n+m<=1000000) (hs:a.eval s=v) (hx:a.eval x=u)
  (h:∀v' w',Lst w' e size v' (n+m) (xs++ys)->Fr (fun r=>v.ownBlock=some r) w w'->(v'.ownBlock=v.ownBlock\/v'.ownBlock=some w.heap.size)->wpList Tryz.prog ops Q rest (a.put o.dst v') w'):
  wpList Tryz.prog ops Q (o::rest) a w:=by
 refine wpList_plain hgd fun K hK=>?_
 obtain ⟨v',w',hr,h2,h3,h4⟩:=run_app t o.type e i z size bytes ht hi hz hsize hby hzs hsz w v n xs hv u m ys hu h1 hlen hbb
 unfold Oper.wp execOp
 simp only [ho,resolve,invoke,builtin,Sem.run_bind,Sem.run_pure,Result.andThen_ok,List.map_toArray,List.map_cons,List.map_nil,hs,hx,hr]
 exact hK _ _ (h v' w' h2 h3 h4)
theorem src_one(w:World)(y:Value)(t:TypeId):Src (w.alloc (.cells #[y] t)) 1 (.slice (some ⟨w.heap.size,0,none⟩) 1 1) 1 [y]:=
 ⟨_,_,rfl,rfl,fun _=>⟨_,rfl,cell_one_new w y t⟩⟩
theorem info4:(Tryz.prog.info? 4).map (fun i=>(i.zero,i.size,i.bytes))=some (some (.bool false),1,1):=by kernel_rfl
theorem info28:(Tryz.prog.info? 28).map (fun i=>(i.zero,i.size,i.bytes))=some (some (.int .u64 0),1,8):=by kernel_rfl
theorem info5:(Tryz.prog.info? 5).map (fun i=>(i.zero,i.size,i.bytes))=some (some (.int .u8 0),1,1):=by kernel_rfl
end Go.Proofs.YtobdfhlmipcjbaaGreatDoor
namespace Go.Proofs.YtobdfhlmipcjbaaGreatDoor
open Go.RowKit Pop
theorem wordsIndex_c(i:Nat)(w:World)(h':i<=18446744073709551615):
  Calls Tryz.prog 99 #[.int .u64 i] w fun e w'=>e= .returned (.int .u64 (i%64:Nat))/\w'=w:=by
 go_enter Tryz.func99,Tryz.ntmps99
 go_wp2
 go_ret
 rw [and63 i h']
 exact ⟨rfl,rfl⟩
theorem wordsIndex_i(i:Int)(w:World)(h0:0<=i)(h':i<=18446744073709551615):
  Calls Tryz.prog 99 #[.int .u64 i] w fun e w'=>e= .returned (.int .u64 (i%64))/\w'=w:=by
 obtain ⟨n,rfl⟩:=Int.eq_ofNat_of_zero_le h0
 exact (wordsIndex_c n w (by omega)).mono fun e w' ⟨he,hw⟩=>⟨he.trans (by simp),hw⟩
theorem cap_c(w:World):Calls Tryz.prog 127 #[] w fun e w'=>e= .returned (.int .u64 18446744073709551615)/\w'=w:=by
 go_enter Tryz.func127,Tryz.ntmps127
 go_wp2
 go_ret
 exact ⟨rfl,rfl⟩
theorem wordsNeeded_c(i:Nat)(w:World)(h':i<=1000000):
  Calls Tryz.prog 102 #[.int .u64 i] w fun e w'=>e= .returned (.int .i64 ((i+63)/64:Nat))/\w'=w:=by
 go_enter Tryz.func102,Tryz.ntmps102
 go_wp2
 go_ret
 exact ⟨rfl,rfl⟩
theorem wordsUnb_c(i:Nat)(w:World)(h':i<=1000000):
  Calls Tryz.prog 128 #[.int .u64 i] w fun e w'=>e= .returned (.int .i64 ((i+63)/64:Nat))/\w'=w:=by
 go_enter Tryz.func128,Tryz.ntmps128
 go_wp2
 go_ret
 exact ⟨rfl,rfl⟩
theorem wordsNeeded_i(i:Int)(w:World)(h0:0<=i)(h':i<=1000000):
  Calls Tryz.prog 102 #[.int .u64 i] w fun e w'=>e= .returned (.int .i64 ((i+63)/64))/\w'=w:=by
 obtain ⟨n,rfl⟩:=Int.eq_ofNat_of_zero_le h0
 exact (wordsNeeded_c n w (by omega)).mono fun e w' ⟨he,hw⟩=>⟨he.trans (by simp),hw⟩
theorem wordCount_c(b L:Nat)(w:World)(h':L<=1000000)(h:w.cell? ⟨b,0,none⟩=some (.int .u64 L)):
  Calls Tryz.prog 101 #[.pointer (some ⟨b,0,none⟩)] w fun e w'=>e= .returned (.int .i64 ((L+63)/64:Nat))/\w'=w:=by
 go_enter Tryz.func101,Tryz.ntmps101
 go_wp2_with (go_at_call 128;refine (wordsUnb_c _ _ h').mono ?_;rintro e w' ⟨rfl,rfl⟩)
 go_ret
 exact ⟨rfl,rfl⟩
theorem bsz_c(b L:Nat)(w:World)(h':L<=1000000)(h:w.cell? ⟨b,0,none⟩=some (.int .u64 L)):
  Calls Tryz.prog 133 #[.pointer (some ⟨b,0,none⟩)] w fun e w'=>e= .returned (.int .i64 (8+8*((L+63)/64):Nat))/\w'=w:=by
 go_enter Tryz.func133,Tryz.ntmps133
 go_wp2_with (go_at_call 101;refine (wordCount_c _ _ _ h' h).mono ?_;rintro e w' ⟨rfl,rfl⟩)
 go_ret
 exact ⟨by simp,rfl⟩
theorem isLenExact_c(b L:Nat)(w:World)(h':L<=1000000)(h:w.cell? ⟨b,0,none⟩=some (.int .u64 L)):
  Calls Tryz.prog 98 #[.pointer (some ⟨b,0,none⟩)] w fun e w'=>e= .returned (.bool (decide (L%64=0)))/\w'=w:=by
 go_enter Tryz.func98,Tryz.ntmps98
 go_wp2_with (go_at_call 99;refine (wordsIndex_c _ _ (by omega)).mono ?_;rintro e w' ⟨rfl,rfl⟩)
 go_ret
 refine ⟨?_,rfl⟩
 show Ending.returned (.bool _)= .returned (.bool _)
 congr 2
 rw [Bool.eq_iff_iff];simp;omega
theorem panicIfNull_c(a:Addr)(w:World):
  Calls Tryz.prog 103 #[.pointer (some a)] w fun e w'=>e= .returned (.tuple #[])/\w'=w:=by
 go_enter Tryz.func103,Tryz.ntmps103
 go_wp2
 go_end0
 exact ⟨rfl,rfl⟩
theorem len_c(b L:Nat)(w:World)(h:w.cell? ⟨b,0,none⟩=some (.int .u64 L)):
  Calls Tryz.prog 31 #[.pointer (some ⟨b,0,none⟩)] w fun e w'=>e= .returned (.int .u64 L)/\w'=w:=by
 go_enter Tryz.func31,Tryz.ntmps31
 go_wp2
 go_ret
 exact ⟨rfl,rfl⟩
theorem words_c(b:Nat)(v:Value)(w:World)(h:w.cell? ⟨b,1,none⟩=some v):
  Calls Tryz.prog 80 #[.pointer (some ⟨b,0,none⟩)] w fun e w'=>e= .returned v/\w'=w:=by
 go_enter Tryz.func80,Tryz.ntmps80
 go_wp2
 go_ret
 exact ⟨rfl,rfl⟩
theorem sort_le(a b L M:Nat)(w:World)(h:L<=M)(h1:w.cell? ⟨a,0,none⟩=some (.int .u64 L))(h2:w.cell? ⟨b,0,none⟩=some (.int .u64 M)):
  Calls Tryz.prog 105 #[.pointer (some ⟨a,0,none⟩),.pointer (some ⟨b,0,none⟩)] w fun e w'=>e= .returned (.tuple #[.pointer (some ⟨a,0,none⟩),.pointer (some ⟨b,0,none⟩)])/\∃n,w'=w.drewN n:=by
 go_enter Tryz.func105,Tryz.ntmps105
 go_wp2
 go_quiet (fail)
 go_wp2
 go_ret2
 exact ⟨rfl,_,rfl⟩
theorem sort_gt(a b L M:Nat)(w:World)(h:M<L)(h1:w.cell? ⟨a,0,none⟩=some (.int .u64 L))(h2:w.cell? ⟨b,0,none⟩=some (.int .u64 M)):
  Calls Tryz.prog 105 #[.pointer (some ⟨a,0,none⟩),.pointer (some ⟨b,0,none⟩)] w fun e w'=>e= .returned (.tuple #[.pointer (some ⟨b,0,none⟩),.pointer (some ⟨a,0,none⟩)])/\∃n,w'=w.drewN n:=by
 go_enter Tryz.func105,Tryz.ntmps105
 go_wp2
 go_quiet (fail)
 go_wp2
 go_ret2
 exact ⟨rfl,_,rfl⟩
def ctz(x:BitVec 64):Nat:=Lib.ctz 64 x.toNat
def blen(x:BitVec 64):Nat:=Lib.bitLen x.toNat
abbrev Tab64(w:World):Prop:=TabAt 0 Lib.deBruijn64tab w
theorem ctz_c(x:BitVec 64)(w:World)(hT:Tab64 w):Calls Tryz.prog 40 #[WV x] w fun e w'=>e= .returned (.int .i64 (ctz x))/\w'=w:=
 Any7.bits_TrailingZeros64 Tryz.lays7n29 x.toNat x.isLt w (fun _=>hT)
theorem blen_c(x:BitVec 64)(w:World):Calls Tryz.prog 124 #[WV x] w fun e w'=>e= .returned (.int .i64 (blen x))/\w'=w:=by
 have:=Tryz.bits_Len64 (wn x) w (wn_nonneg x) (wn_lt x)
 rwa [show (wn x).toNat=x.toNat from rfl]at this
theorem toNat_ne{x:BitVec 64}(h:x≠0):0<x.toNat:=by
 rcases Nat.eq_zero_or_pos x.toNat with h0|h0
 ·exact absurd (BitVec.eq_of_toNat_eq h0) h
 ·exact h0
theorem ctz_zero:ctz 0=64:=rfl
theorem ctz_spec{x:BitVec 64}(h:x≠0):ctz x<64/\x.getLsbD (ctz x)=true/\∀j,j<ctz x->x.getLsbD j=false:=by
 have h0:=toNat_ne h
 have hc:ctz x=Lib.ctzFrom 64 x.toNat:=by unfold ctz Lib.ctz;rw [if_neg (by omega)]
 obtain ⟨m,hm,hlt⟩:=Lib.ctzFrom_spec 64 x.toNat h0 x.isLt
 rw [<- hc]at hm hlt
 refine ⟨hlt,?_,fun j hj=>?_⟩
 ·show x.toNat.testBit _=true
  rw [hm,Nat.testBit_two_pow_mul]
  simp [Nat.testBit_zero]
 ·show x.toNat.testBit _=false
  rw [hm,Nat.testBit_two_pow_mul]
  simp;omega
theorem bitLenAux_spec:∀f x,0<x->x<2^f->1<=Lib.bitLenAux f x/\Lib.bitLenAux f x<=f/\2^(Lib.bitLenAux f x-1)<=x/\x<2^Lib.bitLenAux f x:=by
 intro f
 induction f with
 |zero=>intro x h0 h;simp at h;omega
 |succ f ih=>
  intro x h0 h
  unfold Lib.bitLenAux
  rw [if_neg (by omega)]
  by_cases h1:x/2=0
  ·have:x=1:=by omega
   subst this
   have:Lib.bitLenAux f (1/2)=0:=by cases f <;> simp [Lib.bitLenAux]
   rw [this]
   simp
  ·have ⟨a,b,c,d⟩:=ih (x/2) (by omega) (by rw [Nat.pow_succ]at h;omega)
   generalize Lib.bitLenAux f (x/2)=n at*
   refine ⟨by omega,by omega,?_,?_⟩
   ·obtain ⟨k,rfl⟩:∃k,n=k+1:=⟨n-1,by omega⟩
    simp only [Nat.add_sub_cancel,Nat.add_sub_cancel_left] at*
    rw [Nat.pow_succ];omega
   ·rw [Nat.add_comm 1 n,Nat.pow_succ];omega
theorem blen_spec{x:BitVec 64}(h:x≠0):1<=blen x/\blen x<=64/\x.getLsbD (blen x-1)=true/\∀j,blen x<=j->x.getLsbD j=false:=by
 have h0:=toNat_ne h
 have ⟨a,b,c,d⟩:=bitLenAux_spec 64 x.toNat h0 x.isLt
 refine ⟨a,b,?_,fun j hj=>?_⟩
 ·show x.toNat.testBit _=true
  unfold blen Lib.bitLen
  generalize Lib.bitLenAux 64 x.toNat=n at*
  rw [Nat.testBit_eq_decide_div_mod_eq]
  have:x.toNat/2^(n-1)=1:=by
   obtain ⟨k,rfl⟩:∃k,n=k+1:=⟨n-1,by omega⟩
   simp only [Nat.add_sub_cancel] at*
   rw [Nat.pow_succ]at d
   exact Nat.div_eq_of_lt_le (by omega) (by omega)
  simp [this]
 ·show x.toNat.testBit _=false
  exact Nat.testBit_lt_two_pow (Nat.lt_of_lt_of_le d (Nat.pow_le_pow_right (by decide) hj))
end Go.Proofs.YtobdfhlmipcjbaaGreatDoor
namespace Go.Proofs.YtobdfhlmipcjbaaGreatDoor
open Go.RowKit
def ExtPost(w:World)(b:Nat)(v:Value)(L:Nat)(f:Nat->BitVec 64)(L':Nat)(e:Ending)(w':World):Prop:=
 e= .returned (.tuple #[])/\∃v',BS w' b v' L' (fun k=>if k<nw L then f k else 0)/\Ch w w' b v v'
theorem hp_upd{w:World}{b:Nat}{x y:Value}{t:TypeId}{fz:Nat×Nat}(x' y':Value)(h:w.heap[b]? =some (.cells #[x,y] t fz)):
  ((w.setCell ⟨b,1,none⟩ y').setCell ⟨b,0,none⟩ x').heap[b]? =some (.cells #[x',y'] t fz):=
 hp_same _ b 0 x' (hp_same w b 1 y' h)
theorem hp_upd0{w:World}{b:Nat}{x y:Value}{t:TypeId}{fz:Nat×Nat}(x':Value)(h:w.heap[b]? =some (.cells #[x,y] t fz)):
  (w.setCell ⟨b,0,none⟩ x').heap[b]? =some (.cells #[x',y] t fz):=hp_same w b 0 x' h
theorem hp_upd1{w:World}{b:Nat}{x y:Value}{t:TypeId}{fz:Nat×Nat}(y':Value)(h:w.heap[b]? =some (.cells #[x,y] t fz)):
  (w.setCell ⟨b,1,none⟩ y').heap[b]? =some (.cells #[x,y'] t fz):=hp_same w b 1 y' h
theorem ret_arg{a b:Value}(h:a=b):Ending.returned a= .returned b:=by rw [h]
theorem ext_nil(b i:Nat)(f:Nat->BitVec 64)(w:World)(hi:i<50000)(hb:w.heap[b]? =some (.cells #[.int .u64 0,.slice none 0 0] 75 (0,0))):
  Calls Tryz.prog 100 #[.pointer (some ⟨b,0,none⟩),.int .u64 i] w (ExtPost w b (.slice none 0 0) 0 f (i+1)):=by
 have h0:=hp_cell hb 0 (v:= .int .u64 0) rfl
 have h1:=hp_cell hb 1 (v:= .slice none 0 0) rfl
 have f0:=hp_free hb 0
 have f1:=hp_free hb 1
 have hmk:=make33 (((i:Int)+1+63)/64) (((i:Int)+1+63)/64) (by omega) (by omega) (by omega)
 rw [show (((i:Int)+1+63)/64).toNat=(i+1+63)/64 by omega]at hmk
 have hlt:=hp_lt hb
 have hge:decide ((18446744073709551615:Int)<=(i:Int))=false:=by simp;omega
 go_enter Tryz.func100,Tryz.ntmps100
 go_wp2_with (first|(go_at_call 127;refine (cap_c _).mono ?_;rintro e w' ⟨rfl,rfl⟩)|(go_at_call 102;refine (wordsNeeded_i _ _ (by omega) (by omega)).mono ?_;rintro e w' ⟨rfl,rfl⟩))
 go_end0
 refine ⟨rfl,.slice (some ⟨w'.heap.size,0,none⟩) (nw (i+1)) (nw (i+1)),⟨?_,by omega,.inr ⟨w'.heap.size,nw (i+1),rfl,by omega,Nat.le_refl _,by unfold nw;omega,fun _=>0,?_,?_⟩⟩,⟨?_,.inr (.inr ⟨_,rfl,Nat.le_refl _⟩)⟩⟩
 ·rw [hp_alloc _ _ (by simpa using hlt)]
  exact hp_upd _ _ hb
 ·have:=row_made ((w'.setCell ⟨b,1,none⟩ (.slice (some ⟨w'.heap.size,0,none⟩) ((i+1+63)/64) ((i+1+63)/64))).setCell ⟨b,0,none⟩ (.int .u64 ((i:Int)+1))) ((i+1+63)/64)
  simpa using this
 ·intro k _;simp [nw]
 ·exact (((Fr.refl _ _).setCell (.inl (.inl rfl)) _).setCell (.inl (.inl rfl)) _).alloc _
theorem ext_in(b s L c i:Nat)(f:Nat->BitVec 64)(w:World)(hL:L<=i)(hi:i<50000)(hb:w.heap[b]? =some (.cells #[.int .u64 L,.slice (some ⟨s,0,none⟩) (nw L) c] 75 (0,0)))
  (hs:w.rowIs s 29 c (fun k=>WV (f k))) (ne:s≠b) (hn:nw L<=c) (hc:nw (i+1)<=c) (hc2:c<=9223372036854775807):
  Calls Tryz.prog 100 #[.pointer (some ⟨b,0,none⟩),.int .u64 i] w (ExtPost w b (.slice (some ⟨s,0,none⟩) (nw L) c) L f (i+1)):=by
 have h0:=hp_cell hb 0 (v:= .int .u64 L) rfl
 have h1:=hp_cell hb 1 (v:= .slice (some ⟨s,0,none⟩) (nw L) c) rfl
 have f0:=hp_free hb 0
 have f1:=hp_free hb 1
 have hlt:=hp_lt hb
 have hge:decide ((18446744073709551615:Int)<=(i:Int))=false:=by simp;omega
 obtain ⟨n,hn'⟩:∃n,n=nw L:=⟨_,rfl⟩
 obtain ⟨n1,hn1⟩:∃n1,n1=nw (i+1):=⟨_,rfl⟩
 have hnn:n<=n1:=by subst hn' hn1;unfold nw;omega
 have e1:(((i:Int)+1+63)/64)=n1:=by subst hn1;unfold nw;omega
 rw [<- hn']at h1 hb hn
 rw [<- hn1]at hc
 have HN:=Lib.hid hn';clear hn'
 have HN1:=Lib.hid hn1;clear hn1
 have hwn:∀w,Calls Tryz.prog 102 #[.int .u64 ((i:Int)+1)] w fun e w'=>e= .returned (.int .i64 n1)/\w'=w:=fun w=>by
  rw [<- e1];exact wordsNeeded_i _ _ (by omega) (by omega)
 have HW:=Lib.hid hwn;clear hwn e1
 have hc0:decide (n1<=c)=true:=by simpa using hc
 by_cases hgrow:n<n1
 ·have hg:decide (n<n1)=true:=by simpa using hgrow
  have hsz:¬n=c:=by omega
  go_enter Tryz.func100,Tryz.ntmps100
  go_wp2_with (first|(go_at_call 127;refine (cap_c _).mono ?_;rintro e w' ⟨rfl,rfl⟩)|(go_at_call 102;refine (HW.out _).mono ?_;rintro e w' ⟨rfl,rfl⟩))
  have hb1:=hp_upd1 (.slice (some ⟨s,0,none⟩) n1 c) hb
  have hs1:=hs.setOther (a:=⟨b,1,none⟩) ne (.slice (some ⟨s,0,none⟩) n1 c)
  have hfr1:Fr (Own b (.slice (some ⟨s,0,none⟩) n c)) w' (w'.setCell ⟨b,1,none⟩ (.slice (some ⟨s,0,none⟩) n1 c)):=(Fr.refl _ _).setCell (.inl (.inl rfl)) _
  generalize w'.setCell ⟨b,1,none⟩ (.slice (some ⟨s,0,none⟩) n1 c)=w1 at*
  have HS:=Lib.hid hs;have HB:=Lib.hid hb;clear hs hb h0 h1 f0 f1
  have g0:=hp_cell hb1 0 (v:= .int .u64 L) rfl
  have gf0:=hp_free hb1 0
  have HB1:=Lib.hid hb1;have HS1:=Lib.hid hs1;have HF1:=Lib.hid hfr1;clear hb1 hs1 hfr1
  go_loopw [58] (fun i wr=>∃k:Nat,k<=n1-n/\i= .int .i64 k/\wr.rowIs s 29 c (fun j=>WV (if n<=j/\j<n+k then 0 else f j))/\Fr (· =s) w1 wr) (fun i _=>(n1-n)-(intOf i).toNat)
  case atStart=>exact ⟨0,by omega,rfl,HS1.out.congr (fun j _=>by rw [if_neg (by omega)]),Fr.refl _ _⟩
  case round=>
   obtain ⟨k,hk,rfl,hrow,hfr⟩:=hrel
   have HR:=Lib.hid hrow;have HF:=Lib.hid hfr
   have gb:=(hfr.keep b (hp_lt HB1.out) (fun e=>ne e.symm)).trans HB1.out
   have q0:=hp_cell gb 0 (v:= .int .u64 L) rfl
   have qf0:=hp_free gb 0
   have HGB:=Lib.hid gb
   by_cases hlt2:k<n1-n
   ·have hcell:=hrow.cell (i:=n+k) (by omega)
    have hfz:=hrow.frozen (n+k)
    clear hrow hfr gb
    go_wp2
    go_roundw
    case rel=>
     refine ⟨k+1,by omega,by go_num,(HR.out.set (n+k) _).congr (fun j _=>?_),HF.out.setCell (.inl rfl) _⟩
     by_cases e:j=n+k
     ·subst e;simp [wn]
     ·simp only [e,if_false]
      by_cases e2:n<=j/\j<n+k
      ·rw [if_pos e2,if_pos (by omega)]
      ·rw [if_neg e2,if_neg (by omega)]
    case measure=>simp [intOf];omega
   ·have hkk:k=n1-n:=by omega
    subst hkk
    clear hrow hfr gb
    go_wp2
    go_end0
    have hN:=HN.out;have hN1:=HN1.out
    subst hN hN1
    refine ⟨rfl,.slice (some ⟨s,0,none⟩) (nw (i+1)) c,⟨hp_upd0 _ HGB.out,by omega,.inr ⟨s,c,rfl,ne,hc,hc2,_,HR.out.setOther (a:=⟨b,0,none⟩) ne _,?_⟩⟩,⟨?_,.inl rfl⟩⟩
    ·intro k hk
     by_cases e:k<nw L
     ·rw [if_neg (by omega),if_pos e]
     ·rw [if_pos (by omega),if_neg e]
    ·exact ((HF1.out.trans' HF.out (fun r hr=> .inl (.inr (by subst hr;rfl)))).setCell (.inl (.inl rfl)) _)
 ·have hg:decide (n<n1)=false:=by simpa using hgrow
  have e1:n1=n:=by omega
  subst e1
  go_enter Tryz.func100,Tryz.ntmps100
  go_wp2_with (first|(go_at_call 127;refine (cap_c _).mono ?_;rintro e w' ⟨rfl,rfl⟩)|(go_at_call 102;refine (HW.out _).mono ?_;rintro e w' ⟨rfl,rfl⟩))
  go_end0
  have hN:=HN.out;have hN1:=HN1.out
  refine ⟨rfl,.slice (some ⟨s,0,none⟩) n1 c,⟨?_,by omega,.inr ⟨s,c,by rw [hN1],ne,by rw [<- hN1];exact hc,hc2,_,(hs.setOther (a:=⟨b,1,none⟩) ne _).setOther (a:=⟨b,0,none⟩) ne _,?_⟩⟩,⟨?_,.inl rfl⟩⟩
  ·exact hp_upd _ _ hb
  ·intro k hk;rw [if_pos (by rw [<- hN1]at hk;rw [<- hN];exact hk)]
  ·exact ((Fr.refl _ _).setCell (.inl (.inl rfl)) _).setCell (.inl (.inl rfl)) _
theorem ext_grow(b s L c i:Nat)(f:Nat->BitVec 64)(w:World)(hL:L<=i)(hi:i<50000)(hb:w.heap[b]? =some (.cells #[.int .u64 L,.slice (some ⟨s,0,none⟩) (nw L) c] 75 (0,0)))
  (hs:w.rowIs s 29 c (fun k=>WV (f k))) (ne:s≠b) (hn:nw L<=c) (hc:c<nw (i+1)):
  Calls Tryz.prog 100 #[.pointer (some ⟨b,0,none⟩),.int .u64 i] w (ExtPost w b (.slice (some ⟨s,0,none⟩) (nw L) c) L f (i+1)):=by
 have h0:=hp_cell hb 0 (v:= .int .u64 L) rfl
 have h1:=hp_cell hb 1 (v:= .slice (some ⟨s,0,none⟩) (nw L) c) rfl
 have f0:=hp_free hb 0
 have f1:=hp_free hb 1
 have hlt:=hp_lt hb
 have hslt:=hs.lt
 have hge:decide ((18446744073709551615:Int)<=(i:Int))=false:=by simp;omega
 obtain ⟨n,hn'⟩:∃n,n=nw L:=⟨_,rfl⟩
 obtain ⟨n1,hn1⟩:∃n1,n1=nw (i+1):=⟨_,rfl⟩
 have hnn:n<=n1:=by subst hn' hn1;unfold nw;omega
 have hnb:n1<=1000:=by subst hn1;unfold nw;omega
 have e1:(((i:Int)+1+63)/64)=n1:=by subst hn1;unfold nw;omega
 rw [<- hn']at h1 hb hn
 rw [<- hn1]at hc
 have HN:=Lib.hid hn';clear hn'
 have HN1:=Lib.hid hn1;clear hn1
 have hwn:∀w,Calls Tryz.prog 102 #[.int .u64 ((i:Int)+1)] w fun e w'=>e= .returned (.int .i64 n1)/\w'=w:=fun w=>by
  rw [<- e1];exact wordsNeeded_i _ _ (by omega) (by omega)
 have HW:=Lib.hid hwn;clear hwn e1
 have hc0:decide (n1<=c)=false:=by simpa using hc
 have hg:decide (n<n1)=true:=by simp;omega
 have hmk:=make33 (n1:Int) (2*(n1:Int)) (by omega) (by omega) (by omega)
 rw [show (2*(n1:Int)).toNat=2*n1 by omega,Int.toNat_natCast]at hmk
 obtain ⟨w2,hcp,hrow2,hfr2⟩:=copy33 (w.alloc (.cells (madeCells #[.int .u64 0] (2*n1)) 29)) 3 w.heap.size 0 s 0 n1 (2*n1) n c (2*n1) c n (fun _=>0) f (row_made _ _) (hs.alloc _) (Nat.min_eq_left hnn).symm (by omega) (by omega)
 have hb2:=(hfr2.keep b (by simp;omega) (by omega)).trans ((hp_alloc w _ hlt).trans hb)
 have q0:=hp_cell hb2 0 (v:= .int .u64 L) rfl
 have q1:=hp_cell hb2 1 (v:= .slice (some ⟨s,0,none⟩) n c) rfl
 have qf0:=hp_free hb2 0
 have qf1:=hp_free hb2 1
 have HB2:=Lib.hid hb2;have HR2:=Lib.hid hrow2;have HF2:=Lib.hid hfr2;have HB:=Lib.hid hb;have HS:=Lib.hid hs;clear hb2 hrow2 hfr2 hb hs
 go_enter Tryz.func100,Tryz.ntmps100
 go_wp2_with (first|(go_at_call 127;refine (cap_c _).mono ?_;rintro e w' ⟨rfl,rfl⟩)|(go_at_call 102;refine (HW.out _).mono ?_;rintro e w' ⟨rfl,rfl⟩))
 go_end0
 have hN:=HN.out;have hN1:=HN1.out
 refine ⟨rfl,.slice (some ⟨w'.heap.size,0,none⟩) n1 (2*n1),⟨hp_upd _ _ HB2.out,by omega,.inr ⟨w'.heap.size,2*n1,by rw [hN1],by omega,by rw [<- hN1];omega,by omega,_,(HR2.out.setOther (a:=⟨b,1,none⟩) (by simp;omega) _).setOther (a:=⟨b,0,none⟩) (by simp;omega) _,?_⟩⟩,⟨?_,.inr (.inr ⟨_,rfl,Nat.le_refl _⟩)⟩⟩
 ·intro k hk
  rw [<- hN]
  by_cases e:k<n
  ·rw [if_pos ⟨by omega,by omega⟩,if_pos e];simp
  ·rw [if_neg (by omega),if_neg e]
 ·exact ((((Fr.refl _ w').alloc _).trans' HF2.out (fun r hr=> .inr (by omega))).setCell (.inl (.inl rfl)) _).setCell (.inl (.inl rfl)) _
theorem ext_c(b i L:Nat)(v:Value)(f:Nat->BitVec 64)(w:World)(hL:L<=i)(hi:i<50000)(h:BS w b v L f):
  Calls Tryz.prog 100 #[.pointer (some ⟨b,0,none⟩),.int .u64 i] w (ExtPost w b v L f (i+1)):=by
 obtain ⟨hb,hl,h3⟩:=h
 rcases h3 with ⟨rfl,rfl⟩|⟨s,c,rfl,ne,hn,hc,g,hs,hg⟩
 ·exact ext_nil b i f w hi hb
 ·have key:Calls Tryz.prog 100 #[.pointer (some ⟨b,0,none⟩),.int .u64 i] w (ExtPost w b (.slice (some ⟨s,0,none⟩) (nw L) c) L g (i+1)):=by
   by_cases h1:nw (i+1)<=c
   ·exact ext_in b s L c i g w hL hi hb hs ne hn h1 hc
   ·exact ext_grow b s L c i g w hL hi hb hs ne hn (by omega)
  refine key.mono ?_
  rintro e w' ⟨he,v',hv,hch⟩
  refine ⟨he,v',hv.congr (fun k _=>?_),hch⟩
  by_cases e:k<nw L
  ·rw [if_pos e,if_pos e,hg k e]
  ·rw [if_neg e,if_neg e]
def ExtA(w:World)(b:Nat)(v:Value)(L':Nat)(m:Nat->Bool)(e:Ending)(w':World):Prop:=
 e= .returned (.tuple #[])/\∃v',BA w' b v' L' m/\Ch w w' b v v'
theorem pk_out{m:Nat->Bool}{L:Nat}(hm:∀i,L<=i->m i=false){k:Nat}(hk:nw L<=k):pk m k=0:=by
 refine (pk_ext fun j _=>?_).symm
 rw [hm _ (by unfold nw at hk;omega)]
 simp
theorem extA_c(b i L:Nat)(v:Value)(m:Nat->Bool)(w:World)(hL:L<=i)(hi:i<50000)(h:BA w b v L m):
  Calls Tryz.prog 100 #[.pointer (some ⟨b,0,none⟩),.int .u64 i] w (ExtA w b v (i+1) m):=by
 refine (ext_c b i L v (pk m) w hL hi h.2).mono ?_
 rintro e w' ⟨he,v',hv,hch⟩
 refine ⟨he,v',⟨fun j hj=>h.1 j (by omega),hv.congr fun k _=>?_⟩,hch⟩
 by_cases e:k<nw L
 ·rw [if_pos e]
 ·rw [if_neg e,pk_out h.1 (by omega)]
theorem one_text(w:World)(z:Nat)(hz:z<256):(convert 38 9 (.slice (some ⟨w.heap.size,0,none⟩) 1 1)).run Tryz.prog (w.alloc (.cells #[.int .u8 (z:Int)] 5))= .ok (.string ⟨#[UInt8.ofNat z]⟩) (w.alloc (.cells #[.int .u8 (z:Int)] 5)):=by
 have h:=run_convert_bytes_back (P:=Tryz.prog) (w.alloc (.cells #[.int .u8 (z:Int)] 5)) 38 9 5 ⟨w.heap.size,0,none⟩ 1 [UInt8.ofNat z] Tryz.underlying38 (by kernel_rfl) (by kernel_rfl) ?_
 ·exact h
 ·intro j hj
  have h0:j=0:=by simp at hj;omega
  subst h0
  have h2:=cell_one_new w (.int .u8 (z:Int)) 5 0 (.int .u8 (z:Int)) rfl
  rw [h2]
  show some (Value.int .u8 (z:Int))=some (Value.int .u8 ((UInt8.ofNat z).toNat:Int))
  have h3:(UInt8.ofNat z).toNat=z:=by simp [UInt8.toNat_ofNat'];omega
  rw [h3]
theorem figures_one(n:Nat)(w:World)(hn:n<10):
  Calls Tryz.prog 26 #[.int .u64 (n:Int)] w fun e w'=>e= .returned (.string ⟨(Lib.decDigits n).toArray⟩)/\Fr (fun _=>False) w w':=by
 have d:decide (n<10)=true:=by simpa using hn
 have ht:=one_text w (48+n) (by omega)
 rw [show ((48+n:Nat):Int)=48+(n:Int) by omega]at ht
 obtain ⟨B,hB⟩:∃B,B=UInt8.ofNat (48+n):=⟨_,rfl⟩
 rw [<- hB]at ht
 have HB:=Lib.hid hB;clear hB
 go_enter Tryz.func26,Tryz.ntmps26
 go_wp2
 go_ret
 refine ⟨?_,(Fr.refl _ w).alloc _⟩
 rw [Lib.decDigits,dif_pos hn,<- HB.out]
 rfl
theorem cell_text(g z:Nat)(hz:z<256)(w:World)(h:w.cell? ⟨g,0,none⟩=some (.int .u8 (z:Int))):(convert 38 9 (.slice (some ⟨g,0,none⟩) 1 1)).run Tryz.prog w= .ok (.string ⟨#[UInt8.ofNat z]⟩) w:=by
 refine run_convert_bytes_back (P:=Tryz.prog) w 38 9 5 ⟨g,0,none⟩ 1 [UInt8.ofNat z] Tryz.underlying38 (by kernel_rfl) (by kernel_rfl) ?_
 intro j hj
 have h0:j=0:=by simp at hj;omega
 subst h0
 show w.cell? ((⟨g,0,none⟩:Addr).add 0)=_
 have h3:(UInt8.ofNat z).toNat=z:=by simp [UInt8.toNat_ofNat'];omega
 show w.cell? ⟨g,0,none⟩=some (Value.int .u8 ((UInt8.ofNat z).toNat:Int))
 rw [h3,h]
theorem byte_new(w:World)(z:Nat):(w.drew.alloc (.cells #[.int .u8 (z:Int)] 5)).drew.cell? ⟨w.heap.size,0,none⟩=some (.int .u8 (z:Int)):=hp_cell (hp_new w.drew (.cells #[.int .u8 (z:Int)] 5)) 0 rfl
theorem decDigits_len(u:Nat):(Lib.decDigits u).length<=u+1:=by
 induction u using Nat.strongRecOn with
 |_ u ih=>
  rw [Lib.decDigits.eq_def]
  split
  ·simp
  ·have:=ih (u/10) (by omega)
   rw [List.length_append,List.length_singleton];omega
def FigP(n:Nat)(w:World)(e:Ending)(w':World):Prop:=e= .returned (.string ⟨(Lib.decDigits n).toArray⟩)/\Fr (fun _=>False) w w'
theorem tk{P:Program}{md:Region.Mode}{ops:Array Oper}{Q:Exit->Act->World->Prop}{S:World->Prop}(i:Nat){oi:Oper}{v:Value}{fuel:Nat}{listed:Array Bool}{a:Act}{w:World}(hi:ops[i]? =some oi)
  (hy:∀w,S w->(execOp a.eval oi).run P w= .ok (.value v) w) (h:wpAnyH P md ops Q S fuel (listed.setIfInBounds i true) (a.put oi.dst v) w) (hS:S w:=by assumption) (hw:Region.wanted oi (yielded ops a.tmps)=true:=by rfl)
  (hQ:∀c a w,Q (.panic c) (a.put oi.dst v) w->Q (.panic c) a w:=by exact fun _ _ _ h=>h) (hs:Region.noSelect ops=true:=by kernel_rfl) (hf:Region.free md ops listed i=true:=by kernel_rfl) (hr:(Region.ready md ops listed).contains i=true:=by kernel_rfl):
  wpAnyH P md ops Q S (fuel+1) listed a w:=wpAnyH_take hi hs hf hr hQ (.inl ⟨hw,hy⟩) hS h
theorem tu{P:Program}{md:Region.Mode}{ops:Array Oper}{Q:Exit->Act->World->Prop}{S:World->Prop}(i:Nat){oi:Oper}{fuel:Nat}{listed:Array Bool}{a:Act}{w:World}(hi:ops[i]? =some oi)
  (h:wpAnyH P md ops Q S fuel (listed.setIfInBounds i true) (a.put oi.dst undef) w) (hS:S w:=by assumption) (hw:Region.wanted oi (yielded ops a.tmps)=false:=by rfl)
  (hQ:∀c a w,Q (.panic c) (a.put oi.dst undef) w->Q (.panic c) a w:=by exact fun _ _ _ h=>h) (hs:Region.noSelect ops=true:=by kernel_rfl) (hf:Region.free md ops listed i=true:=by kernel_rfl) (hr:(Region.ready md ops listed).contains i=true:=by kernel_rfl):
  wpAnyH P md ops Q S (fuel+1) listed a w:=wpAnyH_take hi hs hf hr hQ (.inr ⟨hw,rfl⟩) hS h
theorem figures_step(n:Nat)(w:World)(hn:10<=n)(hn2:n<=1000000)(ih:∀w,Calls Tryz.prog 26 #[.int .u64 ((n/10:Nat):Int)] w (FigP (n/10) w)):
  Calls Tryz.prog 26 #[.int .u64 (n:Int)] w (FigP n w):=by
 obtain ⟨z,hz⟩:∃z,z=48+n%10:=⟨_,rfl⟩
 have hzb:z<256:=by omega
 have IH:=Lib.hid ih
 have hct:=fun g w' h=>cell_text g z hzb w' h
 obtain ⟨C,hC⟩:∃C,C=UInt8.ofNat z:=⟨_,rfl⟩
 rw [<- hC]at hct
 obtain ⟨D,hD⟩:∃D:ByteArray,D=⟨(Lib.decDigits (n/10)).toArray⟩:=⟨_,rfl⟩
 have hD8:(D.size:Int)<=8388608:=by
  have:=decDigits_len (n/10)
  rw [hD];show (((Lib.decDigits (n/10)).toArray.size:Nat):Int)<=_;simp;omega
 have hC8:((⟨#[C]⟩:ByteArray).size:Int)<=8388608:=by show ((1:Nat):Int)<=_;omega
 have hfin:Hid (D++(⟨#[C]⟩:ByteArray)=⟨(Lib.decDigits n).toArray⟩):=by
  show _=_
  rw [Lib.decDigits.eq_def n,dif_neg (by omega),hD,hC,hz,ByteArray.mk_append_mk]
 have hq:Hid (((n:Int)/10)=((n/10:Nat):Int)):=by show _=_;omega
 have HD:=Lib.hid hD;have HC:=Lib.hid hC
 have HZ:=Lib.hid (show (48:Int)+((n%10:Nat):Int)=(z:Int) by omega)
 clear ih hC hD hz
 go_enter Tryz.func26,Tryz.ntmps26
 go_wp2
 have h1:IntKind.u64.wrap ((n:Int)/10)=((n/10:Nat):Int):=by rw [IntKind.wrap_u64];omega
 have h2:(n:Int).tmod 10=((n%10:Nat):Int):=by rw [Int.tmod_eq_emod_of_nonneg (by omega)];omega
 have h3:IntKind.u64.wrap (48+(n:Int)%10)=(z:Int):=by rw [IntKind.wrap_u64];have:=HZ.out;omega
 have h4:IntKind.u8.wrap (z:Int)=(z:Int):=by rw [IntKind.wrap_u8];omega
 clear hn hn2 hzb
 have hsz:¬9223372036854775807<D.size+1:=by omega
 refine wp_region_held_drew (S:=fun _=>True) (by kernel_rfl) trivial (fun hHeld=>?_)
 refine tk 0 (v:=?_) rfl ?_ ?_
 rotate_left
 ·(intro w hSw;(try dsimp only at hSw);go_simp;first|done|with_reducible rfl)
 try simp only [Act.put,List.getElem_toArray,List.getElem_cons_zero,List.getElem_cons_succ,List.setIfInBounds_toArray,List.set_cons_zero,List.set_cons_succ]
 refine tk 1 (v:=?_) rfl ?_ ?_
 rotate_left
 ·(intro w hSw;(try dsimp only at hSw);go_simp;first|done|with_reducible rfl)
 try simp only [Act.put,List.getElem_toArray,List.getElem_cons_zero,List.getElem_cons_succ,List.setIfInBounds_toArray,List.set_cons_zero,List.set_cons_succ]
 refine tk 3 (v:=?_) rfl ?_ ?_
 rotate_left
 ·(intro w hSw;(try dsimp only at hSw);go_simp;first|done|with_reducible rfl)
 try simp only [Act.put,List.getElem_toArray,List.getElem_cons_zero,List.getElem_cons_succ,List.setIfInBounds_toArray,List.set_cons_zero,List.set_cons_succ]
 refine tk 4 (v:=?_) rfl ?_ ?_
 rotate_left
 ·(intro w hSw;(try dsimp only at hSw);go_simp;first|done|with_reducible rfl)
 try simp only [Act.put,List.getElem_toArray,List.getElem_cons_zero,List.getElem_cons_succ,List.setIfInBounds_toArray,List.set_cons_zero,List.set_cons_succ]
 refine tk 5 (v:=?_) rfl ?_ ?_
 rotate_left
 ·(intro w hSw;(try dsimp only at hSw);go_simp;first|done|with_reducible rfl)
 try simp only [Act.put,List.getElem_toArray,List.getElem_cons_zero,List.getElem_cons_succ,List.setIfInBounds_toArray,List.set_cons_zero,List.set_cons_succ]
 refine tk 6 (v:=?_) rfl ?_ ?_
 rotate_left
 ·(intro w hSw;(try dsimp only at hSw);go_simp;first|done|with_reducible rfl)
 try simp only [Act.put,List.getElem_toArray,List.getElem_cons_zero,List.getElem_cons_succ,List.setIfInBounds_toArray,List.set_cons_zero,List.set_cons_succ]
 refine wpAnyH_ready (rs:=[2,7]) (by kernel_rfl) (by simp) ?_
 refine AllReadyH.cons rfl (fun K hK=>?_) (AllReadyH.cons rfl (fun K hK=>?_) AllReadyH.nil)
 ·go_simp
  (go_at_call 26;refine (IH.out _).mono ?_;rintro e w1 ⟨he,hf1⟩;rw [<- HD.out]at he;subst he)
  (try go_wp2_with (fail))
  refine hK.out _ _ trivial (fun _=>?_)
  clear hK K
  try simp only [Act.put,List.getElem_toArray,List.getElem_cons_zero,List.getElem_cons_succ,List.setIfInBounds_toArray,List.set_cons_zero,List.set_cons_succ]
  refine wpAnyH_ready (rs:=[7]) (by kernel_rfl) (by simp) ?_
  refine AllReadyH.cons rfl (fun K hK=>?_) AllReadyH.nil
  go_simp
  refine hK.out _ _ trivial (fun _=>?_)
  clear hK K
  try simp only [Act.put,List.getElem_toArray,List.getElem_cons_zero,List.getElem_cons_succ,List.setIfInBounds_toArray,List.set_cons_zero,List.set_cons_succ]
  refine wpAnyH_ready (rs:=[8]) (by kernel_rfl) (by simp) ?_
  refine AllReadyH.cons rfl (fun K hK=>?_) AllReadyH.nil
  go_simp
  refine hK.out _ _ trivial (fun _=>?_)
  clear hK K
  try simp only [Act.put,List.getElem_toArray,List.getElem_cons_zero,List.getElem_cons_succ,List.setIfInBounds_toArray,List.set_cons_zero,List.set_cons_succ]
  refine wpAnyH_ready (rs:=[9]) (by kernel_rfl) (by simp) ?_
  refine AllReadyH.cons rfl (fun K hK=>?_) AllReadyH.nil
  go_simp
  refine hK.out _ _ trivial (fun _=>?_)
  clear hK K
  try simp only [Act.put,List.getElem_toArray,List.getElem_cons_zero,List.getElem_cons_succ,List.setIfInBounds_toArray,List.set_cons_zero,List.set_cons_succ]
  refine wpAnyH_ready (rs:=[10]) (by kernel_rfl) (by simp) ?_
  refine AllReadyH.cons rfl (fun K hK=>?_) AllReadyH.nil
  go_simp
  refine hK.out _ _ trivial (fun _=>?_)
  clear hK K
  try simp only [Act.put,List.getElem_toArray,List.getElem_cons_zero,List.getElem_cons_succ,List.setIfInBounds_toArray,List.set_cons_zero,List.set_cons_succ]
  refine wpAnyH_done (by kernel_rfl) ?_ _
  go_wp2
  go_ret
  exact ⟨by rw [<- hfin.out];rfl,by repeat (first|exact Fr.refl _ _|apply Fr.drew|apply Fr.alloc|refine Fr.trans ?_ hf1)⟩
 ·go_simp
  refine hK.out _ _ trivial (fun _=>?_)
  clear hK K
  try simp only [Act.put,List.getElem_toArray,List.getElem_cons_zero,List.getElem_cons_succ,List.setIfInBounds_toArray,List.set_cons_zero,List.set_cons_succ]
  refine wpAnyH_ready (rs:=[2,8]) (by kernel_rfl) (by simp) ?_
  refine AllReadyH.cons rfl (fun K hK=>?_) (AllReadyH.cons rfl (fun K hK=>?_) AllReadyH.nil)
  ·go_simp
   (go_at_call 26;refine (IH.out _).mono ?_;rintro e w1 ⟨he,hf1⟩;rw [<- HD.out]at he;subst he;have hk1:w1.cell? ⟨w.heap.size,0,none⟩=some (.int .u8 (z:Int)):=(hf1.cell (a:=⟨w.heap.size,0,none⟩) (block_lt_of_cell (byte_new w z)) (fun h=>h)).trans (byte_new w z))
   (try go_wp2_with (fail))
   refine hK.out _ _ trivial (fun _=>?_)
   clear hK K
   try simp only [Act.put,List.getElem_toArray,List.getElem_cons_zero,List.getElem_cons_succ,List.setIfInBounds_toArray,List.set_cons_zero,List.set_cons_succ]
   refine wpAnyH_ready (rs:=[8]) (by kernel_rfl) (by simp) ?_
   refine AllReadyH.cons rfl (fun K hK=>?_) AllReadyH.nil
   go_simp
   refine hK.out _ _ trivial (fun _=>?_)
   clear hK K
   try simp only [Act.put,List.getElem_toArray,List.getElem_cons_zero,List.getElem_cons_succ,List.setIfInBounds_toArray,List.set_cons_zero,List.set_cons_succ]
   refine wpAnyH_ready (rs:=[9]) (by kernel_rfl) (by simp) ?_
   refine AllReadyH.cons rfl (fun K hK=>?_) AllReadyH.nil
   go_simp
   refine hK.out _ _ trivial (fun _=>?_)
   clear hK K
   try simp only [Act.put,List.getElem_toArray,List.getElem_cons_zero,List.getElem_cons_succ,List.setIfInBounds_toArray,List.set_cons_zero,List.set_cons_succ]
   refine wpAnyH_ready (rs:=[10]) (by kernel_rfl) (by simp) ?_
   refine AllReadyH.cons rfl (fun K hK=>?_) AllReadyH.nil
   go_simp
   refine hK.out _ _ trivial (fun _=>?_)
   clear hK K
   try simp only [Act.put,List.getElem_toArray,List.getElem_cons_zero,List.getElem_cons_succ,List.setIfInBounds_toArray,List.set_cons_zero,List.set_cons_succ]
   refine wpAnyH_done (by kernel_rfl) ?_ _
   go_wp2
   go_ret
   exact ⟨by rw [<- hfin.out];rfl,by repeat (first|exact Fr.refl _ _|apply Fr.drew|apply Fr.alloc|refine Fr.trans ?_ hf1)⟩
  ·go_simp
   refine hK.out _ _ trivial (fun _=>?_)
   clear hK K
   try simp only [Act.put,List.getElem_toArray,List.getElem_cons_zero,List.getElem_cons_succ,List.setIfInBounds_toArray,List.set_cons_zero,List.set_cons_succ]
   refine wpAnyH_ready (rs:=[2]) (by kernel_rfl) (by simp) ?_
   refine AllReadyH.cons rfl (fun K hK=>?_) AllReadyH.nil
   (go_simp)
   (go_at_call 26;refine (IH.out _).mono ?_;rintro e w1 ⟨he,hf1⟩;rw [<- HD.out]at he;subst he)
   (try go_wp2_with (fail))
   refine hK.out _ _ trivial (fun _=>?_)
   clear hK K
   try simp only [Act.put,List.getElem_toArray,List.getElem_cons_zero,List.getElem_cons_succ,List.setIfInBounds_toArray,List.set_cons_zero,List.set_cons_succ]
   refine wpAnyH_ready (rs:=[9]) (by kernel_rfl) (by simp) ?_
   refine AllReadyH.cons rfl (fun K hK=>?_) AllReadyH.nil
   go_simp
   refine hK.out _ _ trivial (fun _=>?_)
   clear hK K
   try simp only [Act.put,List.getElem_toArray,List.getElem_cons_zero,List.getElem_cons_succ,List.setIfInBounds_toArray,List.set_cons_zero,List.set_cons_succ]
   refine wpAnyH_ready (rs:=[10]) (by kernel_rfl) (by simp) ?_
   refine AllReadyH.cons rfl (fun K hK=>?_) AllReadyH.nil
   go_simp
   refine hK.out _ _ trivial (fun _=>?_)
   clear hK K
   try simp only [Act.put,List.getElem_toArray,List.getElem_cons_zero,List.getElem_cons_succ,List.setIfInBounds_toArray,List.set_cons_zero,List.set_cons_succ]
   refine wpAnyH_done (by kernel_rfl) ?_ _
   go_wp2
   go_ret
   exact ⟨by rw [<- hfin.out];rfl,by repeat (first|exact Fr.refl _ _|apply Fr.drew|apply Fr.alloc|refine Fr.trans ?_ hf1)⟩
theorem figures_c(n:Nat):∀w,n<=1000000->Calls Tryz.prog 26 #[.int .u64 (n:Int)] w (FigP n w):=by
 induction n using Nat.strongRecOn with
 |_ n ih=>
  intro w hn
  by_cases h:n<10
  ·exact figures_one n w h
  ·exact figures_step n w (by omega) hn (fun w=>ih (n/10) (by omega) w (by omega))
theorem take_succ_get{α:Type}(xs:List α)(k:Nat)(y:α)(h:xs[k]? =some y):xs.take k++ [y]=xs.take (k+1):=by
 rw [List.take_add_one,h];rfl
def NewLst(w:World)(e:TypeId)(size:Nat)(n:Nat)(xs:List Value)(en:Ending)(w':World):Prop:=
 ∃v,en= .returned v/\Lst w' e size v n xs/\Fr (fun _=>False) w w'/\∀r,v.ownBlock=some r->w.heap.size<=r
theorem own_new{w w':World}{v v':Value}(h:v'.ownBlock=v.ownBlock\/v'.ownBlock=some w'.heap.size)(hs:w.heap.size<=w'.heap.size)(hv:∀r,v.ownBlock=some r->w.heap.size<=r):∀r,v'.ownBlock=some r->w.heap.size<=r:=by
 intro r hr
 rcases h with e|e
 ·exact hv r (e ▸ hr)
 ·rw [e]at hr;cases hr;exact hs
theorem BA.openAt{w:World}{b:Nat}{v:Value}{L:Nat}{m:Nat->Bool}(h:BA w b v L m)(hL:0<L):
  ∃(s c:Nat) (g:Nat->BitVec 64),v= .slice (some ⟨s,0,none⟩) (nw L) c/\s≠b/\nw L<=c/\c<=9223372036854775807/\L<=50000/\w.heap[b]? =some (.cells #[.int .u64 (L:Int),.slice (some ⟨s,0,none⟩) (nw L) c] 75 (0,0))/\
   w.rowIs s 29 c (fun i=>WV (g i))/\(∀i,i<nw L->g i=pk m i)/\∀i,L<=i->m i=false:=by
 obtain ⟨hm,hb,hl,h3⟩:=h
 rcases h3 with ⟨rfl,_⟩|⟨s,c,rfl,ne,hn,hc,g,hs,hg⟩
 ·omega
 ·exact ⟨s,c,g,rfl,ne,hn,hc,hl,hb,hs,hg,hm⟩
theorem BA.shut{w:World}{b s c L:Nat}{m:Nat->Bool}{g:Nat->BitVec 64}(hb:w.heap[b]? =some (.cells #[.int .u64 (L:Int),.slice (some ⟨s,0,none⟩) (nw L) c] 75 (0,0)))
  (ne:s≠b) (hn:nw L<=c) (hc:c<=9223372036854775807) (hl:L<=50000) (hs:w.rowIs s 29 c (fun i=>WV (g i))) (hg:∀i,i<nw L->g i=pk m i) (hm:∀i,L<=i->m i=false):
  BA w b (.slice (some ⟨s,0,none⟩) (nw L) c) L m:=⟨hm,hb,hl,.inr ⟨s,c,rfl,ne,hn,hc,g,hs,hg⟩⟩
def MutA(w:World)(b:Nat)(v:Value)(L':Nat)(m':Nat->Bool)(r:Value)(e:Ending)(w':World):Prop:=
 e= .returned r/\∃v',BA w' b v' L' m'/\Ch w w' b v v'
theorem pk_same{m m':Nat->Bool}{k:Nat}(h:∀j,j<64->m' (64*k+j)=m (64*k+j)):pk m' k=pk m k:=
 (pk_ext fun j hj=>by rw [getLsbD_pk,h j hj];simp [hj]).symm
theorem test_bit(x:BitVec 64)(k:Nat)(hk:k<64):(wn (x&&&((1:BitVec 64)<<<k)) != 0)=x.getLsbD k:=by
 have h0:(wn (x&&&((1:BitVec 64)<<<k))=0)=(x&&&((1:BitVec 64)<<<k)=0):=wn_eq_zero _
 rw [Bool.eq_iff_iff,bne_iff_ne,Ne,h0]
 constructor
 ·intro h
  rcases hb:x.getLsbD k with _|_
  ·exfalso;apply h
   apply BitVec.eq_of_getLsbD_eq
   intro j hj
   rw [BitVec.getLsbD_and,getLsbD_one_shl]
   by_cases e:j=k
   ·subst e;simp [hb]
   ·simp [e]
  ·rfl
 ·intro h e
  have:=congrArg (fun y=>y.getLsbD k) e
  simp only [BitVec.getLsbD_and,getLsbD_one_shl,h]at this
  simp [hk]at this
theorem test_c(b i L:Nat)(v:Value)(m:Nat->Bool)(w:World)(hi:i<=50000)(h:BA w b v L m):
  Calls Tryz.prog 72 #[.pointer (some ⟨b,0,none⟩),.int .u64 i] w fun e w'=>e= .returned (.bool (m i))/\∃n,w'=w.drewN n:=by
 by_cases hL:L<=i
 ·have h0:=hp_cell h.2.blk 0 (v:= .int .u64 L) rfl
  have hm:=h.1 i hL
  go_enter Tryz.func72,Tryz.ntmps72
  go_wp2
  go_ret
  rw [hm]
  exact ⟨rfl,0,rfl⟩
 ·obtain ⟨s,c,g,rfl,ne,hn,hc,hl,hb,hs,hg,hm⟩:=h.openAt (by omega)
  have h0:=hp_cell hb 0 (v:= .int .u64 L) rfl
  have h1:=hp_cell hb 1 (v:= .slice (some ⟨s,0,none⟩) (nw L) c) rfl
  have hq:i/64<nw L:=by unfold nw;omega
  have h2:=hs.cell (i:=i/64) (by omega)
  rw [hg _ hq]at h2
  have hgl:(pk m (i/64)).getLsbD (i%64)=m i:=by rw [getLsbD_pk];simp [Nat.mod_lt];congr 1;omega
  have HG:=Lib.hid hgl
  clear hgl hg hm hs hb h
  generalize hnL:nw L=n at*
  have HN:=Lib.hid hnL;clear hnL
  go_enter Tryz.func72,Tryz.ntmps72
  go_wp2
  have hi':(0:Int)<=(i:Int)/64/\(i:Int)/64<n:=by omega
  go_quiet ((go_at_call 99;exact Calls.quiet_of_same (wordsIndex_c _ _ (by omega))))
  go_wp2
  go_ret
  refine ⟨ret_arg ?_,_,rfl⟩
  show Value.bool _=Value.bool _
  rw [wn_one_shl,wn_and,test_bit _ _ (Nat.mod_lt _ (by decide)),HG.out]
theorem set_in(b i L:Nat)(v:Value)(m:Nat->Bool)(w:World)(hi:i<L)(h:BA w b v L m):
  Calls Tryz.prog 42 #[.pointer (some ⟨b,0,none⟩),.int .u64 i] w (MutA w b v L (fun j=>if j=i then true else m j) (.pointer (some ⟨b,0,none⟩))):=by
 obtain ⟨s,c,g,rfl,ne,hn,hc,hl,hb,hs,hg,hm⟩:=h.openAt (by omega)
 have h0:=hp_cell hb 0 (v:= .int .u64 L) rfl
 have h1:=hp_cell hb 1 (v:= .slice (some ⟨s,0,none⟩) (nw L) c) rfl
 have hq:i/64<nw L:=by unfold nw;omega
 have h2:=hs.cell (i:=i/64) (by omega)
 have hf:=hs.frozen (i/64)
 obtain ⟨n,hnL⟩:∃n,n=nw L:=⟨_,rfl⟩
 have HS:=Lib.hid hs;have HB:=Lib.hid hb;have HG:=Lib.hid hg;have HM:=Lib.hid hm;clear hs hb hg hm h
 rw [<- hnL]at h1 hq hn
 have HN:=Lib.hid hnL;clear hnL
 go_enter Tryz.func42,Tryz.ntmps42
 go_wp2
 have hi':(0:Int)<=(i:Int)/64/\(i:Int)/64<n:=by omega
 refine wp_region_quiet_tail 12 (by kernel_rfl) (by kernel_rfl) ?_
 simp only [List.take_succ_cons,List.take_zero,List.drop_succ_cons,List.drop_zero]
 repeat (go_big_quiet_step ((go_at_call 99;exact Calls.quiet_of_same (wordsIndex_c _ _ (by omega)))))
 refine wpQuiet_nil ?_
 intro _ ⟨nq,hw'⟩
 subst hw'
 go_wp2
 go_ret
 have hN:=HN.out
 subst hN
 refine ⟨rfl,_,BA.shut (g:=fun j=>if j=i/64 then g (i/64)|||((1:BitVec 64)<<<(i%64)) else g j) ?_ ne hn hc hl ?_ ?_ ?_,⟨((Fr.refl _ _).drewN _).setCell (.inl (.inr rfl)) _,.inl rfl⟩⟩
 ·rw [hp_other _ _ _ (fun e=>ne e.symm)];exact HB.out
 ·refine ((rowIs_drewN HS.out nq).set (i/64) _).congr (fun j _=>?_)
  by_cases e:j=i/64
  ·subst e;simp only [if_true,wn_one_shl,wn_or]
  ·simp only [e,if_false]
 ·intro k hk
  by_cases e:k=i/64
  ·subst e
   simp only [if_true]
   rw [HG.out _ hk]
   refine pk_ext fun j hj=>?_
   rw [BitVec.getLsbD_or,getLsbD_pk,getLsbD_one_shl]
   by_cases e2:j=i%64
   ·have:64*(i/64)+j=i:=by omega
    have d1:decide (j<64)=true:=by simpa using hj
    have d2:decide (j=i%64)=true:=by simpa using e2
    rw [this,d1,d2]
    simp
   ·have:¬64*(i/64)+j=i:=by omega
    simp [e2,this,hj]
  ·simp only [e,if_false]
   rw [HG.out _ hk]
   refine (pk_same fun j hj=>?_).symm
   rw [if_neg (by omega)]
 ·intro j hj
  rw [if_neg (by omega)]
  exact HM.out j hj
theorem clear_in(b i L:Nat)(v:Value)(m:Nat->Bool)(w:World)(hi:i<L)(h:BA w b v L m):
  Calls Tryz.prog 43 #[.pointer (some ⟨b,0,none⟩),.int .u64 i] w (MutA w b v L (fun j=>if j=i then false else m j) (.pointer (some ⟨b,0,none⟩))):=by
 obtain ⟨s,c,g,rfl,ne,hn,hc,hl,hb,hs,hg,hm⟩:=h.openAt (by omega)
 have h0:=hp_cell hb 0 (v:= .int .u64 L) rfl
 have h1:=hp_cell hb 1 (v:= .slice (some ⟨s,0,none⟩) (nw L) c) rfl
 have hq:i/64<nw L:=by unfold nw;omega
 have h2:=hs.cell (i:=i/64) (by omega)
 have hf:=hs.frozen (i/64)
 obtain ⟨n,hnL⟩:∃n,n=nw L:=⟨_,rfl⟩
 have HS:=Lib.hid hs;have HB:=Lib.hid hb;have HG:=Lib.hid hg;have HM:=Lib.hid hm;clear hs hb hg hm h
 rw [<- hnL]at h1 hq hn
 have HN:=Lib.hid hnL;clear hnL
 go_enter Tryz.func43,Tryz.ntmps43
 go_wp2
 have hi':(0:Int)<=(i:Int)/64/\(i:Int)/64<n:=by omega
 refine wp_region_quiet_tail 12 (by kernel_rfl) (by kernel_rfl) ?_
 simp only [List.take_succ_cons,List.take_zero,List.drop_succ_cons,List.drop_zero]
 repeat (go_big_quiet_step ((go_at_call 99;exact Calls.quiet_of_same (wordsIndex_c _ _ (by omega)))))
 refine wpQuiet_nil ?_
 intro _ ⟨nq,hw'⟩
 subst hw'
 go_wp2
 go_ret
 have hN:=HN.out
 subst hN
 refine ⟨rfl,_,BA.shut (g:=fun j=>if j=i/64 then g (i/64)&&& ~~~((1:BitVec 64)<<<(i%64)) else g j) ?_ ne hn hc hl ?_ ?_ ?_,⟨((Fr.refl _ _).drewN _).setCell (.inl (.inr rfl)) _,.inl rfl⟩⟩
 ·rw [hp_other _ _ _ (fun e=>ne e.symm)];exact HB.out
 ·refine ((rowIs_drewN HS.out nq).set (i/64) _).congr (fun j _=>?_)
  by_cases e:j=i/64
  ·subst e;simp only [if_true,wn_one_shl,wn_andNot]
  ·simp only [e,if_false]
 ·intro k hk
  by_cases e:k=i/64
  ·subst e
   simp only [if_true]
   rw [HG.out _ hk]
   refine pk_ext fun j hj=>?_
   rw [BitVec.getLsbD_and,BitVec.getLsbD_not,getLsbD_pk,getLsbD_one_shl]
   by_cases e2:j=i%64
   ·have:64*(i/64)+j=i:=by omega
    have d1:decide (j<64)=true:=by simpa using hj
    have d2:decide (j=i%64)=true:=by simpa using e2
    rw [this,d1,d2]
    simp
   ·have:¬64*(i/64)+j=i:=by omega
    simp [e2,this,hj]
  ·simp only [e,if_false]
   rw [HG.out _ hk]
   refine (pk_same fun j hj=>?_).symm
   rw [if_neg (by omega)]
 ·intro j hj
  rw [if_neg (by omega)]
  exact HM.out j hj
theorem flip_in(b i L:Nat)(v:Value)(m:Nat->Bool)(w:World)(hi:i<L)(h:BA w b v L m):
  Calls Tryz.prog 45 #[.pointer (some ⟨b,0,none⟩),.int .u64 i] w (MutA w b v L (fun j=>if j=i then !m i else m j) (.pointer (some ⟨b,0,none⟩))):=by
 obtain ⟨s,c,g,rfl,ne,hn,hc,hl,hb,hs,hg,hm⟩:=h.openAt (by omega)
 have h0:=hp_cell hb 0 (v:= .int .u64 L) rfl
 have h1:=hp_cell hb 1 (v:= .slice (some ⟨s,0,none⟩) (nw L) c) rfl
 have hq:i/64<nw L:=by unfold nw;omega
 have h2:=hs.cell (i:=i/64) (by omega)
 have hf:=hs.frozen (i/64)
 obtain ⟨n,hnL⟩:∃n,n=nw L:=⟨_,rfl⟩
 have HS:=Lib.hid hs;have HB:=Lib.hid hb;have HG:=Lib.hid hg;have HM:=Lib.hid hm;clear hs hb hg hm h
 rw [<- hnL]at h1 hq hn
 have HN:=Lib.hid hnL;clear hnL
 go_enter Tryz.func45,Tryz.ntmps45
 go_wp2
 have hi':(0:Int)<=(i:Int)/64/\(i:Int)/64<n:=by omega
 refine wp_region_quiet_tail 12 (by kernel_rfl) (by kernel_rfl) ?_
 simp only [List.take_succ_cons,List.take_zero,List.drop_succ_cons,List.drop_zero]
 repeat (go_big_quiet_step ((go_at_call 99;exact Calls.quiet_of_same (wordsIndex_c _ _ (by omega)))))
 refine wpQuiet_nil ?_
 intro _ ⟨nq,hw'⟩
 subst hw'
 go_wp2
 go_ret
 have hN:=HN.out
 subst hN
 refine ⟨rfl,_,BA.shut (g:=fun j=>if j=i/64 then g (i/64)^^^((1:BitVec 64)<<<(i%64)) else g j) ?_ ne hn hc hl ?_ ?_ ?_,⟨((Fr.refl _ _).drewN _).setCell (.inl (.inr rfl)) _,.inl rfl⟩⟩
 ·rw [hp_other _ _ _ (fun e=>ne e.symm)];exact HB.out
 ·refine ((rowIs_drewN HS.out nq).set (i/64) _).congr (fun j _=>?_)
  by_cases e:j=i/64
  ·subst e;simp only [if_true,wn_one_shl,wn_xor]
  ·simp only [e,if_false]
 ·intro k hk
  by_cases e:k=i/64
  ·subst e
   simp only [if_true]
   rw [HG.out _ hk]
   refine pk_ext fun j hj=>?_
   rw [BitVec.getLsbD_xor,getLsbD_pk,getLsbD_one_shl]
   by_cases e2:j=i%64
   ·have:64*(i/64)+j=i:=by omega
    have d1:decide (j<64)=true:=by simpa using hj
    have d2:decide (j=i%64)=true:=by simpa using e2
    rw [this,d1,d2]
    simp
   ·have:¬64*(i/64)+j=i:=by omega
    simp [e2,this,hj]
  ·simp only [e,if_false]
   rw [HG.out _ hk]
   refine (pk_same fun j hj=>?_).symm
   rw [if_neg (by omega)]
 ·intro j hj
  rw [if_neg (by omega)]
  exact HM.out j hj
theorem set_out(b i L:Nat)(v:Value)(m:Nat->Bool)(w:World)(hL:L<=i)(hi:i<50000)(h:BA w b v L m):
  Calls Tryz.prog 42 #[.pointer (some ⟨b,0,none⟩),.int .u64 i] w (MutA w b v (i+1) (fun j=>if j=i then true else m j) (.pointer (some ⟨b,0,none⟩))):=by
 have h0:=hp_cell h.2.blk 0 (v:= .int .u64 L) rfl
 have hd:decide (L<=i)=true:=by simpa using hL
 have H:=Lib.hid h;clear h
 go_enter Tryz.func42,Tryz.ntmps42
 go_wp2_with (go_at_call 100;refine (extA_c b i L v m _ hL hi H.out).mono ?_;rintro e w1 ⟨rfl,v1,hba,hch⟩;refine Hid.out ?_)
 refine Lib.hid ?_
 clear h0
 obtain ⟨s,c,g,rfl,ne,hn,hc,hl,hb,hs,hg,hm⟩:=hba.openAt (by omega)
 have h1:=hp_cell hb 1 (v:= .slice (some ⟨s,0,none⟩) (nw (i+1)) c) rfl
 have hq:i/64<nw (i+1):=by unfold nw;omega
 have h2:=hs.cell (i:=i/64) (by omega)
 have hf:=hs.frozen (i/64)
 obtain ⟨n,hnL⟩:∃n,n=nw (i+1):=⟨_,rfl⟩
 have HS:=Lib.hid hs;have HB:=Lib.hid hb;have HG:=Lib.hid hg;have HM:=Lib.hid hm;have HC:=Lib.hid hch;clear hs hb hg hm hba hch
 rw [<- hnL]at h1 hq hn
 have HN:=Lib.hid hnL;clear hnL
 go_wp2
 have hi':(0:Int)<=(i:Int)/64/\(i:Int)/64<n:=by omega
 refine wp_region_quiet_tail 12 (by kernel_rfl) (by kernel_rfl) ?_
 simp only [List.take_succ_cons,List.take_zero,List.drop_succ_cons,List.drop_zero]
 repeat (go_big_quiet_step ((go_at_call 99;exact Calls.quiet_of_same (wordsIndex_c _ _ (by omega)))))
 refine wpQuiet_nil ?_
 intro _ ⟨nq,hw'⟩
 subst hw'
 go_wp2
 go_ret
 have hN:=HN.out
 subst hN
 refine ⟨rfl,_,BA.shut (g:=fun j=>if j=i/64 then g (i/64)|||((1:BitVec 64)<<<(i%64)) else g j) ?_ ne hn hc hl ?_ ?_ ?_,HC.out.trans ⟨((Fr.refl _ _).drewN _).setCell (.inl (.inr rfl)) _,.inl rfl⟩⟩
 ·rw [hp_other _ _ _ (fun e=>ne e.symm)];exact HB.out
 ·refine ((rowIs_drewN HS.out nq).set (i/64) _).congr (fun j _=>?_)
  by_cases e:j=i/64
  ·subst e;simp only [if_true,wn_one_shl,wn_or]
  ·simp only [e,if_false]
 ·intro k hk
  by_cases e:k=i/64
  ·subst e
   simp only [if_true]
   rw [HG.out _ hk]
   refine pk_ext fun j hj=>?_
   rw [BitVec.getLsbD_or,getLsbD_pk,getLsbD_one_shl]
   by_cases e2:j=i%64
   ·have:64*(i/64)+j=i:=by omega
    have d1:decide (j<64)=true:=by simpa using hj
    have d2:decide (j=i%64)=true:=by simpa using e2
    rw [this,d1,d2]
    simp
   ·have:¬64*(i/64)+j=i:=by omega
    simp [e2,this,hj]
  ·simp only [e,if_false]
   rw [HG.out _ hk]
   refine (pk_same fun j hj=>?_).symm
   rw [if_neg (by omega)]
 ·intro j hj
  rw [if_neg (by omega)]
  exact HM.out j hj
theorem set_c(b i L:Nat)(v:Value)(m:Nat->Bool)(w:World)(hi:i<50000)(h:BA w b v L m):
  Calls Tryz.prog 42 #[.pointer (some ⟨b,0,none⟩),.int .u64 i] w (MutA w b v (max L (i+1)) (fun j=>if j=i then true else m j) (.pointer (some ⟨b,0,none⟩))):=by
 by_cases hL:L<=i
 ·rw [Nat.max_eq_right (by omega)];exact set_out b i L v m w hL hi h
 ·rw [Nat.max_eq_left (by omega)];exact set_in b i L v m w (by omega) h
theorem clear_c(b i L:Nat)(v:Value)(m:Nat->Bool)(w:World)(h:BA w b v L m):
  Calls Tryz.prog 43 #[.pointer (some ⟨b,0,none⟩),.int .u64 i] w (MutA w b v L (fun j=>if j=i then false else m j) (.pointer (some ⟨b,0,none⟩))):=by
 by_cases hL:L<=i
 ·have h0:=hp_cell h.2.blk 0 (v:= .int .u64 L) rfl
  have hm:(fun j=>if j=i then false else m j)=m:=by
   funext j
   by_cases e:j=i
   ·subst e;rw [if_pos rfl,h.1 _ hL]
   ·rw [if_neg e]
  rw [hm]
  have H:=Lib.hid h;clear h hm
  go_enter Tryz.func43,Tryz.ntmps43
  go_wp2
  go_ret
  exact ⟨rfl,v,H.out,Ch.refl _ _ _⟩
 ·exact clear_in b i L v m w (by omega) h
theorem flip_c(b i L:Nat)(v:Value)(m:Nat->Bool)(w:World)(hi:i<50000)(h:BA w b v L m):
  Calls Tryz.prog 45 #[.pointer (some ⟨b,0,none⟩),.int .u64 i] w (MutA w b v (max L (i+1)) (fun j=>if j=i then !m i else m j) (.pointer (some ⟨b,0,none⟩))):=by
 by_cases hL:L<=i
 ·rw [h.1 i hL]
  have h0:=hp_cell h.2.blk 0 (v:= .int .u64 L) rfl
  have H:=Lib.hid h;clear h
  go_enter Tryz.func45,Tryz.ntmps45
  go_wp2_with (go_at_call 42;refine (set_c b i L v m _ hi H.out).mono ?_;rintro e w1 ⟨rfl,v1,hba,hch⟩)
  go_ret
  exact ⟨rfl,v1,hba,hch⟩
 ·rw [Nat.max_eq_left (by omega)];exact flip_in b i L v m w (by omega) h
theorem setTo_true(b i L:Nat)(v:Value)(m:Nat->Bool)(w:World)(hi:i<50000)(h:BA w b v L m):
  Calls Tryz.prog 44 #[.pointer (some ⟨b,0,none⟩),.int .u64 i,.bool true] w (MutA w b v (max L (i+1)) (fun j=>if j=i then true else m j) (.pointer (some ⟨b,0,none⟩))):=by
 have H:=Lib.hid h;clear h
 go_enter Tryz.func44,Tryz.ntmps44
 go_wp2_with (go_at_call 42;refine (set_c b i L v m _ hi H.out).mono ?_;rintro e w1 ⟨rfl,v1,hba,hch⟩)
 go_ret
 exact ⟨rfl,v1,hba,hch⟩
theorem setTo_false(b i L:Nat)(v:Value)(m:Nat->Bool)(w:World)(h:BA w b v L m):
  Calls Tryz.prog 44 #[.pointer (some ⟨b,0,none⟩),.int .u64 i,.bool false] w (MutA w b v L (fun j=>if j=i then false else m j) (.pointer (some ⟨b,0,none⟩))):=by
 have H:=Lib.hid h;clear h
 go_enter Tryz.func44,Tryz.ntmps44
 go_wp2_with (go_at_call 43;refine (clear_c b i L v m _ H.out).mono ?_;rintro e w1 ⟨rfl,v1,hba,hch⟩)
 go_ret
 exact ⟨rfl,v1,hba,hch⟩
end Go.Proofs.YtobdfhlmipcjbaaGreatDoor
