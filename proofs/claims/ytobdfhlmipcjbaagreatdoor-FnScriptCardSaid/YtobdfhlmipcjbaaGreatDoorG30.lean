/- String: a set's text. Conditions: the tables lie as laid. spec.Ask: the next numbers. Conditions: places of four, lengths of at most 6,000. Clone, Complement: sets made anew. No condition beyond the sets' own. ExtractTo into a new, empty set of the right length; Extract. Conditions: the two sets may be one. -/
import Derived.Sort.Grow
import Derived.Lib.BufferOld
import Derived.Lib.SlBytesConst
import Derived.Deep.QuietTactic
import Derived.Test.YtobdfhlmipcjbaaGreatDoorG01
import Derived.Test.YtobdfhlmipcjbaaGreatDoorG02
import Derived.Test.YtobdfhlmipcjbaaGreatDoorG03
import Derived.Test.YtobdfhlmipcjbaaGreatDoorG04
import Derived.Test.YtobdfhlmipcjbaaGreatDoorG05
import Derived.Test.YtobdfhlmipcjbaaGreatDoorG06
import Derived.Test.YtobdfhlmipcjbaaGreatDoorG18
import Derived.Test.YtobdfhlmipcjbaaGreatDoorG19
import Derived.Test.YtobdfhlmipcjbaaGreatDoorG21
import Derived.Test.YtobdfhlmipcjbaaGreatDoorG25
import Derived.Test.YtobdfhlmipcjbaaGreatDoorG26
set_option linter.unusedVariables false
set_option linter.unusedSimpArgs false
set_option maxHeartbeats 4000000
set_option maxRecDepth 100000
namespace Go.Proofs.YtobdfhlmipcjbaaGreatDoor
open Go.RowKit
abbrev PowT(w:World):Prop:=Lib.TabIs Tryz.prog w "internal/strconv.uint64pow10" .u64 Lib.pow10Tab
theorem pow_g:Tryz.prog.globalNamed "internal/strconv.uint64pow10" =some 6:=by kernel_rfl
theorem PowT.keep{w w':World}{T:Nat->Prop}(h:PowT w)(k:Fr T w w')(hT:¬T 6):PowT w':=by
 have hlt:6<w.heap.size:=by
  rcases Nat.lt_or_ge 6 w.heap.size with h6|h6
  ·exact h6
  ·unfold PowT Lib.TabIs World.var? at h
   simp only [pow_g,Option.bind_some]at h
   rw [Array.getElem?_eq_none h6]at h
   cases h
 unfold PowT Lib.TabIs World.var? at h ⊢
 simp only [pow_g,Option.bind_some]at h ⊢
 rw [k.keep 6 hlt hT]
 exact h
theorem itoa_nat(n:Nat):Lib.itoa (n:Int)=Lib.decDigits n:=by
 unfold Lib.itoa
 rw [if_neg (by omega),Int.toNat_natCast]
theorem fr_grow(w:World)(k:Nat)(os:Array Obj):Fr (fun _=>False) w (Go.Sort.grow (w.drewN k) os):=
 ⟨rfl,rfl,rfl,by simp,fun r hr _=>by
  show (w.heap++os)[r]? =_
  rw [Array.getElem?_append_left hr]⟩
theorem Fr.ofB{B:Nat}{w w':World}(h:Below B w w'):Fr (fun r=>B<=r) w w':=⟨h.os,h.tape,h.output,h.size,fun r _ hr=>h.block r (by omega)⟩
theorem bufKeep{b:Nat}{bs:List Value}{w w':World}(h:Lib.IsBuffer 121 5 b b bs w)(k:Fr (fun _=>False) w w'):Lib.IsBuffer 121 5 b b bs w':=
 h.old ⟨k.os,k.tape,k.output,k.size,fun r hr=>k.keep r hr (fun h=>h)⟩
def txS(m:Nat->Bool)(L i:Nat)(ok:Bool):List UInt8:=
 if ok then 123::jnT (numsN m i)++(if numsN m i= [] then [] else [44]) else 123::jnT (numsN m L)
theorem txS_t(m:Nat->Bool)(L i:Nat):txS m L i true=123::jnT (numsN m i)++(if numsN m i= [] then [] else [44]):=rfl
theorem txS_f(m:Nat->Bool)(L i:Nat):txS m L i false=123::jnT (numsN m L):=rfl
theorem txS_step{m:Nat->Bool}{L i n:Nat}(h1:i<n)(hz:∀j,i<j->j<n->m j=false)(hi:m i=true):txS m L i true++Lib.decDigits i++ [44]=txS m L n true:=by
 have e:numsN m n=numsN m i++ [i]:=by
  obtain ⟨d,rfl⟩:=Nat.exists_eq_add_of_le h1
  rw [numsN_gap m (i+1) d (fun j a b=>hz j (by omega) b)]
  simp [numsN,hi]
 have hne:numsN m n≠ []:=by rw [e];simp
 rw [txS_t,txS_t,if_neg hne,e]
 by_cases h0:numsN m i= []
 ·rw [if_pos h0,h0,List.nil_append,jnT_one];simp [jnT]
 ·rw [if_neg h0,jnT_add h0];simp
theorem txS_last{m:Nat->Bool}{L i:Nat}(hL:i<L)(hz:∀j,i<j->m j=false)(hi:m i=true):txS m L i true++Lib.decDigits i=txS m L i false:=by
 have e:numsN m L=numsN m i++ [i]:=by
  obtain ⟨d,rfl⟩:=Nat.exists_eq_add_of_le hL
  rw [numsN_gap m (i+1) d (fun j a b=>hz j (by omega))]
  simp [numsN,hi]
 rw [txS_t,txS_f,e]
 by_cases h0:numsN m i= []
 ·rw [if_pos h0,h0,List.nil_append,jnT_one];simp [jnT]
 ·rw [if_neg h0,jnT_add h0];simp
theorem txS_first{m:Nat->Bool}{L i:Nat}(hz:∀j,j<i->m j=false):txS m L i true= [123]:=by
 have e:numsN m i= []:=by
  have:=numsN_gap m 0 i (fun j _ h=>hz j (by omega))
  rw [Nat.zero_add]at this
  exact this
 simp [txS,e,jnT]
theorem txS_none{m:Nat->Bool}{L i:Nat}(hz:∀j,m j=false):txS m L i false= [123]:=by
 have e:numsN m L= []:=by
  have:=numsN_gap m 0 L (fun j _ _=>hz j)
  rw [Nat.zero_add]at this
  exact this
 simp [txS,e,jnT]
theorem txS_len{m:Nat->Bool}{L i:Nat}(hi:i<=L)(hL:L<=9999)(ok:Bool):(txS m L i ok).length<=100000:=by
 have h1:=jnT_len (numsN m i) (fun z hz=>by have:=numsN_lt m i z hz;omega)
 have h2:=jnT_len (numsN m L) (fun z hz=>by have:=numsN_lt m L z hz;omega)
 have h3:=numsN_le m i
 have h4:=numsN_le m L
 unfold txS
 split
 ·split <;> simp <;> omega
 ·simp;omega
theorem byteCells_one(l:List UInt8):∀v∈Lib.byteCells l,v.oneCell'=true:=by
 intro v hv
 obtain ⟨b,_,rfl⟩:=List.mem_map.1 hv
 rfl
theorem byteCells_app(a b:List UInt8):Lib.byteCells a++Lib.byteCells b=Lib.byteCells (a++b):=by simp [Lib.byteCells]
def StrP(w:World)(m:Nat->Bool)(L:Nat)(e:Ending)(w':World):Prop:=e= .returned (.string (setT m L))/\Fr (fun _=>False) w w'
theorem string_c(b L:Nat)(v:Value)(m:Nat->Bool)(w:World)(hT:Tab64 w)(hP:PowT w)(hL:L<=9999)(h:BA w b v L m):
  Calls Tryz.prog 77 #[.pointer (some ⟨b,0,none⟩)] w (StrP w m L):=by
 have hb6:6<w.heap.size:=by
  rcases Nat.lt_or_ge 6 w.heap.size with h6|h6
  ·exact h6
  ·unfold PowT Lib.TabIs World.var? at hP
   simp only [pow_g,Option.bind_some]at hP
   rw [Array.getElem?_eq_none h6]at hP
   cases hP
 have hm:=h.1
 have HT:=Lib.hid hT;have HP:=Lib.hid hP;have HB:=Lib.hid h;have HM:=Lib.hid hm
 have ho:=h.2.own_lt
 have HOW:=Lib.hid ho
 have hcv:=Lib.run_convert_bytes_const (P:=Tryz.prog) (w.alloc (.cells #[.slice none 0 0,.int .i64 0,.int .i8 0] 121)) 38 5 #[.int .u8 123] 1 1 Tryz.underlying38 Tryz.underlying5
 rw [World.size_alloc]at hcv
 clear hT hP h hm ho
 go_enter Tryz.func77,Tryz.ntmps77
 go_wp2_with (go_at_call 116;refine Hid.out ?_)
 refine Lib.hid ?_
 clear hcv
 have hf1:Fr (fun _=>False) w ((w.alloc (.cells #[.slice none 0 0,.int .i64 0,.int .i8 0] 121)).alloc (.cells #[.int .u8 123] 5 (1,2))):=((Fr.refl _ w).alloc _).alloc _
 have hb1:Lib.IsBuffer 121 5 w.heap.size w.heap.size [] ((w.alloc (.cells #[.slice none 0 0,.int .i64 0,.int .i8 0] 121)).alloc (.cells #[.int .u8 123] 5 (1,2))):=bufKeep (Lib.fresh_isBuffer 121 5 w) ((Fr.refl _ _).alloc _)
 have hp1:=hp_new (w.alloc (.cells #[.slice none 0 0,.int .i64 0,.int .i8 0] 121)) (.cells #[.int .u8 123] 5 (1,2))
 rw [World.size_alloc]at hp1
 have hs1:((w.alloc (.cells #[.slice none 0 0,.int .i64 0,.int .i8 0] 121)).alloc (.cells #[.int .u8 123] 5 (1,2))).heap.size=w.heap.size+2:=by simp
 generalize (w.alloc (.cells #[.slice none 0 0,.int .i64 0,.int .i8 0] 121)).alloc (.cells #[.int .u8 123] 5 (1,2))=w1 at*
 refine (Tryz.Buffer_Write_any w.heap.size w.heap.size [] [.int .u8 123] ⟨w.heap.size+1,0,none⟩ 1 1 w1 hb1 (by omega) (by simp) rfl (by simp) (fun j v hj=>?_) (by simp [Value.oneCell']) (by simp)).mono ?_
 ·have hj0:j=0:=by
   rcases Nat.eq_zero_or_pos j with h|h
   ·exact h
   ·rw [List.getElem?_eq_none (by simp;omega)]at hj;cases hj
  subst hj0
  have hv:v= .int .u8 123:=by simpa using hj.symm
  subst hv
  exact hp_cell hp1 0 rfl
 rintro e w2 ⟨rfl,hb2,hbl2,_⟩
 have hf2:Fr (fun r=>w.heap.size<=r) w w2:=(hf1.mono (fun r (h:False)=>h.elim)).trans (Fr.ofB hbl2)
 rw [List.nil_append]at hb2
 have keepB:Hid (∀w',Fr (fun r=>w.heap.size<=r) w w'->BA w' b v L m):=fun w' h=>⟨HB.out.1,HB.out.2.keep h (fun r hr h2=>by have:=HOW.out r hr;omega)⟩
 have keepT:Hid (∀w',Fr (fun r=>w.heap.size<=r) w w'->Tab64 w'):=fun w' h=>HT.out.keep h (by omega)
 have keepP:Hid (∀w',Fr (fun r=>w.heap.size<=r) w w'->PowT w'):=fun w' h=>HP.out.keep h (by omega)
 have N0:Calls Tryz.prog 88 #[.pointer (some ⟨b,0,none⟩),.int .u64 0] w2 (fun e w'=>NxtP m 0 e/\∃q,w'=w2.drewN q):=next_c b 0 L v m w2 (keepT.out _ hf2) (by omega) (keepB.out _ hf2)
 have HB2:=Lib.hid hb2;have HF2:=Lib.hid hf2;have HN0:=Lib.hid N0
 clear hf1 hb1 hp1 hs1 hb2 hbl2 hf2 N0
 go_wp2_with (go_at_call 88;refine HN0.out.mono ?_;rintro e w3 ⟨⟨n,r,rfl,hnr⟩,q,rfl⟩;have HNR:=Lib.hid hnr;clear hnr)
 go_loopw [5,6,7] (fun x i o wr=>∃(c k:Nat) (ok:Bool),x= .int .i64 (c:Int)/\i= .int .u64 (k:Int)/\o= .bool ok/\(ok=true->c<=k/\k<L/\m k=true)/\
   Lib.IsBuffer 121 5 w.heap.size w.heap.size (Lib.byteCells (txS m L k ok)) wr/\Fr (fun r=>w.heap.size<=r) w wr) (fun x i o _=>match o with| .bool true=>L+1-(intOf i).toNat|_=>0)
 case atStart=>
  have hm:=HM.out
  refine ⟨0,n,r,rfl,rfl,rfl,fun h=>?_,?_,HF2.out.drewN q⟩
  ·rcases HNR.out with ⟨_,_,h2,_⟩|⟨h2,_⟩
   ·refine ⟨Nat.zero_le _,?_,h2⟩
    rcases Nat.lt_or_ge n L with h3|h3
    ·exact h3
    ·rw [hm n h3]at h2;cases h2
   ·rw [h2]at h;cases h
  ·have e:txS m L n r= [123]:=by
    rcases HNR.out with ⟨h1,_,_,h4⟩|⟨h1,h4⟩
    ·rw [h1];exact txS_first (fun j hj=>h4 j (Nat.zero_le _) hj)
    ·rw [h1];exact txS_none (fun j=>h4 j (Nat.zero_le _))
   rw [e]
   exact HB2.out
 case round=>
  obtain ⟨c,k,ok,rfl,rfl,rfl,hok,hbuf,hfr⟩:=hrel
  have HBF:=Lib.hid hbuf;have HFR:=Lib.hid hfr
  clear hbuf hfr HB2 HF2 HN0 HNR
  cases ok
  ·have hlen:Hid ((Lib.byteCells (txS m L k false)).length<=100000):=by
    show _<=_
    rw [Lib.byteCells_length,txS_f]
    have h2:=jnT_len (numsN m L) (fun z hz=>by have:=numsN_lt m L z hz;omega)
    have h4:=numsN_le m L
    simp;omega
   clear hok
   go_wp2_with (go_at_call 117;refine (Tryz.Buffer_WriteString_k w.heap.size w.heap.size (Lib.byteCells (txS m L k false)) (⟨#[125]⟩:ByteArray) _ HBF.out HFR.out.size (byteCells_one _) (by have:=hlen.out;show _+1<=_;omega)).mono ?_;rintro e w5 ⟨rfl,hb5,hbl5,_⟩;refine Hid.out ?_)
   refine Lib.hid ?_
   have hf5:=HFR.out.trans (Fr.ofB hbl5)
   rw [byteCells_app]at hb5
   have HB5:=Lib.hid hb5;have HF5:=Lib.hid hf5
   clear hb5 hbl5 hf5
   go_wp2_with (go_at_call 119;refine (Tryz.Buffer_String w.heap.size w.heap.size _ _ HB5.out).mono ?_;rintro e w6 ⟨rfl,q6,rfl⟩)
   go_ret
   exact ⟨by rw [txS_f];rfl,⟨HF5.out.os,HF5.out.tape,HF5.out.output,HF5.out.size,fun r hr _=>HF5.out.keep r hr (by omega)⟩⟩
  ·obtain ⟨hck,hkL,hmk⟩:=hok rfl
   obtain ⟨D,hD⟩:∃D:ByteArray,D=⟨(Lib.decDigits k).toArray⟩:=⟨_,rfl⟩
   have CF:Calls Tryz.prog 118 #[.int .i64 (k:Int),.int .i64 10] wr (fun e w'=>e= .returned (.string D)/\Fr (fun _=>False) wr w'):=by
    refine (Tryz.strconv_FormatInt_10 (k:Int) (by omega) (by omega) wr (keepP.out _ HFR.out)).mono ?_
    rintro e w' ⟨rfl,kk,os,rfl⟩
    exact ⟨by rw [hD,itoa_nat],fr_grow _ _ _⟩
   have hDs:Hid (D.data.toList=Lib.decDigits k/\D.size<=4):=by
    refine ⟨by rw [hD],?_⟩
    rw [hD,bsz_l];exact dec4 (by omega)
   have hlen:Hid ((Lib.byteCells (txS m L k true)).length<=100000):=by
    show _<=_
    rw [Lib.byteCells_length];exact txS_len (by omega) hL true
   have d0:decide ((262144:Int)<(c:Int)+1)=false:=by simp;omega
   have HCF:=Lib.hid CF;have HMK:=Lib.hid hmk
   clear hD CF hok hmk
   go_wp2_with (go_at_call 118;refine HCF.out.mono ?_;rintro e w4 ⟨rfl,hf4⟩;refine Hid.out ?_)
   refine Lib.hid ?_
   have HB4:=Lib.hid (bufKeep HBF.out hf4)
   have HF4:=Lib.hid (HFR.out.trans (hf4.mono (fun r (h:False)=>h.elim)))
   clear hf4
   go_wp2_with (go_at_call 117;refine (Tryz.Buffer_WriteString_k w.heap.size w.heap.size _ D _ HB4.out HF4.out.size (byteCells_one _) (by have:=hlen.out;have:=hDs.out.2;omega)).mono ?_;rintro e w5 ⟨rfl,hb5,hbl5,_⟩;refine Hid.out ?_)
   refine Lib.hid ?_
   have hf5:=HF4.out.trans (Fr.ofB hbl5)
   rw [hDs.out.1,byteCells_app]at hb5
   have N5:=next_c b (k+1) L v m w5 (keepT.out _ hf5) (by omega) (keepB.out _ hf5)
   rw [show ((k+1:Nat):Int)=(k:Int)+1 by omega]at N5
   have HB5:=Lib.hid hb5;have HF5:=Lib.hid hf5;have HN5:=Lib.hid N5
   clear hb5 hbl5 hf5 N5
   go_wp2_with (go_at_call 88;refine HN5.out.mono ?_;rintro e w6 ⟨⟨n6,r6,rfl,hnr⟩,q6,rfl⟩;refine Hid.out ?_)
   refine Lib.hid ?_
   cases r6
   ·have hz:∀j,k<j->m j=false:=by
     rcases hnr with ⟨h1,_⟩|⟨_,h4⟩
     ·cases h1
     ·exact fun j hj=>h4 j (by omega)
    have HZ:=Lib.hid hz;clear hz hnr
    go_wp2
    go_roundw
    case rel=>
     refine ⟨c+1,n6,false,by go_num,rfl,rfl,fun h=>(by cases h),?_,HF5.out.drewN q6⟩
     have h:=HB5.out
     rw [txS_last hkL HZ.out HMK.out]at h
     rw [txS_f]at h ⊢
     exact h
    case measure=>simp [intOf];omega
   ·obtain ⟨hz1,hz2,hz3⟩:k+1<=n6/\m n6=true/\∀j,k<j->j<n6->m j=false:=by
     rcases hnr with ⟨_,h2,h3,h4⟩|⟨h1,_⟩
     ·exact ⟨h2,h3,fun j h5 h6=>h4 j (by omega) h6⟩
     ·cases h1
    have hn6:n6<L:=by
     rcases Nat.lt_or_ge n6 L with h3|h3
     ·exact h3
     ·rw [HM.out n6 h3]at hz2;cases hz2
    have HZ2:=Lib.hid hz2;have HZ3:=Lib.hid hz3
    clear hz2 hz3 hnr
    have hlen2:Hid ((Lib.byteCells (txS m L k true++Lib.decDigits k)).length<=200000):=by
     show _<=_
     have h1:=hlen.out
     have h2:=dec4 (show k<10000 by omega)
     rw [Lib.byteCells_length]at h1 ⊢
     rw [List.length_append];omega
    go_wp2_with (go_at_call 117;refine (Tryz.Buffer_WriteString_k w.heap.size w.heap.size _ (⟨#[44]⟩:ByteArray) _ (HB5.out.drewN q6) (HF5.out.drewN q6).size (byteCells_one _) (by have:=hlen2.out;show _+1<=_;omega)).mono ?_;rintro e w7 ⟨rfl,hb7,hbl7,_⟩;refine Hid.out ?_)
    refine Lib.hid ?_
    have HF7:=Lib.hid ((HF5.out.drewN q6).trans (Fr.ofB hbl7))
    have HB7:=Lib.hid hb7
    clear hb7 hbl7
    go_wp2
    go_roundw
    case rel=>
     refine ⟨c+1,n6,true,by go_num,rfl,rfl,fun _=>⟨by omega,hn6,HZ2.out⟩,?_,HF7.out⟩
     have h:=HB7.out
     rw [byteCells_app,txS_step hz1 HZ3.out HMK.out]at h
     exact h
    case measure=>simp [intOf];omega
def AskM(w:World)(m:Nat->Bool)(i:Nat)(e:Ending)(w':World):Prop:=
 ∃t,i<=t/\(numsN (frm m i) t).length<=20/\(((numsN (frm m i) t).length=20/\∃r,t=r+1/\i<=r/\m r=true)\/∀j,t<=j->m j=false)/\
  AskP w false ((lastN (numsN (frm m i) t):Nat):Int) 0 ByteArray.empty ((numsN (frm m i) t).map numV) [] e w'
theorem numsN_frm0(m:Nat->Bool)(i:Nat):numsN (frm m i) i= []:=by
 have h:=numsN_gap (frm m i) 0 i (fun j _ hj=>by
  have:decide (i<=j)=false:=by simp;omega
  simp [frm,this])
 rw [Nat.zero_add]at h
 exact h
theorem lastN_snoc(xs:List Nat)(k:Nat):lastN (xs++ [k])=k:=by simp [lastN]
theorem ask_57(a b c fr to n:Nat)(wd:BitVec 64)(many:Value)(vs:Nat->Value)(ls:Nat->List Bool)(w:World)(ha:a<4)(hb:b<4)(hn:n<=2000)(hs:SetsV w vs ls):
  Calls Tryz.prog 7 #[stepV 57 a b c fr to n wd many,setsV vs] w (AskM w (mOf (ls a)) n):=by
 obtain ⟨la,lb,oa,ca,ob,cb,hla,hlb,hcap,HA,HB,HLA,HLB,EA,EB⟩:=askIn hs ha hb
 unfold stepV setsV
 clear hs
 go_enter Tryz.func7,Tryz.ntmps7
 go_wp2
 obtain ⟨w1,hw1,c0,c1,c2,c3,c4,HW⟩:=askMid 57 c fr to n wd many ha hb EA EB
 rw [hw1];clear hw1
 go_quiet (fail)
 go_wp2_with (go_at_call 21;refine (askJ nq hla hlb HA HB HLA HLB HW).out.mono ?_;rintro e w2 ⟨v3,rfl,k0,HC,HK,HA2,HB2⟩;refine Hid.out ?_)
 refine Lib.hid ?_
 clear c0 c1 c2 c3 c4
 obtain ⟨i0,hi0,hz0,hz1,hz2⟩:=info_parts info29
 have q6:=HK.out.c6
 have l0:w.heap.size<w2.heap.size:=by have:=HK.out.size;omega
 go_wp2_with (first|(go_at_call 24;(with_reducible refine HC.out.mono ?_);rintro e w' ⟨rfl,hw⟩;obtain rfl:=hw.symm))
 have hsz:=HK.out.size
 have HOA:=Lib.hid (fun r hr=>HA.out.own_lt r hr:∀r,(Value.slice oa la ca).ownBlock=some r->r<w.heap.size)
 have hP0:(w2.alloc (.cells #[.bool false,.int .i64 0,.int .u64 0,.string { data:= #[] },.slice none 0 0,.slice none 0 0] 40)).heap[w2.heap.size]? =some (.cells #[.bool false,.int .i64 0,.int .u64 0,.string { data:= #[] },.slice none 0 0,.slice none 0 0] 40 (0,0)):=hp_new w2 _
 have hPS:=Lib.hid (show w.heap.size+3<=w2.heap.size from hsz)
 have HP0:=Lib.hid hP0
 clear k0 q6 hsz hP0 l0
 obtain ⟨P,hP⟩:∃P,P=w2.heap.size:=⟨_,rfl⟩
 rw [<- hP]at hPS HP0 ⊢
 have HK1:=Lib.hid (HK.out.keep ((Fr.refl _ w2).alloc (.cells #[.bool false,.int .i64 0,.int .u64 0,.string { data:= #[] },.slice none 0 0,.slice none 0 0] 40)))
 have HA1:=Lib.hid (HA2.out.alloc (.cells #[.bool false,.int .i64 0,.int .u64 0,.string { data:= #[] },.slice none 0 0,.slice none 0 0] 40))
 have HPL:=Lib.hid (show P<(w2.alloc (.cells #[.bool false,.int .i64 0,.int .u64 0,.string { data:= #[] },.slice none 0 0,.slice none 0 0] 40)).heap.size by rw [World.size_alloc];omega)
 clear hP
 generalize w2.alloc (.cells #[.bool false,.int .i64 0,.int .u64 0,.string { data:= #[] },.slice none 0 0,.slice none 0 0] 40)=w5 at*
 go_loopw [14] (fun i wr=>∃k c z ov cv,n<=k/\(k<=n\/k<=la)/\i= .int .i64 (k:Int)/\c=(numsN (frm (mOf (ls a)) n) k).length/\z=lastN (numsN (frm (mOf (ls a)) n) k)/\z<=10000/\c<=20/\(c=20->∃r,k=r+1/\n<=r/\mOf (ls a) r=true)/\
   Lst wr 29 1 (.slice ov c cv) c ((numsN (frm (mOf (ls a)) n) k).map numV)/\wr.heap[P]? =some (.cells #[.bool false,.int .i64 (z:Int),.int .u64 0,.string { data:= #[] },.slice ov c cv,.slice none 0 0] 40 (0,0))/\
   (∀r,(Value.slice ov c cv).ownBlock=some r->P<r)/\AskS wr w w.heap.size 57 fr to n/\BL wr (.slice oa la ca) (ls a)) (fun i _=>la-(intOf i).toNat)
 case atStart=>
  refine ⟨n,0,0,none,0,Nat.le_refl _,.inl (Nat.le_refl _),rfl,by rw [numsN_frm0];rfl,by rw [numsN_frm0];rfl,by omega,by omega,fun h=>absurd h (by omega),?_,HP0.out,by simp [Value.ownBlock],HK1.out,HA1.out⟩
  rw [numsN_frm0];exact Lst.nil _ _ _
 case round=>
  obtain ⟨k,c,z,ov,cv,hnk,hk,rfl,hc,hz,hzb,hc20,hlast,hL,hp,ho,hs,hb⟩:=hrel
  clear HK HA2 HC HB2 HK1 HA1
  have HK:=Lib.hid hs;have HA2:=Lib.hid hb;have HL:=Lib.hid hL;have HP:=Lib.hid hp;have HO:=Lib.hid ho;have HCE:=Lib.hid hc;have HZE:=Lib.hid hz;have HLA2:=Lib.hid hlast
  clear hs hb hL ho hc hz hlast
  have HCL:=askCell HA2 HLA
  have g0:=hp_cell hp 0 rfl
  have g1:=hp_cell hp 1 rfl
  have g2:=hp_cell hp 2 rfl
  have g3:=hp_cell hp 3 rfl
  have g4:=hp_cell hp 4 rfl
  have g5:=hp_cell hp 5 rfl
  have z1:=hp_free hp 1
  have z4:=hp_free hp 4
  have lP:=hp_lt hp
  clear hp
  have hdone:Hid (∀w3,Hid (AskS w3 w w.heap.size 57 fr to n)->Lst w3 29 1 (.slice ov c cv) c ((numsN (frm (mOf (ls a)) n) k).map numV)->Lst w3 29 1 (.slice ov c cv) ((numsN (frm (mOf (ls a)) n) k).map numV).length ((numsN (frm (mOf (ls a)) n) k).map numV)):=fun w3 _ h=>by
   rw [List.length_map,<- HCE.out];exact h
  by_cases hlt:k<la/\c<20
  ·obtain ⟨hlt,hcl⟩:=hlt
   obtain ⟨s,c',e1,hc⟩:=HCL.out k hlt
   clear HCL
   cases e1
   cases hb:mOf (ls a) k
   ·rw [hb]at hc
    have HB:=Lib.hid hb;clear hb
    go_wp2
    go_roundw
    case rel=>
     have hf:(frm (mOf (ls a)) n) k=false:=by simp [frm,HB.out]
     have hn2:numsN (frm (mOf (ls a)) n) (k+1)=numsN (frm (mOf (ls a)) n) k:=by simp [numsN,hf]
     refine ⟨k+1,c,z,ov,cv,by omega,by omega,by go_num,by rw [hn2];exact HCE.out,by rw [hn2];exact HZE.out,hzb,by omega,fun h=>absurd h (by omega),by rw [hn2];exact HL.out,HP.out,HO.out,HK.out,HA2.out⟩
    case measure=>simp [intOf];omega
   ·rw [hb]at hc
    have HB:=Lib.hid hb;clear hb
    go_wp2_with (at_builtin;refine wpList_app 33 29 i0 _ 1 8 Tryz.underlying33 hi0 hz0 hz1 hz2 rfl (by omega) (by omega) (.tmp 280) (.tmp 283) rfl rfl _ _ _ _ (HL.out.alloc _) _ _ _ (src_one wr (.int .u64 (k:Int)) 29) (by simp [Value.oneCell']) (by omega) rfl rfl ?_;intro v1 w1 hv1 hf1 hat1;refine Hid.out ?_)
    refine Lib.hid ?_
    have hp1:=(hf1.keep P (by simp;omega) (by intro e;have:=HO.out P e;omega)).trans ((hp_alloc wr (.cells #[.int .u64 (k:Int)] 29) lP).trans HP.out)
    have hsz1:=hf1.size
    have ho1:∀r,v1.ownBlock=some r->P<r:=fun r hr=>by
     rcases hat1 with e|e
     ·exact HO.out r (e ▸ hr)
     ·rw [e,World.size_alloc]at hr;cases hr;omega
    obtain ⟨ov1,cv1,rfl⟩:=hv1.sl
    have hfT:Fr (fun r=>w.heap.size+3<=r) wr w1:=((Fr.refl _ wr).alloc _).trans' hf1 (fun r hr=> .inl (by have:=HO.out r hr;have:=hPS.out;omega))
    have HV1:=Lib.hid hv1;have HP1:=Lib.hid hp1;have HO1:=Lib.hid ho1;have HFT:=Lib.hid hfT
    have g4':=hp_cell hp1 4 rfl
    have g1':=hp_cell hp1 1 rfl
    have z1':=hp_free hp1 1
    have z4':=hp_free hp1 4
    clear hv1 hp1 ho1 hfT hf1 hat1 hsz1 g0 g1 g2 g3 g4 g5 z1 z4 hc
    go_wp2
    go_roundw
    case rel=>
     have hf:(frm (mOf (ls a)) n) k=true:=by
      have:decide (n<=k)=true:=by simp;omega
      simp [frm,HB.out,this]
     have hn2:numsN (frm (mOf (ls a)) n) (k+1)=numsN (frm (mOf (ls a)) n) k++ [k]:=by simp [numsN,hf]
     have hfS:Fr (· =P) w1 ((w1.setCell ⟨P,4,none⟩ (.slice ov1 (c+1) cv1)).setCell ⟨P,1,none⟩ (.int .i64 (k:Int))):=((Fr.refl (· =P) w1).setCell (.inl rfl) _).setCell (.inl rfl) _
     refine ⟨k+1,c+1,k,ov1,cv1,by omega,by omega,by go_num,by rw [hn2,List.length_append,<- HCE.out];rfl,by rw [hn2,lastN_snoc],by omega,by omega,fun _=>⟨k,rfl,hnk,HB.out⟩,?_,?_,HO1.out,?_,?_⟩
     ·rw [hn2,List.map_append]
      exact HV1.out.keep hfS (fun r hr e=>by have:=HO1.out r hr;omega)
     ·exact hp_same _ P 1 _ (hp_same w1 P 4 _ HP1.out)
     ·exact (HK.out.keepT HFT.out (fun r hr=>hr)).keepT hfS (fun r hr=>by have:=hPS.out;omega)
     ·exact (HA2.out.keep HFT.out (fun r hr h=>by have:=HOA.out r hr;omega)).keep hfS (fun r hr e=>by have:=HOA.out r hr;have:=hPS.out;omega)
    case measure=>simp [intOf];omega
  ·have hex:Hid (((numsN (frm (mOf (ls a)) n) k).length=20/\∃r,k=r+1/\n<=r/\mOf (ls a) r=true)\/∀j,k<=j->mOf (ls a) j=false):=by
    by_cases h20:c=20
    ·exact .inl ⟨HCE.out ▸ h20,HLA2.out h20⟩
    ·exact .inr (fun j hj=>mOf_out _ (by rw [<- HLA.out];omega))
   clear HCL
   have hlt2:la<=k\/(k<la/\20<=c):=by omega
   clear hlt
   obtain ⟨e0,f0,e1,f1,e2,f2,e3,f3,e4,f4,e5,f5⟩:=HK.out.six
   rcases hlt2 with hlt|⟨hlt,hcl⟩
   all_goals
    go_wp2
    clear e0 e1 e2 e3 e4 e5 f0 f1 f2 f3 f4 f5
    obtain ⟨w4,hw4,e0,e1,e2,e3,e4,e5,HF⟩:=askSix false (z:Nat) 0 { data:= #[] } (.slice ov c cv) nilV 0 rfl ((numsN (frm (mOf (ls a)) n) k).map numV) [] HK (hdone.out _ HK HL.out) (Lst.nil _ 5 1) (fun r hr=>by have:=HO.out r hr;have:=hPS.out;omega) (noOwn _)
    rw [hw4];clear hw4
    simp [bodyPost,results,Tryz.f7,Tryz.results7,go_sem,e0,e1,e2,e3,e4,e5]
    exact ⟨k,hnk,by rw [<- HCE.out];exact hc20,hex.out,by rw [<- HZE.out];exact HF.out⟩
theorem new_a(L:Nat)(w:World)(hL:L<=50000):Calls Tryz.prog 71 #[.int .u64 L] w (MadeA w L (fun _=>false)):=by
 refine (new_c L w hL).mono fun e w' h=>MadeR.ma (m:=fun _=>false) ?_ (fun _ _=>rfl)
 obtain ⟨b,s,c,g,he,r,hg,rest⟩:=h
 exact ⟨b,s,c,g,he,r,fun i hi=>by rw [hg i hi];exact pk_ext (fun _ _=>by simp),rest⟩
theorem clone_r(b L:Nat)(v:Value)(m:Nat->Bool)(w:World)(h:BA w b v L m):
  Calls Tryz.prog 65 #[.pointer (some ⟨b,0,none⟩)] w (MadeR w L (pk m)):=by
 have hl:=h.2.lim
 have h0:=hp_cell h.2.blk 0 (v:= .int .u64 L) rfl
 have h1:=hp_cell h.2.blk 1 (v:=v) rfl
 have hb:=hp_lt h.2.blk
 rcases h.cases with ⟨rfl,rfl⟩|⟨s,c,g,rfl,r,hg,hm⟩
 ·have H:=Lib.hid h;clear h
  go_enter Tryz.func65,Tryz.ntmps65
  go_wp2_with (go_at_call 71;refine (new_c 0 _ (by omega)).mono ?_;rintro e w1 ⟨b1,s1,c1,g1,rfl,r1,hg1,hfr,hb1,hs1⟩;refine Hid.out ?_)
  refine Lib.hid ?_
  have q1:=(hfr.cell (a:=⟨b,1,none⟩) hb (fun h=>h)).trans h1
  have HR:=Lib.hid r1;have HF:=Lib.hid hfr
  clear r1 hg1 hfr h0 h1
  go_wp2
  go_ret
  exact ⟨b1,s1,c1,g1,rfl,HR.out,fun i hi=>by simp [nw]at hi,HF.out,hb1,hs1⟩
 ·have R:=Lib.hid r;have HG:=Lib.hid hg
  have hs:=r.hs.lt
  have hn:=r.hn
  clear h r hg hm
  go_enter Tryz.func65,Tryz.ntmps65
  go_wp2_with (go_at_call 71;refine (new_c L _ hl).mono ?_;rintro e w1 ⟨b1,s1,c1,g1,rfl,r1,hg1,hfr,hb1,hs1⟩;refine Hid.out ?_)
  refine Lib.hid ?_
  have q1:=(hfr.cell (a:=⟨b,1,none⟩) hb (fun h=>h)).trans h1
  have r0:=R.out.keep hfr (fun h=>h) (fun h=>h)
  have p1:=r1.h1
  have HR0:=Lib.hid r0;have HR:=Lib.hid r1;have HF:=Lib.hid hfr
  clear r0 r1 hg1 hfr h0 h1
  obtain ⟨n,hnL⟩:∃n,n=nw L:=⟨_,rfl⟩
  rw [<- hnL]at q1 p1 hn
  have HN:=Lib.hid hnL;clear hnL
  go_wp2
  refine wp_region_quiet_tail 8 (by kernel_rfl) (by kernel_rfl) ?_
  simp only [List.take_succ_cons,List.take_zero,List.drop_succ_cons,List.drop_zero]
  repeat (go_big_quiet_step (fail))
  refine wpQuiet_nil ?_
  intro _ ⟨nq,hw'⟩
  subst hw'
  obtain ⟨w2,hcp,hrow2,hfr2⟩:=copy33 (w1.drewN nq) 3 s1 0 s 0 n c1 n c c1 c n g1 g (rowIs_drewN HR.out.hs nq) (rowIs_drewN HR0.out.hs nq) (Nat.min_self n).symm (by have:=HR.out.hn;rw [<- HN.out]at this;omega) (by omega)
  have HR2:=Lib.hid hrow2;have HF2:=Lib.hid hfr2;clear hrow2 hfr2
  go_wp2
  go_ret
  refine ⟨b1,s1,c1,_,rfl,⟨HR.out.ne,HR.out.hn,HR.out.hc,hl,?_,HR2.out⟩,fun i hi=>?_,(HF.out.drewN nq).trans' HF2.out (fun r hr=> .inr (by omega)),hb1,hs1⟩
  ·exact (HF2.out.keep b1 (hp_lt HR.out.hb) (fun e=>HR.out.ne e.symm)).trans HR.out.hb
  ·rw [if_pos ⟨by omega,by rw [HN.out];omega⟩]
   simp only [Nat.zero_add,Nat.sub_zero]
   exact HG.out i hi
theorem clone_c(b L:Nat)(v:Value)(m:Nat->Bool)(w:World)(h:BA w b v L m):
  Calls Tryz.prog 65 #[.pointer (some ⟨b,0,none⟩)] w (MadeA w L m):=(clone_r b L v m w h).mono fun _ _ k=>k.ma h.1
theorem complement_c(b L:Nat)(v:Value)(m:Nat->Bool)(w:World)(h:BA w b v L m):
  Calls Tryz.prog 64 #[.pointer (some ⟨b,0,none⟩)] w (MadeA w L (fun i=>below L i&& !m i)):=by
 have hl:=h.2.lim
 have h0:=hp_cell h.2.blk 0 (v:= .int .u64 L) rfl
 have h1:=hp_cell h.2.blk 1 (v:=v) rfl
 have hb:=hp_lt h.2.blk
 rcases h.cases with ⟨rfl,rfl⟩|⟨s,c,g,rfl,r,hg,hm⟩
 ·clear h
  go_enter Tryz.func64,Tryz.ntmps64
  go_wp2_with (first|(go_at_call 103;refine (panicIfNull_c _ _).mono ?_;rintro e w' ⟨rfl,rfl⟩)|(go_at_call 71;refine (new_c 0 _ (by omega)).mono ?_;rintro e w1 ⟨b1,s1,c1,g1,rfl,r1,hg1,hfr,hb1,hs1⟩;refine Hid.out ?_))
  refine Lib.hid ?_
  have q1:=(hfr.cell (a:=⟨b,1,none⟩) hb (fun h=>h)).trans h1
  have HR:=Lib.hid r1;have HF:=Lib.hid hfr
  clear r1 hg1 hfr h0 h1
  go_wp2
  refine wp_loop_once ?_
  go_wp2_with (go_at_call 41;refine (clean_c b1 s1 0 c1 g1 _ HR.out).mono ?_;rintro e w2 ⟨rfl,g',hr2,hg2,hfr2⟩)
  go_ret
  refine MadeR.ma ⟨b1,s1,c1,g',rfl,hr2,fun i hi=>by simp [nw]at hi,HF.out.trans' hfr2 (fun r hr=> .inr (by omega)),hb1,hs1⟩ (fun i _=>by simp [below])
 ·have R:=Lib.hid r;have HG:=Lib.hid hg;have HM:=Lib.hid hm
  have hs:=r.hs.lt
  have hn:=r.hn
  clear h r hg hm
  go_enter Tryz.func64,Tryz.ntmps64
  go_wp2_with (first|(go_at_call 103;refine (panicIfNull_c _ _).mono ?_;rintro e w' ⟨rfl,rfl⟩)|(go_at_call 71;refine (new_c L _ hl).mono ?_;rintro e w1 ⟨b1,s1,c1,g1,rfl,r1,hg1,hfr,hb1,hs1⟩;refine Hid.out ?_))
  refine Lib.hid ?_
  have q1:=(hfr.cell (a:=⟨b,1,none⟩) hb (fun h=>h)).trans h1
  have r0:=R.out.keep hfr (fun h=>h) (fun h=>h)
  have HR0:=Lib.hid r0;have HR:=Lib.hid r1;have HF:=Lib.hid hfr
  clear r0 r1 hg1 hfr h0 h1
  obtain ⟨n,hnL⟩:∃n,n=nw L:=⟨_,rfl⟩
  have hnb:n<=1000:=by subst hnL;unfold nw;omega
  rw [<- hnL]at q1 hn
  have HN:=Lib.hid hnL;clear hnL
  go_wp2
  go_loopw [17] (fun i wr=>∃k:Nat,k<=n/\i= .int .i64 (k:Int)/\RS wr b1 s1 L c1 (fun j=>if j<k then ~~~ g j else g1 j)/\Fr (· =s1) w1 wr) (fun i _=>n-(intOf i).toNat)
  case atStart=>exact ⟨0,by omega,rfl,HR.out.congr (fun j _=>by simp),Fr.refl _ _⟩
  case round=>
   obtain ⟨k,hk,rfl,hr,hfr⟩:=hrel
   have HFr:=Lib.hid hfr
   have HRr:=Lib.hid hr
   have x1:=hr.h1
   rw [<- HN.out]at x1
   by_cases hlt:k<n
   ·have c0:=hr.at (i:=k) (by rw [<- HN.out];exact hlt)
    have f0:=hr.fr k
    have cc:=(hfr.cell (a:=⟨s,k,none⟩) HR0.out.hs.lt (by show ¬s=s1;omega)).trans (HR0.out.at (i:=k) (by rw [<- HN.out];exact hlt))
    clear hr hfr
    go_wp2
    go_roundw
    case rel=>
     refine ⟨k+1,by omega,by go_num,?_,HFr.out.setCell (.inl rfl) _⟩
     rw [if_neg (show ¬(IntKind.u64.signed=true) by decide),wn_max]
     refine (HRr.out.set k _).congr (fun j _=>?_)
     by_cases e:j=k
     ·rw [if_pos e,if_pos (show j<k+1 by omega),e]
     ·rw [if_neg e]
      by_cases e2:j<k
      ·rw [if_pos e2,if_pos (show j<k+1 by omega)]
      ·rw [if_neg e2,if_neg (show ¬j<k+1 by omega)]
    case measure=>simp [intOf];omega
   ·have hkn:k=n:=by omega
    subst hkn
    clear hr hfr
    go_wp2_with (go_at_call 41;refine (clean_c b1 s1 L c1 _ _ HRr.out).mono ?_;rintro e w2 ⟨rfl,g',hr2,hg2,hfr2⟩)
    go_ret
    refine MadeR.ma ⟨b1,s1,c1,g',rfl,hr2,fun i hi=>?_,(HF.out.trans' HFr.out (fun r hr=> .inr (by omega))).trans' hfr2 (fun r hr=> .inr (by omega)),hb1,hs1⟩ (fun i hi=>by simp [below];omega)
    rw [hg2 i hi,if_pos (by rw [HN.out];exact hi),HG.out i hi]
    refine pk_ext fun j hj=>?_
    rw [BitVec.getLsbD_and,BitVec.getLsbD_not,getLsbD_pk,getLsbD_pk]
    simp [hj,Bool.and_comm]
end Go.Proofs.YtobdfhlmipcjbaaGreatDoor
namespace Go.Proofs.YtobdfhlmipcjbaaGreatDoor
open Go.RowKit Pop
def Vw(w:World)(b L n c s:Nat)(A:Option Addr)(m:Nat->Bool):Prop:=
 w.cell? ⟨b,1,none⟩=some (.slice A n c)/\n<=c/\(0<n->A=some ⟨s,0,none⟩)/\(∀i,i<n->w.cell? ⟨s,i,none⟩=some (WV (pk m i)))/\n=nw L/\L<=50000/\∀i,L<=i->m i=false
theorem BA.vw{w:World}{b L:Nat}{v:Value}{m:Nat->Bool}(h:BA w b v L m):∃n c s A,Vw w b L n c s A m/\Own b v s:=by
 rcases Nat.eq_zero_or_pos L with rfl|hL
 ·obtain ⟨_,hl,hm,A,s,c,h1,h2,h3,h4⟩:=h.view2
  exact ⟨0,c,b,A,⟨h1,h2,fun h=>absurd h (by omega),fun i hi=>absurd hi (by omega),rfl,hl,hm⟩,.inl rfl⟩
 ·obtain ⟨s,c,g,rfl,ne,hn,hc,hl,hb,hs,hg,hm⟩:=h.openAt hL
  exact ⟨nw L,c,s,_,⟨hp_cell hb 1 rfl,hn,fun _=>rfl,fun i hi=>by rw [hs.cell (by omega),hg i hi],rfl,hl,hm⟩,.inr rfl⟩
theorem BA.keepF{w w':World}{b L:Nat}{v:Value}{m:Nat->Bool}{T:Nat->Prop}(h:BA w b v L m)(k:Fr T w w')(hT:∀r,Own b v r->¬T r):BA w' b v L m:=⟨h.1,h.2.keep k hT⟩
theorem Vw.keep{w w':World}{b L n c s:Nat}{A:Option Addr}{m:Nat->Bool}{T:Nat->Prop}(h:Vw w b L n c s A m)(k:Fr T w w')(h1:¬T b)(h2:¬T s):Vw w' b L n c s A m:=by
 obtain ⟨a1,a2,a3,a4,a5,a6,a7⟩:=h
 exact ⟨(k.cell (block_lt_of_cell a1) h1).trans a1,a2,a3,fun i hi=>(k.cell (block_lt_of_cell (a4 i hi)) h2).trans (a4 i hi),a5,a6,a7⟩
def ExtP(w:World)(d sd Ld c:Nat)(a m:Nat->Bool)(n:Nat)(e:Ending)(w':World):Prop:=
 e= .returned (.tuple #[])/\∃g,RS w' d sd Ld c g/\(∀j,j<nw Ld->g j=pk (exM a m n) j)/\Fr (· =sd) w w'
theorem extractTo_raw(p q d sd La Lm nx cx sx ny cy sy c:Nat)(A B:Option Addr)(a m:Nat->Bool)(g0:Nat->BitVec 64)(w:World)
  (hx:Vw w p La nx cx sx A a) (hy:Vw w q Lm ny cy sy B m) (hr:RS w d sd (cntN m Lm) c g0) (h0:∀j,j<nw (cntN m Lm)->g0 j=0)
  (hs1:p≠sd) (hs2:sx≠sd) (hs3:q≠sd) (hs4:sy≠sd):
  Calls Tryz.prog 106 #[.pointer (some ⟨p,0,none⟩),.pointer (some ⟨q,0,none⟩),.pointer (some ⟨d,0,none⟩)] w (ExtP w d sd (cntN m Lm) c a m (64*min nx ny)):=by
 obtain ⟨x1,x2,x3,x4,x5,x6,x7⟩:=hx
 obtain ⟨y1,y2,y3,y4,y5,y6,y7⟩:=hy
 have hnx:nx<=1000:=by rw [x5];exact nw_bound x6
 have hny:ny<=1000:=by rw [y5];exact nw_bound y6
 have hcnt:cntW (pk m) ny=cntN m Lm:=by rw [y5];exact cntW_set y7
 have hmono:∀k,k<=ny->cntN m (64*k)<=cntN m Lm:=fun k hk=>by rw [<- hcnt,cntW_pk];exact cntN_up m (by omega)
 obtain ⟨Ld,hLd⟩:∃Ld,Ld=cntN m Lm:=⟨_,rfl⟩
 have hLdb:Ld<=50000:=by rw [hLd];have:=cntN_le m Lm;omega
 rw [<- hLd]at hr h0 hcnt hmono ⊢
 have HR:=Lib.hid hr;have H0:=Lib.hid h0;have HM:=Lib.hid hmono;have HCN:=Lib.hid hcnt;have HY5:=Lib.hid y5;have HX4:=Lib.hid x4;have HY4:=Lib.hid y4;have HX3:=Lib.hid x3;have HY3:=Lib.hid y3
 have d0:=hr.h0
 have hnone:∀k,pk m k=0->exL a m (64*(k+1))=exL a m (64*k):=fun k hk=>by
  rw [exL_word,exL_none (pk a k).getLsbD (pk m k).getLsbD 64 (fun i _=>by rw [hk];simp)];simp
 have HNONE:=Lib.hid hnone
 clear hr h0 hmono hcnt y5 x5 x4 y4 hnone x7 y7 x6 y6 hLd
 by_cases hz:ny=0\/nx=0
 ·have hmin:min nx ny=0:=by omega
  have hfin:Hid (ExtP w d sd Ld c a m (64*min nx ny) (.returned (.tuple #[])) w):=by
   rw [hmin]
   exact ⟨rfl,g0,HR.out,fun j hj=>by rw [H0.out j hj];exact pk_ext (fun i _=>by simp [exM,exL]),Fr.refl _ _⟩
  clear d0 x3 y3
  by_cases hz1:ny=0
  ·subst hz1
   go_enter Tryz.func106,Tryz.ntmps106
   go_wp2_with (go_at_call 103;refine (panicIfNull_c _ _).mono ?_;rintro e w' ⟨rfl,rfl⟩)
   go_end0
   exact hfin.out
  ·have hz2:nx=0:=by omega
   have t1:((ny:Int)==0)=false:=by simp;omega
   subst hz2
   go_enter Tryz.func106,Tryz.ntmps106
   go_wp2_with (go_at_call 103;refine (panicIfNull_c _ _).mono ?_;rintro e w' ⟨rfl,rfl⟩)
   go_end0
   exact hfin.out
 ·have t1:((ny:Int)==0)=false:=by simp;omega
  have t2:((nx:Int)==0)=false:=by simp;omega
  obtain rfl:=x3 (by omega)
  obtain rfl:=y3 (by omega)
  have hpop:=popcnt_c sy 0 ny cy (pk m) w (by omega) (fun i hi=>by rw [Nat.zero_add];exact HY4.out i hi)
  rw [HCN.out]at hpop
  have HP:=Lib.hid hpop
  have dl:decide (Ld<Ld)=false:=by simp
  obtain ⟨l,hl⟩:∃l,l=min nx ny:=⟨_,rfl⟩
  rw [<- hl]
  have HL:=Lib.hid hl
  clear hpop x3 y3 hz
  have hlt:(nx<ny/\l=nx/\decide (nx<ny)=true)\/(ny<=nx/\l=ny/\decide (nx<ny)=false):=by
   rcases Nat.lt_or_ge nx ny with h|h
   ·exact .inl ⟨h,by omega,by simp [h]⟩
   ·exact .inr ⟨h,by omega,by simp;omega⟩
  clear hl
  clear HX3 HY3
  have H1:=Lib.hid x1;have H2:=Lib.hid y1
  rcases hlt with ⟨hlt,hle,t3⟩|⟨hlt,hle,t3⟩
  all_goals
   have hlx:l<=nx:=by omega
   have hly:l<=ny:=by omega
   subst hle
   go_enter Tryz.func106,Tryz.ntmps106
   go_wp2_with (first|(go_at_call 103;refine (panicIfNull_c _ _).mono ?_;rintro e w' ⟨rfl,hw⟩;obtain rfl:=hw.symm)|(go_at_call 115;refine HP.out.mono ?_;rintro e w' ⟨rfl,hw⟩;obtain rfl:=hw.symm))
   clear x1 y1 d0 HP dl
   go_loopw [7,9] (fun x i wr=>∃(k:Nat) (g:Nat->BitVec 64),k<=l/\i= .int .i64 (k:Int)/\x= .int .u64 ((cntN m (64*k):Nat):Int)/\RS wr d sd Ld c g/\(∀j,j<nw Ld->g j=pk (exM a m (64*k)) j)/\Fr (· =sd) w wr) (fun x i _=>l-(intOf i).toNat)
   case atStart=>exact ⟨0,g0,by omega,rfl,rfl,HR.out,fun j hj=>by rw [H0.out j hj];exact pk_ext (fun i _=>by simp [exM,exL]),Fr.refl _ _⟩
   case round=>
    obtain ⟨k,g,hk,rfl,rfl,hr,hg,hf⟩:=hrel
    obtain ⟨N,hN⟩:∃N,N=cntN m (64*k):=⟨_,rfl⟩
    rw [<- hN]
    have x1:=(hf.cell (block_lt_of_cell H1.out) hs1).trans H1.out
    have y1:=(hf.cell (block_lt_of_cell H2.out) hs3).trans H2.out
    have HR2:=Lib.hid hr;have HG:=Lib.hid hg;have HF:=Lib.hid hf;have HN:=Lib.hid hN
    by_cases hlt2:k<l
    ·have cx_:=(hf.cell (block_lt_of_cell (HX4.out k (by omega))) hs2).trans (HX4.out k (by omega))
     have cy_:=(hf.cell (block_lt_of_cell (HY4.out k (by omega))) hs4).trans (HY4.out k (by omega))
     have hN2:N+pc (pk m k)=cntN m (64*(k+1)):=by rw [hN,<- cnt_word]
     have hNL:N+pc (pk m k)<=Ld:=by rw [hN2];exact HM.out (k+1) (by omega)
     obtain ⟨y,hy⟩:∃y,y=pk m k:=⟨_,rfl⟩
     obtain ⟨x,hx⟩:∃x,x=pk a k:=⟨_,rfl⟩
     rw [<- hy]at cy_ hN2 hNL
     rw [<- hx]at cx_
     clear hr hg hf hN
     have HY:=Lib.hid hy;have HX:=Lib.hid hx
     clear hy hx
     have HN2:=Lib.hid hN2;clear hN2
     by_cases hz0:y=0
     ·have tz:(wn y==0)=true:=by rw [hz0];rfl
      have HZ0:=Lib.hid hz0;clear hz0
      go_wp2
      go_roundw
      case rel=>
       have e:=HNONE.out k (by rw [<- HY.out];exact HZ0.out)
       refine ⟨k+1,g,by omega,by go_num,?_,HR2.out,fun j hj=>?_,HF.out⟩
       ·rw [HN.out,<- exL_length a m,<- exL_length a m,e]
       ·rw [HG.out j hj];exact pk_same (fun i _=>by unfold exM;rw [e])
      case measure=>simp [intOf];omega
     ·have tz:(wn y==0)=false:=by
       rw [beq_eq_false_iff_ne];intro e;rw [wn_eq_zero]at e;exact hz0 e
      have hpc:0<pc y:=by
       rcases Nat.eq_zero_or_pos (pc y) with h|h
       ·exact absurd ((pc_zero_iff y).1 h) hz0
       ·exact h
      have hpl:=pc_le y
      obtain ⟨t,ht⟩:∃t,t=pc y:=⟨_,rfl⟩
      rw [<- ht]at hpc hpl hNL
      have CO:∀w,Calls Tryz.prog 125 #[WV y] w fun e w'=>e= .returned (.int .i64 (t:Int))/\w'=w:=fun w=>by rw [ht];exact ones_c y w
      obtain ⟨R,hR⟩:∃R,R=pk (fun p=>(exL x.getLsbD y.getLsbD 64).getD p false) 0:=⟨_,rfl⟩
      have CP:∀w,Calls Tryz.prog 129 #[WV x,WV y] w fun e w'=>e= .returned (WV R)/\w'=w:=fun w=>by rw [hR];exact pext_e x y w
      obtain ⟨W,hW⟩:∃W,W=N/64:=⟨_,rfl⟩
      obtain ⟨o,ho⟩:∃o,o=N%64:=⟨_,rfl⟩
      have hNW:N=64*W+o:=by omega
      have ho64:o<64:=by omega
      have f1:(N:Int)/64=(W:Int):=by omega
      have f2:bits .and .u64 (N:Int) 63=(o:Int):=by rw [and63 N (by omega),ho]
      have hWn:W<nw Ld:=by unfold nw;omega
      have hW2:64<o+t->W+1<nw Ld:=fun h=>by unfold nw;omega
      have d1:=HR2.out.h1
      have dW:=HR2.out.at hWn
      have dF:=HR2.out.fr W
      obtain ⟨nD,hnD⟩:∃nD,nD=nw Ld:=⟨_,rfl⟩
      have hcD:nD<=c:=by rw [hnD];exact HR2.out.hn
      rw [<- hnD]at d1 hWn hW2
      obtain ⟨G0,hG0⟩:∃G0,G0=g W:=⟨_,rfl⟩
      rw [<- hG0]at dW
      obtain ⟨R1,hR1⟩:∃R1,R1=R<<<o:=⟨_,rfl⟩
      have m1:IntKind.u64.wrap (wn R*(2:Int)^o)=wn R1:=by rw [hR1];exact wn_shl _ _
      obtain ⟨G1,hG1⟩:∃G1,G1=G0|||R1:=⟨_,rfl⟩
      have m2:bits .or .u64 (wn G0) (wn R1)=wn G1:=by rw [hG1];exact wn_or _ _
      have HT:=Lib.hid ht;have HR_:=Lib.hid hR;have HNW:=Lib.hid hNW;have HND:=Lib.hid hnD;have HG0:=Lib.hid hG0;have HR1:=Lib.hid hR1;have HG1:=Lib.hid hG1
      have HCO:=Lib.hid CO;have HCP:=Lib.hid CP
      have hne1:¬d=sd:=fun e=>HR2.out.ne e.symm
      obtain ⟨E,X,hgs,hXL,hEl,hRp,hNx⟩:∃E X:List Bool,Hid (∀j,j<nw Ld->g j=pk (fun i=>E.getD i false) j)/\Hid (X.length<=64/\X.length<=t)/\Hid (E.length<=64*W+o/\64*W+o<=E.length)/\Hid (∀p,p<64->R.getLsbD p=X.getD p false)/\Hid (∀j,pk (exM a m (64*(k+1))) j=pk (fun i=>(E++X).getD i false) j):=by
       have hXl:=exL_wlen a m k
       rw [<- HX.out,<- HY.out,<- ht]at hXl
       have hEl:(exL a m (64*k)).length=64*W+o:=by rw [exL_length,<- HN.out];exact hNW
       exact ⟨exL a m (64*k),exL x.getLsbD y.getLsbD 64,fun j hj=>HG.out j hj,⟨by rw [hXl];exact hpl,by rw [hXl];exact Nat.le_refl _⟩,⟨Nat.le_of_eq hEl,Nat.le_of_eq hEl.symm⟩,fun p hp=>by rw [hR,getLsbD_pk];simp [hp],
        fun j=>pk_same (fun i _=>by unfold exM;rw [exL_word,HX.out,HY.out])⟩
      clear ht hR hNW hnD hG0 hR1 hG1 CO CP hW ho hz0
      have hEq:Hid (∀P:Prop,(E.length=64*W+o->P)->P):=fun P h=>h (Nat.le_antisymm hEl.out.1 hEl.out.2)
      by_cases hov:64<o+t
      ·have hW1:=hW2 hov
       have dW2:=HR2.out.at (i:=W+1) (by rw [<- HND.out];exact hW1)
       have dF2:=HR2.out.fr (W+1)
       obtain ⟨G2,hG2⟩:∃G2,G2=g (W+1):=⟨_,rfl⟩
       rw [<- hG2]at dW2
       obtain ⟨s,hs⟩:∃s,s=64-o:=⟨_,rfl⟩
       have i3:((64:Int)-(o:Int)).toNat=s:=by omega
       obtain ⟨R2,hR2⟩:∃R2,R2=R>>>s:=⟨_,rfl⟩
       have m3:wn R/(2:Int)^s=wn R2:=by rw [hR2];exact wn_shr _ _
       have HR2_:=Lib.hid hR2;have HS:=Lib.hid hs
       clear hG2 hs hR2 hW2
       go_wp2
       go_quiet ((go_at_call 129;exact Calls.quiet_of_same (HCP.out _)))
       go_wp2_with (go_at_call 125;refine (HCO.out _).mono ?_;rintro e w' ⟨rfl,hw⟩;obtain rfl:=hw.symm)
       go_roundw
       case rel=>
        refine ⟨k+1,_,by omega,by go_num,by rw [<- HN2.out,HT.out];simp,((HR2.out.drewN nq).set W G1).set (W+1) R2,fun j hj=>?_,((HF.out.drewN nq).setCell (a:=⟨sd,W,none⟩) (.inl rfl) _).setCell (a:=⟨sd,W+1,none⟩) (.inl rfl) _⟩
        rw [hNx.out j]
        by_cases e:j=W+1
        ·rw [if_pos e,e,HR2_.out,HS.out]
         exact hEq.out _ fun hE=>app_next hE ho64 hXL.out.1 hRp.out
        ·rw [if_neg e]
         by_cases e2:j=W
         ·rw [if_pos e2,e2,HG1.out,HR1.out,HG0.out,hgs.out W (by rw [<- HND.out];exact hWn)]
          exact hEq.out _ fun hE=>app_at hE ho64 hRp.out
         ·rw [if_neg e2,hgs.out j hj]
          exact hEq.out _ fun hE=>app_else hE ho64 hXL.out.1 e2 (fun h=>absurd h e)
       case measure=>simp [intOf];omega
      ·clear hW2
       go_wp2
       go_quiet ((go_at_call 129;exact Calls.quiet_of_same (HCP.out _)))
       go_wp2_with (go_at_call 125;refine (HCO.out _).mono ?_;rintro e w' ⟨rfl,hw⟩;obtain rfl:=hw.symm)
       go_roundw
       case rel=>
        refine ⟨k+1,_,by omega,by go_num,by rw [<- HN2.out,HT.out];simp,(HR2.out.drewN nq).set W G1,fun j hj=>?_,(HF.out.drewN nq).setCell (a:=⟨sd,W,none⟩) (.inl rfl) _⟩
        rw [hNx.out j]
        by_cases e2:j=W
        ·rw [if_pos e2,e2,HG1.out,HR1.out,HG0.out,hgs.out W (by rw [<- HND.out];exact hWn)]
         exact hEq.out _ fun hE=>app_at hE ho64 hRp.out
        ·rw [if_neg e2,hgs.out j hj]
         exact hEq.out _ fun hE=>app_else hE ho64 hXL.out.1 e2 (fun _=>by have:=hXL.out.2;omega)
       case measure=>simp [intOf];omega
    ·have hkl:k=l:=by omega
     have HKL:=Lib.hid hkl
     clear hr hg hf hN hkl
     go_wp2
     go_end0
     have hkl:=HKL.out
     exact ⟨rfl,g,HR2.out,fun j hj=>by rw [<- hkl];exact HG.out j hj,HF.out⟩
theorem exM_tail(a m:Nat->Bool)(n d:Nat)(h:∀j,n<=j->m j=true->a j=false)(i:Nat):exM a m (n+d) i=exM a m n i:=by
 induction d with
 |zero=>rfl
 |succ d ih=>
  rw [<- ih]
  show (exL a m (n+d)++(if m (n+d) then [a (n+d)] else [])).getD i false=(exL a m (n+d)).getD i false
  split
  ·rename_i hm
   rw [h (n+d) (by omega) hm,getD_app]
   split
   ·rfl
   ·rename_i hi
    rw [getD_out _ (show (exL a m (n+d)).length<=i by omega)]
    generalize i-(exL a m (n+d)).length=q
    cases q <;> rfl
  ·rw [List.append_nil]
theorem exM_eq(a m:Nat->Bool)(La Lm K:Nat)(ha:∀i,La<=i->a i=false)(hm:∀i,Lm<=i->m i=false)(hK:La<=K\/Lm<=K)(i:Nat):exM a m K i=exM a m Lm i:=by
 rcases Nat.le_total K Lm with h|h
 ·obtain ⟨d,rfl⟩:=Nat.exists_eq_add_of_le h
  rcases hK with h2|h2
  ·exact (exM_tail a m K d (fun j hj _=>ha j (by omega)) i).symm
  ·rw [show d=0 by omega];rfl
 ·obtain ⟨d,rfl⟩:=Nat.exists_eq_add_of_le h
  exact exM_tail a m Lm d (fun j hj hmj=>by rw [hm j hj]at hmj;cases hmj) i
theorem extract_c(p q La Lm:Nat)(va vm:Value)(a m:Nat->Bool)(w:World)(hx:BA w p va La a)(hy:BA w q vm Lm m):
  Calls Tryz.prog 66 #[.pointer (some ⟨p,0,none⟩),.pointer (some ⟨q,0,none⟩)] w (MadeA w (cntN m Lm) (exM a m Lm)):=by
 have hc:=count_c q Lm vm m w hy
 obtain ⟨L,hL⟩:∃L,L=cntN m Lm:=⟨_,rfl⟩
 rw [<- hL]at hc ⊢
 have hLb:L<=50000:=by rw [hL];have:=cntN_le m Lm;have:=hy.2.lim;omega
 have HX:=Lib.hid hx;have HY:=Lib.hid hy;have HL:=Lib.hid hL;have HC:=Lib.hid hc
 clear hx hy hL hc
 go_enter Tryz.func66,Tryz.ntmps66
 go_wp2_with (first|(go_at_call 73;refine HC.out.mono ?_;rintro e w' ⟨rfl,hw⟩;obtain rfl:=hw.symm)|(go_at_call 71;refine (new_c L _ hLb).mono ?_;rintro e w1 ⟨d,sd,c,g0,rfl,hr,hg,hf,hd,hsd⟩;refine Hid.out ?_))
 refine Lib.hid ?_
 have hox:=HX.out.2.own_lt
 have hoy:=HY.out.2.own_lt
 have hx1:=HX.out.keepF hf (fun _ _ h=>h)
 have hy1:=HY.out.keepF hf (fun _ _ h=>h)
 obtain ⟨nx,cx,sx,A,vx,ox⟩:=hx1.vw
 obtain ⟨ny,cy,sy,B,vy,oy⟩:=hy1.vw
 have hE:=extractTo_raw p q d sd La Lm nx cx sx ny cy sy c A B a m g0 w1 vx vy (HL.out ▸ hr) (by rw [<- HL.out];exact hg) (by have:=hox p (.inl rfl);omega) (by have:=hox sx ox;omega) (by have:=hoy q (.inl rfl);omega) (by have:=hoy sy oy;omega)
 rw [<- HL.out]at hE
 have hfin:Hid (∀g w2,RS w2 d sd L c g->(∀j,j<nw L->g j=pk (exM a m (64*min nx ny)) j)->Fr (· =sd) w1 w2->MadeA w L (exM a m Lm) (.returned (.pointer (some ⟨d,0,none⟩))) w2):=fun g w2 h1 h2 h3=>by
  have he:∀i,exM a m (64*min nx ny) i=exM a m Lm i:=exM_eq a m La Lm _ HX.out.1 HY.out.1 (by
   have e1:=vx.2.2.2.2.1
   have e2:=vy.2.2.2.2.1
   unfold nw at e1 e2
   omega)
  refine ⟨d,_,rfl,h1.ba (fun j hj=>(h2 j hj).trans (pk_same fun i _=>he _)) (fun i hi=>?_),hf.trans' h3 (fun r hr=> .inr (by omega)),?_⟩
  ·unfold exM
   exact getD_out _ (by rw [exL_length,<- HL.out];exact hi)
  ·rintro r (rfl|hr2)
   ·exact hd
   ·simp [Value.ownBlock]at hr2;omega
 have HE:=Lib.hid hE
 clear hE vx vy ox oy hx1 hy1 hox hoy hr hg hf hd hsd
 go_wp2_with (go_at_call 106;refine HE.out.mono ?_;rintro e w2 ⟨rfl,g,h1,h2,h3⟩;refine Hid.out ?_)
 refine Lib.hid ?_
 have HF:=Lib.hid (hfin.out g w2 h1 h2 h3)
 clear h1 h2 h3
 go_wp2
 go_ret
 exact HF.out
end Go.Proofs.YtobdfhlmipcjbaaGreatDoor
