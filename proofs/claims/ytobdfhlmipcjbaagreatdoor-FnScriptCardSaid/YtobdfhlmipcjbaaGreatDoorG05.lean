/- spec.Do's two closures: the set at a place is put anew. Conditions: the place is one of four. The text of a set, and its bytes: plain lists. No condition. DeleteAt: a place is left out. Conditions: the place lies below the length, the length below 50,000. The number before one: PreviousSet, PreviousClear, top. No condition beyond the set's own. spec.Do: its memory as the switch begins; what a step leaves. Conditions: places of four, numbers of at most 2,000. append in a region that draws its order: one step. No condition beyond a length of at most a million. spec.Do: the facts that each step begins with, and those that it ends with. Conditions: places of four. The in-place joins: InPlaceUnion, InPlaceSymmetricDifference, InPlaceIntersection, InPlaceDifference. Conditions: the two sets are one or share no block. -/
import Derived.Deep.RegionHeld3
import Derived.Deep.LoopGhost
import Derived.Test.YtobdfhlmipcjbaaGreatDoorG01
import Derived.Test.YtobdfhlmipcjbaaGreatDoorG04
set_option linter.unusedVariables false
set_option linter.unusedSimpArgs false
set_option maxHeartbeats 2000000
set_option maxRecDepth 100000
namespace Go.Proofs.YtobdfhlmipcjbaaGreatDoor
open Go.RowKit
structure Sets(w:World)(B:Nat)(vs:Nat->Value)(ls:Nat->List Bool):Prop where
 row:w.rowIs B 26 4 vs
 at_:∀i,i<4->BL w (vs i) (ls i)
 len:∀i,i<4->(ls i).length<=6000
 ne:∀i,i<4->∀r,(vs i).ownBlock=some r->r≠B
def upd{α:Type}(f:Nat->α)(t:Nat)(x:α)(i:Nat):α:=if i=t then x else f i
theorem Sets.keep{w w':World}{T:Nat->Prop}{B:Nat}{vs:Nat->Value}{ls:Nat->List Bool}(h:Sets w B vs ls)(k:Fr T w w')(h0:¬T B)(hT:∀i,i<4->∀r,(vs i).ownBlock=some r->¬T r):Sets w' B vs ls:=
 ⟨rowIs_keep h.row k h0,fun i hi=>(h.at_ i hi).keep k (hT i hi),h.len,h.ne⟩
theorem Sets.put{w:World}{B:Nat}{vs:Nat->Value}{ls:Nat->List Bool}(h:Sets w B vs ls)(t:Nat)(v:Value)(l:List Bool)(hv:BL w v l)(hl:l.length<=6000)(hne:∀r,v.ownBlock=some r->r≠B):
  Sets (w.setCell ⟨B,t,none⟩ v) B (upd vs t v) (upd ls t l):=by
 have hf:Fr (· =B) w (w.setCell ⟨B,t,none⟩ v):=(Fr.refl (· =B) w).setCell (a:=⟨B,t,none⟩) (.inl rfl) v
 refine ⟨(h.row.set t v).congr (fun j _=>?_),fun i hi=>?_,fun i hi=>?_,fun i hi=>?_⟩
 ·unfold upd;split <;> rfl
 ·unfold upd
  split
  ·exact hv.keep hf (fun r hr e=>hne r hr e)
  ·exact (h.at_ i hi).keep hf (fun r hr e=>h.ne i hi r hr e)
 ·unfold upd
  split
  ·exact hl
  ·exact h.len i hi
 ·unfold upd
  split
  ·exact hne
  ·exact h.ne i hi
def InV(v:Value)(w:World)(B:Nat)(vs:Nat->Value)(ls:Nat->List Bool)(a:Value)(t:Nat)(l:List Bool)(e:Ending)(w':World):Prop:=
 e= .returned (.tuple #[a,.bool (decide (l.length<=3000))])/\Sets w' B (upd vs t v) (upd ls t l)/\Fr (· =B) w w'
def InPost(w:World)(B:Nat)(vs:Nat->Value)(ls:Nat->List Bool)(a:Value)(t:Nat)(l:List Bool)(e:Ending)(w':World):Prop:=
 e= .returned (.tuple #[a,.bool (decide (l.length<=3000))])/\∃v,Sets w' B (upd vs t v) (upd ls t l)/\Fr (· =B) w w'
theorem in_c(v:Value)(l:List Bool)(b1 b2 b3 B t:Nat)(vs:Nat->Value)(ls:Nat->List Bool)(is:Bool)(n:Int)(w:World)(h1:w.cell? ⟨b1,0,none⟩=some (.pointer (some ⟨B,0,none⟩)))(h2:w.cell? ⟨b2,1,none⟩=some (.int .i64 (t:Int)))
  (h3:w.heap[b3]? =some (.cells #[.bool is,.int .i64 n,WV 0,.string ByteArray.empty,.slice none 0 0,.slice none 0 0] 40 (0,0)))
  (ht:t<4) (hs:Sets w B vs ls) (hv:BL w v l) (hl:l.length<=6000) (hne:∀r,v.ownBlock=some r->r≠B) (hb:b3≠B):
  Calls Tryz.prog 15 #[v,.pointer (some ⟨b1,0,none⟩),.pointer (some ⟨b2,0,none⟩),.pointer (some ⟨b3,0,none⟩)] w (InV v w B vs ls (ansV is n 0 ByteArray.empty (.slice none 0 0) (.slice none 0 0)) t l):=by
 have hc:=hs.row.cell ht
 have hfz:=hs.row.frozen t
 obtain ⟨q,hq⟩:∃q,q=l.length:=⟨_,rfl⟩
 obtain ⟨sa,sc,e1⟩:=hv.sl
 rw [<- hq]at e1
 subst e1
 have e0:=hp_cell h3 0 rfl
 have e1:=hp_cell h3 1 rfl
 have e2:=hp_cell h3 2 rfl
 have e3:=hp_cell h3 3 rfl
 have e4:=hp_cell h3 4 rfl
 have e5:=hp_cell h3 5 rfl
 have l1:=block_lt_of_cell h1
 have l2:=block_lt_of_cell h2
 have l3:=hp_lt h3
 have l4:=hs.row.lt
 have n1:¬b1=w.heap.size:=Nat.ne_of_lt l1
 have n2:¬b2=w.heap.size:=Nat.ne_of_lt l2
 have n3:¬b3=w.heap.size:=Nat.ne_of_lt l3
 have n4:¬B=w.heap.size:=Nat.ne_of_lt l4
 have HS:=Lib.hid hs;have HV:=Lib.hid hv;have HL:=Lib.hid hl;have HQ:=Lib.hid hq;have H3:=Lib.hid h3;have HNE:=Lib.hid hne
 clear hs hv hl hq h3 hne
 go_enter Tryz.func15,Tryz.ntmps15
 go_wp2
 refine wp_region_quiet_tail 6 (by kernel_rfl) (by kernel_rfl) ?_
 simp only [List.take_succ_cons,List.take_zero,List.drop_succ_cons,List.drop_zero]
 repeat (go_big_quiet_step (fail))
 refine wpQuiet_nil ?_
 intro _ ⟨nq,hw'⟩
 subst hw'
 go_wp2
 simp [bodyPost,results,Tryz.f15,Tryz.results15,go_sem]
 have hL:=HL.out
 have hQ:=HQ.out
 have hfa:Fr (fun _=>False) w ((w.alloc (.cells #[.bool false,.int .i64 0,.int .u64 0,.string { data:= #[] },.slice none 0 0,.slice none 0 0] 40)).drewN nq):=((Fr.refl _ w).alloc _).drewN nq
 have hp:=(HS.out.keep hfa (fun h=>h) (fun _ _ _ _ h=>h)).put t (.slice sa q sc) l (HV.out.keep hfa (fun _ _ h=>h)) hL HNE.out
 subst hQ
 refine ⟨by simp [ansV];omega,hp.keep (((((((Fr.refl (· =w.heap.size) _).setCell (.inl rfl) _).setCell (.inl rfl) _).setCell (.inl rfl) _).setCell (.inl rfl) _).setCell (.inl rfl) _).setCell (.inl rfl) _) (fun e=>n4 e) (fun i hi r hr e=>?_),?_⟩
 ·unfold upd at hr
  split at hr
  ·exact absurd (HV.out.own_lt r hr) (by omega)
  ·exact absurd ((HS.out.at_ i hi).own_lt r hr) (by omega)
 ·exact (((((((((Fr.refl (· =B) w).alloc _).drewN nq).setCell (.inl rfl) _).setCell (.inr (Nat.le_refl _)) _).setCell (.inr (Nat.le_refl _)) _).setCell (.inr (Nat.le_refl _)) _).setCell (.inr (Nat.le_refl _)) _).setCell (.inr (Nat.le_refl _)) _).setCell (.inr (Nat.le_refl _)) _
theorem into_c(v:Value)(l:List Bool)(b1 b2 b3 B t:Nat)(vs:Nat->Value)(ls:Nat->List Bool)(is:Bool)(n:Int)(w:World)(h1:w.cell? ⟨b1,0,none⟩=some (.pointer (some ⟨B,0,none⟩)))(h2:w.cell? ⟨b2,3,none⟩=some (.int .i64 (t:Int)))
  (h3:w.heap[b3]? =some (.cells #[.bool is,.int .i64 n,WV 0,.string ByteArray.empty,.slice none 0 0,.slice none 0 0] 40 (0,0)))
  (ht:t<4) (hs:Sets w B vs ls) (hv:BL w v l) (hl:l.length<=6000) (hne:∀r,v.ownBlock=some r->r≠B) (hb:b3≠B):
  Calls Tryz.prog 16 #[v,.pointer (some ⟨b1,0,none⟩),.pointer (some ⟨b2,0,none⟩),.pointer (some ⟨b3,0,none⟩)] w (InV v w B vs ls (ansV is n 0 ByteArray.empty (.slice none 0 0) (.slice none 0 0)) t l):=by
 have hc:=hs.row.cell ht
 have hfz:=hs.row.frozen t
 obtain ⟨q,hq⟩:∃q,q=l.length:=⟨_,rfl⟩
 obtain ⟨sa,sc,e1⟩:=hv.sl
 rw [<- hq]at e1
 subst e1
 have e0:=hp_cell h3 0 rfl
 have e1:=hp_cell h3 1 rfl
 have e2:=hp_cell h3 2 rfl
 have e3:=hp_cell h3 3 rfl
 have e4:=hp_cell h3 4 rfl
 have e5:=hp_cell h3 5 rfl
 have l1:=block_lt_of_cell h1
 have l2:=block_lt_of_cell h2
 have l3:=hp_lt h3
 have l4:=hs.row.lt
 have n1:¬b1=w.heap.size:=Nat.ne_of_lt l1
 have n2:¬b2=w.heap.size:=Nat.ne_of_lt l2
 have n3:¬b3=w.heap.size:=Nat.ne_of_lt l3
 have n4:¬B=w.heap.size:=Nat.ne_of_lt l4
 have HS:=Lib.hid hs;have HV:=Lib.hid hv;have HL:=Lib.hid hl;have HQ:=Lib.hid hq;have H3:=Lib.hid h3;have HNE:=Lib.hid hne
 clear hs hv hl hq h3 hne
 go_enter Tryz.func16,Tryz.ntmps16
 go_wp2
 refine wp_region_quiet_tail 6 (by kernel_rfl) (by kernel_rfl) ?_
 simp only [List.take_succ_cons,List.take_zero,List.drop_succ_cons,List.drop_zero]
 repeat (go_big_quiet_step (fail))
 refine wpQuiet_nil ?_
 intro _ ⟨nq,hw'⟩
 subst hw'
 go_wp2
 simp [bodyPost,results,Tryz.f16,Tryz.results16,go_sem]
 have hL:=HL.out
 have hQ:=HQ.out
 have hfa:Fr (fun _=>False) w ((w.alloc (.cells #[.bool false,.int .i64 0,.int .u64 0,.string { data:= #[] },.slice none 0 0,.slice none 0 0] 40)).drewN nq):=((Fr.refl _ w).alloc _).drewN nq
 have hp:=(HS.out.keep hfa (fun h=>h) (fun _ _ _ _ h=>h)).put t (.slice sa q sc) l (HV.out.keep hfa (fun _ _ h=>h)) hL HNE.out
 subst hQ
 refine ⟨by simp [ansV];omega,hp.keep (((((((Fr.refl (· =w.heap.size) _).setCell (.inl rfl) _).setCell (.inl rfl) _).setCell (.inl rfl) _).setCell (.inl rfl) _).setCell (.inl rfl) _).setCell (.inl rfl) _) (fun e=>n4 e) (fun i hi r hr e=>?_),?_⟩
 ·unfold upd at hr
  split at hr
  ·exact absurd (HV.out.own_lt r hr) (by omega)
  ·exact absurd ((HS.out.at_ i hi).own_lt r hr) (by omega)
 ·exact (((((((((Fr.refl (· =B) w).alloc _).drewN nq).setCell (.inl rfl) _).setCell (.inr (Nat.le_refl _)) _).setCell (.inr (Nat.le_refl _)) _).setCell (.inr (Nat.le_refl _)) _).setCell (.inr (Nat.le_refl _)) _).setCell (.inr (Nat.le_refl _)) _).setCell (.inr (Nat.le_refl _)) _
theorem bsz_l(l:List UInt8):(⟨l.toArray⟩:ByteArray).size=l.length:=by simp [ByteArray.size]
def jnT(xs:List Nat):List UInt8:=xs.foldl (fun acc n=>(if acc= [] then [] else acc++ [44])++Lib.decDigits n) []
theorem jnT_snoc(xs:List Nat)(n:Nat):jnT (xs++ [n])=(if jnT xs= [] then [] else jnT xs++ [44])++Lib.decDigits n:=by
 unfold jnT;rw [List.foldl_append];rfl
theorem dec_ne(n:Nat):Lib.decDigits n≠ []:=by
 rw [Lib.decDigits.eq_def]
 split <;> simp
theorem jnT_one(n:Nat):jnT [n]=Lib.decDigits n:=by simp [jnT]
theorem jnT_more{xs:List Nat}(h:xs≠ []):jnT xs≠ []:=by
 rcases List.eq_nil_or_concat xs with rfl|⟨ys,n,rfl⟩
 ·exact absurd rfl h
 ·rw [List.concat_eq_append,jnT_snoc]
  intro e
  exact dec_ne n (List.append_eq_nil_iff.1 e).2
theorem jnT_add{xs:List Nat}(h:xs≠ [])(n:Nat):jnT (xs++ [n])=jnT xs++ [44]++Lib.decDigits n:=by rw [jnT_snoc,if_neg (jnT_more h)]
theorem dec4{n:Nat}(h:n<10000):(Lib.decDigits n).length<=4:=by
 rw [Lib.decDigits.eq_def];split
 ·simp
 ·rw [Lib.decDigits.eq_def];split
  ·simp
  ·rw [Lib.decDigits.eq_def];split
   ·simp
   ·rw [Lib.decDigits.eq_def];split
    ·simp
    ·omega
theorem jnT_len'(k:Nat):∀xs:List Nat,xs.length=k->(∀n∈xs,n<10000)->(jnT xs).length<=5*k:=by
 induction k with
 |zero=>intro xs h _;rw [List.eq_nil_of_length_eq_zero h];simp [jnT]
 |succ k ih=>
  intro xs hl h
  rcases List.eq_nil_or_concat xs with rfl|⟨ys,n,rfl⟩
  ·simp at hl
  ·rw [List.concat_eq_append] at*
   have h1:=ih ys (by simp at hl;omega) (fun y hy=>h y (by simp [hy]))
   have h2:=dec4 (h n (by simp))
   rw [jnT_snoc]
   split <;> simp <;> omega
theorem jnT_len(xs:List Nat)(h:∀n∈xs,n<10000):(jnT xs).length<=5*xs.length:=jnT_len' _ xs rfl h
def setT(m:Nat->Bool)(L:Nat):ByteArray:=⟨(123::jnT (numsN m L)++ [125]).toArray⟩
def bytesN(m:Nat->Bool)(L:Nat):Nat->List Value
 |0=>beL (BitVec.ofNat 64 L)
 |j+1=>bytesN m L j++beL (pk m j)
theorem beL_length(x:BitVec 64):(beL x).length=8:=by simp [beL]
theorem beL_one(x:BitVec 64):∀y∈beL x,y.oneCell'=true:=by
 intro y hy
 obtain ⟨i,_,rfl⟩:=List.mem_map.1 hy
 rfl
theorem bytesN_length(m:Nat->Bool)(L j:Nat):(bytesN m L j).length=8+8*j:=by
 induction j with
 |zero=>simp [bytesN,beL_length]
 |succ j ih=>simp [bytesN,beL_length,ih];omega
theorem wordCount_i(b:Nat)(l:Int)(w:World)(h0:0<=l)(h':l<=1000000)(h:w.cell? ⟨b,0,none⟩=some (.int .u64 l)):
  Calls Tryz.prog 101 #[.pointer (some ⟨b,0,none⟩)] w fun e w'=>e= .returned (.int .i64 ((l+63)/64))/\w'=w:=by
 obtain ⟨n,rfl⟩:=Int.eq_ofNat_of_zero_le h0
 exact (wordCount_c b n w (by omega) h).mono fun e w' ⟨he,hw⟩=>⟨he.trans (by simp),hw⟩
def delB(m:Nat->Bool)(p:Nat)(i:Nat):Bool:=if i<p then m i else m (i+1)
theorem wn_and1(x:BitVec 64):bits .and .u64 (wn x) 1=wn (x&&&1):=wn_and x 1
theorem wn_shr1(x:BitVec 64):wn x/(2:Int)=wn (x>>>1):=wn_shr x 1
theorem wn_shl63(x:BitVec 64):IntKind.u64.wrap (wn x*(9223372036854775808:Int))=wn (x<<<63):=wn_shl x 63
theorem bit63(x:BitVec 64)(j:Nat)(hj:j<64):((x&&&1)<<<63).getLsbD j=(decide (j=63)&&x.getLsbD 0):=by
 rw [BitVec.getLsbD_shiftLeft,BitVec.getLsbD_and,show (1:BitVec 64)=1#64 from rfl,BitVec.getLsbD_one]
 by_cases e:j=63
 ·subst e;simp
 ·have:j<63:=by omega
  simp [this,e]
def delQ(x:BitVec 64)(a:Nat):BitVec 64:=(x&&& ~~~ (~~~ (((1:BitVec 64)<<<a)-1)))|||(((x&&& ~~~ (((1:BitVec 64)<<<a)-1))>>>1)&&& ~~~ (((1:BitVec 64)<<<a)-1))
theorem delQ_bit(x:BitVec 64)(a j:Nat)(ha:a<64)(hj:j<64):(delQ x a).getLsbD j=if j<a then x.getLsbD j else x.getLsbD (j+1):=by
 unfold delQ
 simp only [BitVec.getLsbD_or,BitVec.getLsbD_and,BitVec.getLsbD_not,low_mask _ _ ha,BitVec.getLsbD_ushiftRight]
 by_cases h:j<a
 ·simp [h,hj]
 ·by_cases h2:j+1<64
  ·have h3:¬j+1<a:=by omega
   rw [Nat.add_comm 1 j]
   simp [h,hj,h3,h2]
  ·have h3:x.getLsbD (j+1)=false:=BitVec.getLsbD_of_ge _ _ (by omega)
   have h4:x.getLsbD (1+j)=false:=BitVec.getLsbD_of_ge _ _ (by omega)
   simp [h,h3,h4]
def delG(g:Nat->BitVec 64)(q a t j:Nat):BitVec 64:=
 if j<q then g j else
 if j+1<t then (if j=q then delQ (g q) a else g j>>>1)|||((g (j+1)&&&1)<<<63) else
 if j+1=t then (if j=q then delQ (g q) a else g j>>>1) else g j
theorem deleteAt_c(b p L:Nat)(v:Value)(m:Nat->Bool)(w:World)(hp:p<L)(h:BA w b v L m):
  Calls Tryz.prog 49 #[.pointer (some ⟨b,0,none⟩),.int .u64 p] w (MutA w b v (L-1) (delB m p) (.pointer (some ⟨b,0,none⟩))):=by
 obtain ⟨s,c,g,rfl,r,hg,hm⟩:=h.rs (by omega)
 clear h
 have h0:=r.h0
 have g1:=r.h1
 have hl:=r.hl
 have ne:=r.ne
 have hn:=r.hn
 have hc:=r.hc
 have hd0:decide ((L:Int)<=(p:Int))=false:=by simp;omega
 have hgm:∀k,k<nw L->∀j,j<64->(g k).getLsbD j=m (64*k+j):=fun k hk j hj=>by rw [hg k hk,getLsbD_pk];simp [hj]
 have GM:=Lib.hid hgm
 have hq':p/64<nw L:=by unfold nw;omega
 have c0:=r.at hq'
 have f0:=r.fr (p/64)
 have R:=Lib.hid r;have HM:=Lib.hid hm;clear r hg hm hgm
 obtain ⟨n,hnL⟩:∃n,n=nw L:=⟨_,rfl⟩
 rw [<- hnL]at g1 hn hq'
 have hnb:n<=1000:=by subst hnL;unfold nw;omega
 obtain ⟨q,hq⟩:∃q,q=p/64:=⟨_,rfl⟩
 have s0:(p:Int)/64=q:=by omega
 rw [<- hq]at hq' c0 f0
 have HN:=Lib.hid hnL;have HQ:=Lib.hid hq;clear hnL hq
 obtain ⟨a,ha⟩:∃a,a=p%64:=⟨_,rfl⟩
 have hwx:∀w,Calls Tryz.prog 99 #[.int .u64 (p:Int)] w fun e w'=>e= .returned (.int .u64 (a:Int))/\w'=w:=fun w=>by rw [ha];exact wordsIndex_c p w (by omega)
 have HX:=Lib.hid hwx;have HA:=Lib.hid ha
 have ha64:a<64:=by omega
 clear hwx ha
 go_enter Tryz.func49,Tryz.ntmps49
 go_wp2_with (go_at_call 99;refine (HX.out _).mono ?_;rintro e w' ⟨rfl,rfl⟩)
 simp only [wn_one_shl,wn_pred,wn_max,wn_and,wn_shr1,wn_or]
 have r2:=(R.out.set q (g q&&& ~~~ (~~~ (((1:BitVec 64)<<<a)-1)))).set q (delQ (g q) a)
 have fr2:=((Fr.refl (· =s) w').setCell (a:=⟨s,q,none⟩) (.inl rfl) (WV (g q&&& ~~~ (~~~ (((1:BitVec 64)<<<a)-1))))).setCell (a:=⟨s,q,none⟩) (.inl rfl) (WV (delQ (g q) a))
 rw [show (g q&&& ~~~ (~~~ (((1:BitVec 64)<<<a)-1)))|||(((g q&&& ~~~ (((1:BitVec 64)<<<a)-1))>>>1)&&& ~~~ (((1:BitVec 64)<<<a)-1))=delQ (g q) a from rfl]
 have r3:RS ((w'.setCell ⟨s,q,none⟩ (WV (g q&&& ~~~ (~~~ (((1:BitVec 64)<<<a)-1))))).setCell ⟨s,q,none⟩ (WV (delQ (g q) a))) b s L c (delG g q a (q+1)):=by
  refine r2.congr (fun j _=>?_)
  unfold delG
  by_cases e:j=q
  ·subst e;simp
  ·rw [if_neg e,if_neg e]
   by_cases e2:j<q
   ·rw [if_pos e2]
   ·rw [if_neg e2,if_neg (show ¬j+1<q+1 by omega),if_neg (show ¬j+1=q+1 by omega)]
 generalize (w'.setCell ⟨s,q,none⟩ (WV (g q&&& ~~~ (~~~ (((1:BitVec 64)<<<a)-1))))).setCell ⟨s,q,none⟩ (WV (delQ (g q) a))=w2 at*
 have R3:=Lib.hid r3;have F2:=Lib.hid fr2
 clear r2 r3 fr2 h0 g1 c0 f0
 go_loopw [8] (fun i wr=>∃t:Nat,q<t/\t<=n/\i= .int .i64 (t:Int)/\RS wr b s L c (delG g q a t)/\Fr (· =s) w2 wr) (fun i _=>n-(intOf i).toNat)
 case atStart=>exact ⟨q+1,by omega,by omega,by go_num,R3.out,Fr.refl _ _⟩
 case round=>
  obtain ⟨t,hqt,htn,rfl,hr,hfr⟩:=hrel
  have HF:=Lib.hid hfr
  have HR:=Lib.hid hr
  have g1:=hr.h1
  have g0:=hr.h0
  have gf0:=hp_free hr.hb 0
  have gf1:=hp_free hr.hb 1
  rw [<- HN.out]at g1
  by_cases hlt:t<n
  ·obtain ⟨t',rfl⟩:∃t',t=t'+1:=⟨t-1,by omega⟩
   have c0:=hr.at (i:=t'+1) (by rw [<- HN.out];exact hlt)
   have c1:=hr.at (i:=t') (by rw [<- HN.out];omega)
   have f1:=hr.fr t'
   have f2:=hr.fr (t'+1)
   rw [show delG g q a (t'+1) (t'+1)=g (t'+1) by unfold delG;rw [if_neg (by omega),if_neg (by omega),if_neg (by omega)]]at c0
   generalize hY:delG g q a (t'+1) t'=Y at c1
   have HY:=Lib.hid hY
   have i1:(0:Int)<=(t':Int)+1/\(t':Int)+1<n:=by omega
   have i2:(0:Int)<=(t':Int)/\(t':Int)<n:=by omega
   clear hr hfr hY
   go_wp2
   refine wp_region_quiet_tail 18 (by kernel_rfl) (by kernel_rfl) ?_
   simp only [List.take_succ_cons,List.take_zero,List.drop_succ_cons,List.drop_zero]
   repeat (go_big_quiet_step (fail))
   refine wpQuiet_nil ?_
   intro _ ⟨nq,hw'⟩
   subst hw'
   go_wp2
   go_roundw
   case rel=>
    refine ⟨t'+1+1,by omega,by omega,by go_num,?_,((HF.out.drewN nq).setCell (.inl rfl) _).setCell (.inl rfl) _⟩
    simp only [wn_and1,wn_shl63,wn_or,wn_shr1]
    refine (((HR.out.drewN nq).set t' _).set (t'+1) _).congr (fun j _=>?_)
    rw [<- HY.out]
    unfold delG
    by_cases e:j=t'+1
    ·rw [if_pos e,if_neg (show ¬j<q by omega),if_neg (show ¬j+1<t'+1+1 by omega),if_pos (show j+1=t'+1+1 by omega),if_neg (show ¬j=q by omega),e]
    ·rw [if_neg e]
     by_cases e1:j=t'
     ·subst e1
      rw [if_pos rfl,if_neg (show ¬j<q by omega),if_neg (show ¬j+1<j+1 by omega),if_pos rfl,if_neg (show ¬j<q by omega),if_pos (show j+1<j+1+1 by omega)]
     ·rw [if_neg e1]
      by_cases e2:j<q
      ·rw [if_pos e2,if_pos e2]
      ·rw [if_neg e2,if_neg e2]
       by_cases e3:j+1<t'+1
       ·rw [if_pos e3,if_pos (show j+1<t'+1+1 by omega)]
       ·rw [if_neg e3,if_neg (show ¬j+1=t'+1 by omega),if_neg (show ¬j+1<t'+1+1 by omega),if_neg (show ¬j+1=t'+1+1 by omega)]
   case measure=>simp [intOf];omega
  ·have htq:t=n:=by omega
   subst htq
   obtain ⟨n',hn'⟩:∃n',n'=nw (L-1):=⟨_,rfl⟩
   have hnn:n'<=t:=by have:=HN.out;subst hn';unfold nw at *;omega
   have hwc:∀w:World,w.cell? ⟨b,0,none⟩=some (.int .u64 ((L:Int)-1))->Calls Tryz.prog 101 #[.pointer (some ⟨b,0,none⟩)] w fun e w'=>e= .returned (.int .i64 (n':Int))/\w'=w:=fun w h=>by
    have:=wordCount_i b ((L:Int)-1) w (by omega) (by omega) h
    rwa [show ((L:Int)-1+63)/64=(n':Int) by subst hn';unfold nw;omega]at this
   have HW:=Lib.hid hwc
   have HN':=Lib.hid hn'
   clear hwc hn' hr hfr
   have fin:∀(wf:World),RS wf b s (L-1) c (delG g q a t)->Fr (Own b (.slice (some ⟨s,0,none⟩) (nw L) c)) w' wf->
     MutA w' b (.slice (some ⟨s,0,none⟩) (nw L) c) (L-1) (delB m p) (.pointer (some ⟨b,0,none⟩)) (.returned (.pointer (some ⟨b,0,none⟩))) wf:=by
    intro wf rf ff
    have hN:=HN.out;have hN':=HN'.out;have hQ:=HQ.out;have hA:=HA.out
    refine ⟨rfl,_,rf.ba (fun k hk=>pk_ext fun j hj=>?_) (fun i hi=>?_),⟨ff,.inl rfl⟩⟩
    ·have hk2:k<t:=by omega
     unfold delG delB
     by_cases e1:k<q
     ·rw [if_pos e1,if_pos (show 64*k+j<p by omega),GM.out k (by omega) j hj]
     ·rw [if_neg e1]
      have base:(if k=q then delQ (g q) a else g k>>>1).getLsbD j=if 64*k+j<p then m (64*k+j) else if j<63 then m (64*k+j+1) else false:=by
       by_cases e2:k=q
       ·rw [if_pos e2,e2,delQ_bit _ _ _ ha64 hj]
        by_cases e3:j<a
        ·rw [if_pos e3,if_pos (show 64*q+j<p by omega),GM.out q (by omega) j hj]
        ·rw [if_neg e3,if_neg (show ¬64*q+j<p by omega)]
         by_cases e4:j<63
         ·rw [if_pos e4,GM.out q (by omega) (j+1) (by omega),Nat.add_assoc]
         ·rw [if_neg e4];exact BitVec.getLsbD_of_ge _ _ (by omega)
       ·rw [if_neg e2,if_neg (show ¬64*k+j<p by omega),BitVec.getLsbD_ushiftRight,Nat.add_comm 1 j]
        by_cases e4:j<63
        ·rw [if_pos e4,GM.out k (by omega) (j+1) (by omega),Nat.add_assoc]
        ·rw [if_neg e4];exact BitVec.getLsbD_of_ge _ _ (by omega)
      by_cases e5:k+1<t
      ·rw [if_pos e5,BitVec.getLsbD_or,base,bit63 _ _ hj,GM.out (k+1) (by omega) 0 (by omega)]
       by_cases e6:64*k+j<p
       ·rw [if_pos e6,if_pos e6]
        have:¬j=63:=by omega
        simp [this]
       ·rw [if_neg e6,if_neg e6]
        by_cases e4:j<63
        ·have:¬j=63:=by omega
         simp [e4,this]
        ·have:j=63:=by omega
         subst this
         simp only [Nat.lt_irrefl,if_false,decide_true,Bool.true_and,Bool.false_or]
         congr 1
      ·rw [if_neg e5,if_pos (show k+1=t by omega),base]
       by_cases e6:64*k+j<p
       ·rw [if_pos e6,if_pos e6]
       ·rw [if_neg e6,if_neg e6]
        by_cases e4:j<63
        ·rw [if_pos e4]
        ·rw [if_neg e4]
         exact (HM.out _ (by unfold nw at hN;omega)).symm
    ·unfold delB
     rw [if_neg (show ¬i<p by omega)]
     exact HM.out _ (by omega)
   have FIN:=Lib.hid fin;clear fin
   by_cases hcut:n'<t
   ·have d1:decide (n'<t)=true:=by simpa using hcut
    go_wp2_with (go_at_call 101;refine (HW.out _ (by go_simp)).mono ?_;rintro e w' ⟨rfl,rfl⟩)
    go_ret
    have hN':=HN'.out
    have hb0:=HR.out.hb
    have e0:((L:Int)-1)=((L-1:Nat):Int):=by omega
    rw [e0]
    refine FIN.out _ ⟨ne,by omega,hc,by omega,?_,?_⟩ ?_
    ·rw [<- hN'];exact hp_same _ b 1 _ (hp_same _ b 0 _ hb0)
    ·exact (HR.out.hs.setOther (by exact ne) _).setOther (by exact ne) _
    ·exact ((F2.out.trans HF.out).mono (fun r hr=> .inr (by subst hr;rfl))).setCell (.inl (.inl rfl)) _ |>.setCell (.inl (.inl rfl)) _
   ·have d1:decide (n'<t)=false:=by simpa using hcut
    go_wp2_with (go_at_call 101;refine (HW.out _ (by go_simp)).mono ?_;rintro e w' ⟨rfl,rfl⟩)
    go_ret
    have hN':=HN'.out
    have hb0:=HR.out.hb
    have hN:=HN.out
    have e0:((L:Int)-1)=((L-1:Nat):Int):=by omega
    rw [e0]
    refine FIN.out _ ⟨ne,by omega,hc,by omega,?_,?_⟩ ?_
    ·have hb1:=hp_same _ b 0 (.int .u64 ((L-1:Nat):Int)) hb0
     rw [show nw L=nw (L-1) by omega]at hb1
     exact hb1
    ·exact HR.out.hs.setOther (by exact ne) _
    ·exact ((F2.out.trans HF.out).mono (fun r hr=> .inr (by subst hr;rfl))).setCell (.inl (.inl rfl)) _
end Go.Proofs.YtobdfhlmipcjbaaGreatDoor
namespace Go.Proofs.YtobdfhlmipcjbaaGreatDoor
open Go.RowKit Pop
def PrvP(m:Nat->Bool)(i:Nat)(e:Ending):Prop:=
 ∃(n:Nat) (r:Bool),e= .returned (.tuple #[.int .u64 (n:Int),.bool r])/\((r=true/\n<=i/\m n=true/\∀j,n<j->j<=i->m j=false)\/(r=false/\∀j,j<=i->m j=false))
theorem mask_le(a j:Nat)(ha:a<=64)(hj:j<64):(((1:BitVec 64)<<<a)-1).getLsbD j=decide (j<a):=by
 rcases Nat.lt_or_ge a 64 with h|h
 ·exact low_mask a j h
 ·have:a=64:=by omega
  subst this
  have e:((1:BitVec 64)<<<64)-1=BitVec.allOnes 64:=by decide
  rw [e,BitVec.getLsbD_allOnes]
theorem prv_first{m:Nat->Bool}{i p k:Nat}{x:BitVec 64}(hi:i=64*p+k)(hk:k<64)(hx:x=pk m p&&&(((1:BitVec 64)<<<(k+1))-1)):
  (x≠0->1<=blen x/\blen x<=k+1/\m (64*p+(blen x-1))=true/\∀j,64*p+(blen x-1)<j->j<=i->m j=false)/\(x=0->∀j,64*p<=j->j<=i->m j=false):=by
 have hb:∀j,j<64->x.getLsbD j=(m (64*p+j)&&decide (j<k+1)):=fun j hj=>by
  rw [hx,BitVec.getLsbD_and,getLsbD_pk,mask_le _ _ (by omega) hj];simp [hj]
 refine ⟨fun h=>?_,fun h j h1 h2=>?_⟩
 ·obtain ⟨a,b,c,d⟩:=blen_spec h
  rw [hb _ (by omega)]at c
  simp only [Bool.and_eq_true,decide_eq_true_eq]at c
  refine ⟨a,by omega,c.1,fun j h1 h2=>?_⟩
  have:=d (j-64*p) (by omega)
  rw [hb _ (by omega),show 64*p+(j-64*p)=j by omega]at this
  have d1:decide (j-64*p<k+1)=true:=by simp;omega
  rw [d1]at this;simpa using this
 ·have:=zero_bits h (j-64*p)
  rw [hb _ (by omega),show 64*p+(j-64*p)=j by omega]at this
  have d1:decide (j-64*p<k+1)=true:=by simp;omega
  rw [d1]at this;simpa using this
theorem and_mask_all(x:BitVec 64):x&&&(((1:BitVec 64)<<<(63+1))-1)=x:=by
 apply BitVec.eq_of_getLsbD_eq
 intro j hj
 rw [BitVec.getLsbD_and,mask_le _ _ (by omega) hj];simp [hj]
theorem prv_word{m:Nat->Bool}{p:Nat} :
  (pk m p≠0->1<=blen (pk m p)/\blen (pk m p)<=64/\m (64*p+(blen (pk m p)-1))=true/\∀j,64*p+(blen (pk m p)-1)<j->j<64*(p+1)->m j=false)/\(pk m p=0->∀j,64*p<=j->j<64*(p+1)->m j=false):=by
 have h:=prv_first (m:=m) (i:=64*p+63) (p:=p) (k:=63) (x:=pk m p) rfl (by decide) (and_mask_all _).symm
 exact ⟨fun h0=>⟨(h.1 h0).1,(h.1 h0).2.1,(h.1 h0).2.2.1,fun j h1 h2=>(h.1 h0).2.2.2 j h1 (by omega)⟩,fun h0 j h1 h2=>h.2 h0 j h1 (by omega)⟩
theorem pk_not(m:Nat->Bool)(k:Nat):bits .xor .u64 (if IntKind.u64.signed=true then -1 else IntKind.u64.max) (wn (pk m k))=wn (pk (fun i=>!m i) k):=by
 rw [show (if IntKind.u64.signed=true then (-1:Int) else IntKind.u64.max)=IntKind.u64.max from rfl,wn_max]
 congr 1
 exact pk_ext fun j hj=>by rw [BitVec.getLsbD_not,getLsbD_pk];simp [hj]
theorem prevSet_c(b i L:Nat)(v:Value)(m:Nat->Bool)(w:World)(hi:i<L)(h:BA w b v L m):
  Calls Tryz.prog 90 #[.pointer (some ⟨b,0,none⟩),.int .u64 (i:Int)] w fun e w'=>PrvP m i e/\w'=w:=by
 obtain ⟨h0,hl,hm,A,s,c,h1,hc,hA,hw⟩:=h.view2
 have hn:=nw_bound hl
 have hp0:i/64<nw L:=by unfold nw;omega
 generalize nw L=n at*
 obtain ⟨p,hp⟩:∃p,i/64=p:=⟨_,rfl⟩
 obtain ⟨k,hk⟩:∃k,i%64=k:=⟨_,rfl⟩
 rw [hp]at hp0
 have hpi:(i:Int)/64=(p:Int):=by omega
 have hik:i=64*p+k:=by omega
 have hk64:k<64:=by omega
 have hi2:i<=50000:=by omega
 have hwi:∀w,Calls Tryz.prog 99 #[.int .u64 (i:Int)] w fun e w'=>e= .returned (.int .u64 (k:Int))/\w'=w:=fun w=>by have h:=wordsIndex_c i w (by omega);rwa [hk]at h
 obtain rfl:=hA (by omega)
 have h2:=hw p hp0
 have hge0:decide ((L:Int)<=(i:Int))=false:=by simp;omega
 have hge:decide ((n:Int)<=(p:Int))=false:=by simp;omega
 obtain ⟨y0,hy0⟩:∃y,y=(1:BitVec 64)<<<(k+1):=⟨_,rfl⟩
 obtain ⟨y,hy⟩:∃z,z=y0-1:=⟨_,rfl⟩
 obtain ⟨M,hM⟩:∃M:Nat->Bool,M=m:=⟨_,rfl⟩
 rw [<- hM]at hw h2 ⊢
 obtain ⟨x,hx⟩:∃x,x=pk M p&&&y:=⟨_,rfl⟩
 have e1:IntKind.u64.wrap ((2:Int)^(k+1))=wn y0:=by rw [hy0];exact wn_one_shl _
 have e2:IntKind.u64.wrap (wn y0-1)=wn y:=by rw [hy];exact wn_pred _
 have e3:bits .and .u64 (wn (pk M p)) (wn y)=wn x:=by rw [hx];exact wn_and _ _
 obtain ⟨f1,f2⟩:=prv_first (m:=M) (x:=x) hik hk64 (by rw [hx,hy,hy0])
 have j1:((k:Int)+1).toNat=k+1:=by omega
 have HW:=Lib.hid hw;have HIK:=Lib.hid hik;have F1:=Lib.hid f1;have F2:=Lib.hid f2;have HWI:=Lib.hid hwi
 clear hm hw hik h hA hy0 hy hx f1 f2 hwi hk hM
 by_cases hxz:x=0
 ·subst hxz
  have hz:wn (0:BitVec 64)=0:=rfl
  rw [hz]at e3
  have HS:=Lib.hid (F2.out rfl)
  go_enter Tryz.func90,Tryz.ntmps90
  go_wp2_with (go_at_call 99;refine (HWI.out _).mono ?_;rintro e w' ⟨rfl,rfl⟩)
  clear h2 e1 e2 e3
  go_loopw [6] (fun t wr=>∃q:Nat,q<=p/\t= .int .i64 ((q:Int)-1)/\(∀j,64*q<=j->j<=i->M j=false)/\wr=w') (fun t _=>(intOf t+1).toNat)
  case atStart=>exact ⟨p,Nat.le_refl _,rfl,HS.out,rfl⟩
  case round=>
   obtain ⟨q,hq,rfl,hz2,rfl⟩:=hrel
   have HZ:=Lib.hid hz2;clear hz2
   rcases Nat.eq_zero_or_pos q with hq0|hq0
   ·subst hq0
    have d1:decide ((0:Int)<=((0:Nat):Int)-1)=false:=by simp
    go_wp2
    go_ret2
    exact ⟨⟨0,false,rfl,.inr ⟨rfl,fun j hj=>HZ.out j (by omega) hj⟩⟩,rfl⟩
   ·obtain ⟨q',rfl⟩:∃q',q=q'+1:=⟨q-1,by omega⟩
    have q1:(((q'+1:Nat):Int)-1)=(q':Int):=by omega
    rw [q1]
    have h3:=HW.out q' (by omega)
    have hqn:q'<n:=by omega
    by_cases hy:pk M q'=0
    ·have hy2:=(prv_word (m:=M) (p:=q')).2 hy
     rw [hy]at h3
     have hz0:wn (0:BitVec 64)=0:=rfl
     have HY:=Lib.hid hy2;clear hy hy2 q1
     go_wp2
     go_roundw
     case rel=>
      refine ⟨q',by omega,by go_num,fun j h1 h2=>?_,by first|rfl|trivial⟩
      rcases Nat.lt_or_ge j (64*(q'+1)) with h|h
      ·exact HY.out j h1 h
      ·exact HZ.out j h h2
     case measure=>simp [intOf]
    ·have hy1:¬wn (pk M q')=0:=by rw [wn_eq_zero];exact hy
     obtain ⟨g0,g1,g2,g3⟩:=(prv_word (m:=M) (p:=q')).1 hy
     have G2:=Lib.hid g2;have G3:=Lib.hid g3;clear g2 g3 hy q1
     go_wp2_with (go_at_call 124;refine (blen_c _ _).mono ?_;rintro e w2 ⟨rfl,rfl⟩)
     go_ret2
     refine ⟨⟨64*q'+(blen (pk M q')-1),true,?_,.inl ⟨rfl,by have:=HIK.out;omega,G2.out,fun j h1 h2=>?_⟩⟩,rfl⟩
     ·go_num
     ·rcases Nat.lt_or_ge j (64*(q'+1)) with h|h
      ·exact G3.out j h1 h
      ·exact HZ.out j h h2
 ·have hy1:¬wn x=0:=by rw [wn_eq_zero];exact hxz
  obtain ⟨g0,g1,g2,g3⟩:=F1.out hxz
  have G2:=Lib.hid g2;have G3:=Lib.hid g3;clear g2 g3 hxz
  go_enter Tryz.func90,Tryz.ntmps90
  go_wp2_with (first|(go_at_call 99;refine (HWI.out _).mono ?_;rintro e w' ⟨rfl,rfl⟩)|(go_at_call 124;refine (blen_c _ _).mono ?_;rintro e w' ⟨rfl,rfl⟩))
  go_ret2
  refine ⟨⟨64*p+(blen x-1),true,?_,.inl ⟨rfl,by have:=HIK.out;omega,G2.out,G3.out⟩⟩,rfl⟩
  go_num
theorem prevClear_c(b i L:Nat)(v:Value)(m:Nat->Bool)(w:World)(hi:i<L)(h:BA w b v L m):
  Calls Tryz.prog 91 #[.pointer (some ⟨b,0,none⟩),.int .u64 (i:Int)] w fun e w'=>PrvP (fun i=>!m i) i e/\w'=w:=by
 obtain ⟨h0,hl,hm,A,s,c,h1,hc,hA,hw⟩:=h.view2
 have hn:=nw_bound hl
 have hp0:i/64<nw L:=by unfold nw;omega
 generalize nw L=n at*
 obtain ⟨p,hp⟩:∃p,i/64=p:=⟨_,rfl⟩
 obtain ⟨k,hk⟩:∃k,i%64=k:=⟨_,rfl⟩
 rw [hp]at hp0
 have hpi:(i:Int)/64=(p:Int):=by omega
 have hik:i=64*p+k:=by omega
 have hk64:k<64:=by omega
 have hi2:i<=50000:=by omega
 have hwi:∀w,Calls Tryz.prog 99 #[.int .u64 (i:Int)] w fun e w'=>e= .returned (.int .u64 (k:Int))/\w'=w:=fun w=>by have h:=wordsIndex_c i w (by omega);rwa [hk]at h
 obtain rfl:=hA (by omega)
 have h2:=hw p hp0
 have hge0:decide ((L:Int)<=(i:Int))=false:=by simp;omega
 have hge:decide ((n:Int)<=(p:Int))=false:=by simp;omega
 obtain ⟨y0,hy0⟩:∃y,y=(1:BitVec 64)<<<(k+1):=⟨_,rfl⟩
 obtain ⟨y,hy⟩:∃z,z=y0-1:=⟨_,rfl⟩
 obtain ⟨M,hM⟩:∃M:Nat->Bool,M=fun i=>!m i:=⟨_,rfl⟩
 have hnot:∀q,bits .xor .u64 (if IntKind.u64.signed=true then -1 else IntKind.u64.max) (wn (pk m q))=wn (pk M q):=fun q=>by rw [hM];exact pk_not m q
 rw [<- hM]
 have e4:=hnot p
 obtain ⟨x,hx⟩:∃x,x=pk M p&&&y:=⟨_,rfl⟩
 have e1:IntKind.u64.wrap ((2:Int)^(k+1))=wn y0:=by rw [hy0];exact wn_one_shl _
 have e2:IntKind.u64.wrap (wn y0-1)=wn y:=by rw [hy];exact wn_pred _
 have e3:bits .and .u64 (wn (pk M p)) (wn y)=wn x:=by rw [hx];exact wn_and _ _
 obtain ⟨f1,f2⟩:=prv_first (m:=M) (x:=x) hik hk64 (by rw [hx,hy,hy0])
 have j1:((k:Int)+1).toNat=k+1:=by omega
 have HW:=Lib.hid hw;have HIK:=Lib.hid hik;have F1:=Lib.hid f1;have F2:=Lib.hid f2;have HWI:=Lib.hid hwi
 have HN:=Lib.hid hnot;clear hnot
 clear hm hw hik h hA hy0 hy hx f1 f2 hwi hk hM
 by_cases hxz:x=0
 ·subst hxz
  have hz:wn (0:BitVec 64)=0:=rfl
  rw [hz]at e3
  have HS:=Lib.hid (F2.out rfl)
  go_enter Tryz.func91,Tryz.ntmps91
  go_wp2_with (go_at_call 99;refine (HWI.out _).mono ?_;rintro e w' ⟨rfl,rfl⟩)
  clear h2 e1 e2 e3 e4
  go_loopw [6] (fun t wr=>∃q:Nat,q<=p/\t= .int .i64 ((q:Int)-1)/\(∀j,64*q<=j->j<=i->M j=false)/\wr=w') (fun t _=>(intOf t+1).toNat)
  case atStart=>exact ⟨p,Nat.le_refl _,rfl,HS.out,rfl⟩
  case round=>
   obtain ⟨q,hq,rfl,hz2,rfl⟩:=hrel
   have HZ:=Lib.hid hz2;clear hz2
   rcases Nat.eq_zero_or_pos q with hq0|hq0
   ·subst hq0
    have d1:decide ((0:Int)<=((0:Nat):Int)-1)=false:=by simp
    go_wp2
    go_ret2
    exact ⟨⟨0,false,rfl,.inr ⟨rfl,fun j hj=>HZ.out j (by omega) hj⟩⟩,rfl⟩
   ·obtain ⟨q',rfl⟩:∃q',q=q'+1:=⟨q-1,by omega⟩
    have q1:(((q'+1:Nat):Int)-1)=(q':Int):=by omega
    rw [q1]
    have h3:=HW.out q' (by omega)
    have hqn:q'<n:=by omega
    have e5:=HN.out q'
    by_cases hy:pk M q'=0
    ·have hy2:=(prv_word (m:=M) (p:=q')).2 hy
     rw [hy]at e5
     have hz0:wn (0:BitVec 64)=0:=rfl
     have HY:=Lib.hid hy2;clear hy hy2 q1
     go_wp2
     go_roundw
     case rel=>
      refine ⟨q',by omega,by go_num,fun j h1 h2=>?_,by first|rfl|trivial⟩
      rcases Nat.lt_or_ge j (64*(q'+1)) with h|h
      ·exact HY.out j h1 h
      ·exact HZ.out j h h2
     case measure=>simp [intOf]
    ·have hy1:¬wn (pk M q')=0:=by rw [wn_eq_zero];exact hy
     obtain ⟨g0,g1,g2,g3⟩:=(prv_word (m:=M) (p:=q')).1 hy
     have G2:=Lib.hid g2;have G3:=Lib.hid g3;clear g2 g3 hy q1
     go_wp2_with (go_at_call 124;refine (blen_c _ _).mono ?_;rintro e w2 ⟨rfl,rfl⟩)
     go_ret2
     refine ⟨⟨64*q'+(blen (pk M q')-1),true,?_,.inl ⟨rfl,by have:=HIK.out;omega,G2.out,fun j h1 h2=>?_⟩⟩,rfl⟩
     ·go_num
     ·rcases Nat.lt_or_ge j (64*(q'+1)) with h|h
      ·exact G3.out j h1 h
      ·exact HZ.out j h h2
 ·have hy1:¬wn x=0:=by rw [wn_eq_zero];exact hxz
  obtain ⟨g0,g1,g2,g3⟩:=F1.out hxz
  have G2:=Lib.hid g2;have G3:=Lib.hid g3;clear g2 g3 hxz
  go_enter Tryz.func91,Tryz.ntmps91
  go_wp2_with (first|(go_at_call 99;refine (HWI.out _).mono ?_;rintro e w' ⟨rfl,rfl⟩)|(go_at_call 124;refine (blen_c _ _).mono ?_;rintro e w' ⟨rfl,rfl⟩))
  go_ret2
  refine ⟨⟨64*p+(blen x-1),true,?_,.inl ⟨rfl,by have:=HIK.out;omega,G2.out,G3.out⟩⟩,rfl⟩
  go_num
def TopP(m:Nat->Bool)(e:Ending):Prop:=
 ∃(n:Nat) (r:Bool),e= .returned (.tuple #[.int .u64 (n:Int),.bool r])/\((r=true/\m n=true/\∀j,n<j->m j=false)\/(r=false/\∀j,m j=false))
theorem top_c(b L:Nat)(v:Value)(m:Nat->Bool)(w:World)(h:BA w b v L m):
  Calls Tryz.prog 104 #[.pointer (some ⟨b,0,none⟩)] w fun e w'=>TopP m e/\w'=w:=by
 obtain ⟨h0,hl,hm,A,s,c,h1,hc,hA,hw⟩:=h.view2
 have hn:=nw_bound hl
 have hout:∀j,64*nw L<=j->m j=false:=fun j hj=>hm j (by unfold nw at hj;omega)
 generalize nw L=n at*
 have HW:=Lib.hid hw;have HA:=Lib.hid hA;have HO:=Lib.hid hout
 clear hm hw h hA h0 hout
 go_enter Tryz.func104,Tryz.ntmps104
 go_wp2
 go_loopw [4] (fun t wr=>∃q:Nat,q<=n/\t= .int .i64 ((q:Int)-1)/\(∀j,64*q<=j->m j=false)/\wr=w) (fun t _=>(intOf t+1).toNat)
 case atStart=>exact ⟨n,Nat.le_refl _,rfl,HO.out,rfl⟩
 case round=>
  obtain ⟨q,hq,rfl,hz2,rfl⟩:=hrel
  have HZ:=Lib.hid hz2;clear hz2
  rcases Nat.eq_zero_or_pos q with hq0|hq0
  ·subst hq0
   have d1:decide ((0:Int)<=((0:Nat):Int)-1)=false:=by simp
   go_wp2
   go_ret2
   exact ⟨⟨0,false,rfl,.inr ⟨rfl,fun j=>HZ.out j (by omega)⟩⟩,rfl⟩
  ·obtain ⟨q',rfl⟩:∃q',q=q'+1:=⟨q-1,by omega⟩
   have q1:(((q'+1:Nat):Int)-1)=(q':Int):=by omega
   rw [q1]
   obtain rfl:=HA.out (by omega)
   have h3:=HW.out q' (by omega)
   have hqn:q'<n:=by omega
   by_cases hy:pk m q'=0
   ·have hy2:=(prv_word (m:=m) (p:=q')).2 hy
    rw [hy]at h3
    have hz0:wn (0:BitVec 64)=0:=rfl
    have HY:=Lib.hid hy2;clear hy hy2 q1
    go_wp2
    go_roundw
    case rel=>
     refine ⟨q',by omega,by go_num,fun j h1=>?_,by first|rfl|trivial⟩
     rcases Nat.lt_or_ge j (64*(q'+1)) with h|h
     ·exact HY.out j h1 h
     ·exact HZ.out j h
    case measure=>simp [intOf]
   ·have hy1:¬wn (pk m q')=0:=by rw [wn_eq_zero];exact hy
    obtain ⟨g0,g1,g2,g3⟩:=(prv_word (m:=m) (p:=q')).1 hy
    have G2:=Lib.hid g2;have G3:=Lib.hid g3;clear g2 g3 hy q1
    go_wp2_with (go_at_call 124;refine (blen_c _ _).mono ?_;rintro e w2 ⟨rfl,rfl⟩)
    go_ret2
    refine ⟨⟨64*q'+(blen (pk m q')-1),true,?_,.inl ⟨rfl,G2.out,fun j h1=>?_⟩⟩,rfl⟩
    ·go_num
    ·rcases Nat.lt_or_ge j (64*(q'+1)) with h|h
     ·exact G3.out j h1 h
     ·exact HZ.out j h
end Go.Proofs.YtobdfhlmipcjbaaGreatDoor
namespace Go.Proofs.YtobdfhlmipcjbaaGreatDoor
open Go.RowKit
def stepV(op:Int)(a b c:Nat)(fr to n:Nat)(wd:BitVec 64)(many:Value):Value:= .agg #[.int .i64 op,.int .i64 (a:Int),.int .i64 (b:Int),.int .i64 (c:Int),.int .i64 (fr:Int),.int .i64 (to:Int),.int .i64 (n:Int),WV wd,many]
def ans0:Value:=ansV false 0 0 ByteArray.empty (.slice none 0 0) (.slice none 0 0)
theorem alloc_at{w:World}{p:Nat}{o:Obj}(h:w.heap[p]? =some o)(o':Obj):(w.alloc o').heap[p]? =some o:=(hp_alloc w o' (hp_lt h)).trans h
def AnsP(is:Bool)(n:Int)(w:World)(B:Nat)(vs:Nat->Value)(ls:Nat->List Bool)(t:Nat)(l:List Bool)(e:Ending)(w':World):Prop:=
 InPost w B vs ls (ansV is n 0 ByteArray.empty (.slice none 0 0) (.slice none 0 0)) t l e w'
theorem Lst.cap{w:World}{e:TypeId}{size n n2 c:Nat}{v:Value}{xs:List Value}{o:Option Addr}(h:Lst w e size v n xs)(hv:v= .slice o n2 c):n<=c:=by
 rcases h.2 with ⟨rfl,rfl⟩|⟨g,cap,cur,rfl,_,_,hn,_⟩
 ·exact Nat.zero_le _
 ·cases hv;exact hn
theorem Src.take{w:World}{o:Option Addr}{n c:Nat}{xs:List Value}(h:Src w 1 (.slice o n c) n xs)(k:Nat)(hk:k<=n):Src w 1 (.slice o k c) k (xs.take k):=by
 obtain ⟨A,c,e,hl,hh⟩:=h
 cases e
 refine ⟨_,_,rfl,by simp;omega,fun h0=>?_⟩
 obtain ⟨ad,e,hh⟩:=hh (by omega)
 refine ⟨ad,e,fun j y hy=>hh j y ?_⟩
 by_cases hj:j<k
 ·rw [List.getElem?_take,if_pos hj]at hy;exact hy
 ·rw [List.getElem?_take,if_neg hj]at hy;cases hy
theorem set6{w:World}{p:Nat}{x0 x1 x2 x3 x4 x5:Value}{t:TypeId}(y0 y1 y2 y3 y4 y5:Value)(h:w.heap[p]? =some (.cells #[x0,x1,x2,x3,x4,x5] t (0,0))):
  ((((((w.setCell ⟨p,0,none⟩ y0).setCell ⟨p,1,none⟩ y1).setCell ⟨p,2,none⟩ y2).setCell ⟨p,3,none⟩ y3).setCell ⟨p,4,none⟩ y4).setCell ⟨p,5,none⟩ y5).heap[p]? =some (.cells #[y0,y1,y2,y3,y4,y5] t (0,0)):=
 hp_same _ p 5 y5 (hp_same _ p 4 y4 (hp_same _ p 3 y3 (hp_same _ p 2 y2 (hp_same _ p 1 y1 (hp_same w p 0 y0 h)))))
theorem fr6{w:World}{p:Nat}(y0 y1 y2 y3 y4 y5:Value):Fr (· =p) w ((((((w.setCell ⟨p,0,none⟩ y0).setCell ⟨p,1,none⟩ y1).setCell ⟨p,2,none⟩ y2).setCell ⟨p,3,none⟩ y3).setCell ⟨p,4,none⟩ y4).setCell ⟨p,5,none⟩ y5):=
 ((((((Fr.refl (· =p) w).setCell (.inl rfl) _).setCell (.inl rfl) _).setCell (.inl rfl) _).setCell (.inl rfl) _).setCell (.inl rfl) _).setCell (.inl rfl) _
structure DoW(w1 w:World)(B:Nat)(op:Int)(a b c fr to n:Nat)(wd:BitVec 64)(many:Value)(is:Bool)(nn:Int):Prop where
 p0:w1.heap[w.heap.size]? =some (.cells #[.int .i64 op,.int .i64 (a:Int),.int .i64 (b:Int),.int .i64 (c:Int),.int .i64 (fr:Int),.int .i64 (to:Int),.int .i64 (n:Int),WV wd,many] 35 (0,0))
 p1:w1.heap[w.heap.size+1]? =some (.cells #[.pointer (some ⟨B,0,none⟩)] 43 (0,0))
 p2:w1.heap[w.heap.size+1+1]? =some (.cells #[.bool false,.int .i64 0,.int .u64 0,.string { data:= #[] },.slice none 0 0,.slice none 0 0] 40 (0,0))
 p3:w1.heap[w.heap.size+1+1+1]? =some (.cells #[.bool is,.int .i64 nn,.int .u64 0,.string { data:= #[] },.slice none 0 0,.slice none 0 0] 40 (0,0))
 p4:w1.heap[w.heap.size+1+1+1+1]? =some (.cells #[.bool false,.bool false,.bool false,.bool true] 61 (0,0))
 p5:w1.heap[w.heap.size+1+1+1+1+1]? =some (.cells #[.bool false,.bool true,.bool true,.bool true] 61 (0,0))
 p6:w1.heap[w.heap.size+1+1+1+1+1+1]? =some (.cells #[.bool false,.bool false,.bool true,.bool false] 61 (0,0))
 p7:w1.heap[w.heap.size+1+1+1+1+1+1+1]? =some (.cells #[.bool false,.bool true,.bool true,.bool false] 61 (0,0))
 fr_:Fr (fun _=>False) w w1
 size:w1.heap.size=w.heap.size+8
theorem doW(w:World)(B:Nat)(op:Int)(a b c fr to n nq:Nat)(wd:BitVec 64)(many:Value)(is:Bool)(nn:Int):
  DoW (((((((((w.alloc (.cells #[.int .i64 op,.int .i64 (a:Int),.int .i64 (b:Int),.int .i64 (c:Int),.int .i64 (fr:Int),.int .i64 (to:Int),.int .i64 (n:Int),WV wd,many] 35)).alloc (.cells #[.pointer (some ⟨B,0,none⟩)] 43)).alloc (.cells #[.bool false,.int .i64 0,.int .u64 0,.string { data:= #[] },.slice none 0 0,.slice none 0 0] 40)).drewN nq).alloc (.cells #[.bool is,.int .i64 nn,.int .u64 0,.string { data:= #[] },.slice none 0 0,.slice none 0 0] 40)).alloc (.cells #[.bool false,.bool false,.bool false,.bool true] 61)).alloc (.cells #[.bool false,.bool true,.bool true,.bool true] 61)).alloc (.cells #[.bool false,.bool false,.bool true,.bool false] 61)).alloc (.cells #[.bool false,.bool true,.bool true,.bool false] 61)) w B op a b c fr to n wd many is nn:=by
 refine ⟨?_,?_,?_,?_,?_,?_,?_,?_,((((((((((Fr.refl _ _).alloc _).alloc _).alloc _).drewN _).alloc _).alloc _).alloc _).alloc _).alloc _),by simp⟩
 ·exact alloc_at (alloc_at (alloc_at (alloc_at (alloc_at (w:=World.drewN _ nq) (alloc_at (alloc_at (hp_new w _) _) _) _) _) _) _) _
 ·exact alloc_at (alloc_at (alloc_at (alloc_at (alloc_at (w:=World.drewN _ nq) (alloc_at (by simpa using hp_new (w.alloc _) _) _) _) _) _) _) _
 ·exact alloc_at (alloc_at (alloc_at (alloc_at (alloc_at (w:=World.drewN _ nq) (by simpa using hp_new ((w.alloc _).alloc _) _) _) _) _) _) _
 ·exact alloc_at (alloc_at (alloc_at (alloc_at (by simpa using hp_new ((((w.alloc _).alloc _).alloc _).drewN nq) _) _) _) _) _
 ·exact alloc_at (alloc_at (alloc_at (by simpa using hp_new (((((w.alloc _).alloc _).alloc _).drewN nq).alloc _) _) _) _) _
 ·exact alloc_at (alloc_at (by simpa using hp_new ((((((w.alloc _).alloc _).alloc _).drewN nq).alloc _).alloc _) _) _) _
 ·exact alloc_at (by simpa using hp_new (((((((w.alloc _).alloc _).alloc _).drewN nq).alloc _).alloc _).alloc _) _) _
 ·simpa using hp_new ((((((((w.alloc _).alloc _).alloc _).drewN nq).alloc _).alloc _).alloc _).alloc _) _
theorem step_app(t e:TypeId)(i:TypeInfo)(z:Value)(size bytes:Nat)(ht:Tryz.prog.underlying t=some (.slice e))(hi:Tryz.prog.info? e=some i)(hz:i.zero=some z)
  (hsize:i.size=size) (hby:i.bytes=bytes) (hzs:z.cells.size=size) (hsz:0<size) (hbb:bytes<=1000) (s x:Operand)
  {ops:Array Oper} {o:Oper} {a:Act} {K:Act->World->Prop} {Q:Exit->Act->World->Prop} {E:Prop} (hgd:o.guard=none) (ho:o.op= .call { callee:= .builtin .append,args:= #[s,x],argTypes:= #[t,t] }) (w0 w:World)
  (v:Value) (n:Nat) (xs:List Value) (hv:Lst w e size v n xs) (hf0:Fr (fun _=>False) w0 w) (ho0:∀r,v.ownBlock=some r->w0.heap.size<=r) (u:Value) (m:Nat) (ys:List Value) (hu:Src w size u m ys) (h1:∀y∈ys,y.oneCell'=true)
  (hlen:n+m<=1000000) (hs:a.eval s=v) (hx:a.eval x=u)
  (h:∀v' w',Lst w' e size v' (n+m) (xs++ys)->Fr (fun _=>False) w0 w'->(∀r,v'.ownBlock=some r->w0.heap.size<=r)->Fr (fun r=>v.ownBlock=some r) w w'->K (a.put o.dst v') w'):
  if Region.wanted o (yielded ops a.tmps)=true then Oper.wp Tryz.prog o a w K Q else E:=by
 have hw:Region.wanted o (yielded ops a.tmps)=true:=by simp [Region.wanted,hgd]
 rw [if_pos hw]
 obtain ⟨v',w',hr,h2,h3,h4⟩:=run_app t o.type e i z size bytes ht hi hz hsize hby hzs hsz w v n xs hv u m ys hu h1 hlen hbb
 unfold Oper.wp execOp
 simp only [ho,resolve,invoke,builtin,Sem.run_bind,Sem.run_pure,Result.andThen_ok,List.map_toArray,List.map_cons,List.map_nil,hs,hx,hr]
 exact h _ _ h2 (hf0.trans' h3 (fun r hr=> .inr (ho0 r hr))) (own_new h4 hf0.size ho0) h3
theorem add_at(s k j:Nat):(⟨s,k,none⟩:Addr).add j=⟨s,k+j,none⟩:=by
 unfold Addr.add;split <;> simp_all
theorem Lst.rest{w:World}{e:TypeId}{n c s:Nat}{xs:List Value}(h:Lst w e 1 (.slice (some ⟨s,0,none⟩) n c) n xs)(k c':Nat)(hk:k<=n):Src w 1 (.slice (some ⟨s,k,none⟩) (n-k) c') (n-k) (xs.drop k):=by
 obtain ⟨A,c2,e1,hl,hh⟩:=h.src
 refine ⟨_,_,rfl,by simp;omega,fun h0=>⟨_,rfl,fun j y hy=>?_⟩⟩
 obtain ⟨ad,e2,hc⟩:=hh (by omega)
 cases e1
 cases e2
 rw [List.getElem?_drop]at hy
 have:=hc _ _ hy
 rw [add_at]at this ⊢
 simpa using this
theorem Src.keep{w w':World}{T:Nat->Prop}{size m:Nat}{u:Value}{ys:List Value}(h:Src w size u m ys)(k:Fr T w w')(hT:∀r,u.ownBlock=some r->¬T r):Src w' size u m ys:=by
 obtain ⟨A,c,rfl,hl,hh⟩:=h
 refine ⟨A,c,rfl,hl,fun hm=>?_⟩
 obtain ⟨ad,rfl,hc⟩:=hh hm
 refine ⟨ad,rfl,fun j y hj=>?_⟩
 have h0:=hc j y hj
 have hb:(ad.add j).block=ad.block:=by unfold Addr.add;split <;> rfl
 exact (k.cell (block_lt_of_cell h0) (by rw [hb];exact hT _ rfl)).trans h0
theorem Lst.drew{w:World}{e:TypeId}{size n:Nat}{v:Value}{xs:List Value}(h:Lst w e size v n xs):Lst w.drew e size v n xs:=h
theorem Src.drew{w:World}{size m:Nat}{u:Value}{ys:List Value}(h:Src w size u m ys):Src w.drew size u m ys:=h
theorem Src.none(w:World)(A:Option Addr)(c:Nat):Src w 1 (.slice A 0 c) 0 []:=⟨_,_,rfl,rfl,fun h=>absurd h (by omega)⟩
theorem doIn{w:World}{B:Nat}{vs:Nat->Value}{ls:Nat->List Bool}(hs:Sets w B vs ls){a b c:Nat}(ha:a<4)(hb:b<4)(hc:c<4):
  ∃(la lb lc:Nat) (oa:Option Addr) (ca:Nat) (ob:Option Addr) (cb:Nat) (oc:Option Addr) (cc:Nat),
   la<=6000/\lb<=6000/\lc<=6000/\w.cell? ⟨B,a,none⟩=some (.slice oa la ca)/\w.cell? ⟨B,b,none⟩=some (.slice ob lb cb)/\w.cell? ⟨B,c,none⟩=some (.slice oc lc cc)/\la<=ca/\
   B<w.heap.size/\¬B=w.heap.size/\¬B=w.heap.size+1/\¬B=w.heap.size+1+1/\B<w.heap.size+1/\B<w.heap.size+1+1/\
   Hid (Sets w B vs ls)/\Hid (la=(ls a).length)/\Hid (lb=(ls b).length)/\Hid (lc=(ls c).length)/\Hid (vs a= .slice oa la ca)/\Hid (vs b= .slice ob lb cb)/\Hid (vs c= .slice oc lc cc):=by
 obtain ⟨oa,ca,ea⟩:=(hs.at_ a ha).sl
 obtain ⟨ob,cb,eb⟩:=(hs.at_ b hb).sl
 obtain ⟨oc,cc,ec⟩:=(hs.at_ c hc).sl
 have hB:=hs.row.lt
 have h1:=hs.len a ha
 have h2:=hs.len b hb
 have h3:=hs.len c hc
 exact ⟨_,_,_,oa,ca,ob,cb,oc,cc,h1,h2,h3,ea ▸ hs.row.cell ha,eb ▸ hs.row.cell hb,ec ▸ hs.row.cell hc,(hs.at_ a ha).cap ea,
  hB,Nat.ne_of_lt hB,by omega,by omega,by omega,by omega,hs,rfl,rfl,rfl,ea,eb,ec⟩
theorem doMid{w:World}{B:Nat}{vs:Nat->Value}{ls:Nat->List Bool}{a b c la lb lc ca cb cc:Nat}{oa ob oc:Option Addr}(op:Int)(fr to n nq:Nat)(wd:BitVec 64)(many:Value)(is:Bool)(nn:Int)(ha:a<4)(hb:b<4)(hc:c<4)
  (HS:Hid (Sets w B vs ls)) (EA:Hid (vs a= .slice oa la ca)) (EB:Hid (vs b= .slice ob lb cb)) (EC:Hid (vs c= .slice oc lc cc)):
  ∃w1,((((((((w.alloc (.cells #[.int .i64 op,.int .i64 (a:Int),.int .i64 (b:Int),.int .i64 (c:Int),.int .i64 (fr:Int),.int .i64 (to:Int),.int .i64 (n:Int),WV wd,many] 35)).alloc (.cells #[.pointer (some ⟨B,0,none⟩)] 43)).alloc (.cells #[.bool false,.int .i64 0,.int .u64 0,.string { data:= #[] },.slice none 0 0,.slice none 0 0] 40)).drewN nq).alloc (.cells #[.bool is,.int .i64 nn,.int .u64 0,.string { data:= #[] },.slice none 0 0,.slice none 0 0] 40)).alloc (.cells #[.bool false,.bool false,.bool false,.bool true] 61)).alloc (.cells #[.bool false,.bool true,.bool true,.bool true] 61)).alloc (.cells #[.bool false,.bool false,.bool true,.bool false] 61)).alloc (.cells #[.bool false,.bool true,.bool true,.bool false] 61)=w1/\
   Hid (DoW w1 w B op a b c fr to n wd many is nn)/\Hid (∀w',Fr (fun _=>False) w w'->BL w' (.slice oa la ca) (ls a))/\Hid (∀w',Fr (fun _=>False) w w'->BL w' (.slice ob lb cb) (ls b))/\Hid (∀w',Fr (fun _=>False) w w'->BL w' (.slice oc lc cc) (ls c)):=by
 refine ⟨_,rfl,doW w B op a b c fr to n nq wd many is nn,fun w' h=>?_,fun w' h=>?_,fun w' h=>?_⟩
 ·rw [<- EA.out];exact (HS.out.at_ a ha).keep h (fun _ _ h=>h)
 ·rw [<- EB.out];exact (HS.out.at_ b hb).keep h (fun _ _ h=>h)
 ·rw [<- EC.out];exact (HS.out.at_ c hc).keep h (fun _ _ h=>h)
def DoE(w w3:World)(B:Nat)(vs:Nat->Value)(ls:Nat->List Bool)(t:Nat)(l:List Bool)(dd:Bool):Prop:=
 dd=decide (l.length<=3000)/\B<w.heap.size/\(∃v,(∀r,v.ownBlock=some r->w.heap.size+8<=r)/\Sets w3 B (upd vs t v) (upd ls t l))/\(∀i,i<4->∀r,(vs i).ownBlock=some r->r<w.heap.size)/\Fr (· =B) w w3/\
  w3.heap[w.heap.size+1+1]? =some (.cells #[.bool false,.int .i64 0,.int .u64 0,.string { data:= #[] },.slice none 0 0,.slice none 0 0] 40 (0,0))
def Six(w3:World)(p:Nat):Prop:=
 w3.cell? ⟨p,0,none⟩=some (.bool false)/\w3.frozen? ⟨p,0,none⟩=false/\w3.cell? ⟨p,1,none⟩=some (.int .i64 0)/\w3.frozen? ⟨p,1,none⟩=false/\w3.cell? ⟨p,2,none⟩=some (.int .u64 0)/\w3.frozen? ⟨p,2,none⟩=false/\
  w3.cell? ⟨p,3,none⟩=some (.string { data:= #[] })/\w3.frozen? ⟨p,3,none⟩=false/\w3.cell? ⟨p,4,none⟩=some (.slice none 0 0)/\w3.frozen? ⟨p,4,none⟩=false/\w3.cell? ⟨p,5,none⟩=some (.slice none 0 0)/\w3.frozen? ⟨p,5,none⟩=false
theorem six{w3:World}{p:Nat}(h:w3.heap[p]? =some (.cells #[.bool false,.int .i64 0,.int .u64 0,.string { data:= #[] },.slice none 0 0,.slice none 0 0] 40 (0,0))):Six w3 p:=
 ⟨hp_cell h 0 rfl,hp_free h 0,hp_cell h 1 rfl,hp_free h 1,hp_cell h 2 rfl,hp_free h 2,hp_cell h 3 rfl,hp_free h 3,hp_cell h 4 rfl,hp_free h 4,hp_cell h 5 rfl,hp_free h 5⟩
def DoR(w:World)(B:Nat)(vs:Nat->Value)(ls:Nat->List Bool)(t:Nat)(l:List Bool)(is:Bool)(nn:Int)(e:Ending)(w3:World):Prop:=
 ∃dd,e= .returned (.tuple #[.agg #[.bool is,.int .i64 nn,.int .u64 0,.string ByteArray.empty,.slice none 0 0,.slice none 0 0],.bool dd])/\Hid (DoE w w3 B vs ls t l dd)/\Six w3 (w.heap.size+1+1)
theorem doE{w w1 w2 w3:World}{B a b c fr to n t:Nat}{op:Int}{wd:BitVec 64}{many v2:Value}{vs:Nat->Value}{ls:Nat->List Bool}{is:Bool}{nn:Int}{l:List Bool}{e:Ending}(HS:Hid (Sets w B vs ls))(HDW:Hid (DoW w1 w B op a b c fr to n wd many is nn))
  (hf2:Fr (fun _=>False) w1 w2) (ho2:∀r,v2.ownBlock=some r->w1.heap.size<=r)
  (h:InV v2 w2 B vs ls (ansV is nn 0 ByteArray.empty (.slice none 0 0) (.slice none 0 0)) t l e w3):DoR w B vs ls t l is nn e w3:=by
 obtain ⟨he,hs3,hf3⟩:=h
 have hW:=HDW.out
 have hB:=HS.out.row.lt
 have hszW:=hW.size
 have hp2:w3.heap[w.heap.size+1+1]? =_:=(hf3.keep _ (by have:=hf2.size;omega) (by omega)).trans ((hf2.keep _ (by omega) (fun h=>h)).trans hW.p2)
 exact ⟨_,he,⟨rfl,hB,⟨v2,fun r hr=>by have:=ho2 r hr;omega,hs3⟩,fun i hi r hr=>(HS.out.at_ i hi).own_lt r hr,((hW.fr_.trans hf2).mono (fun r (hr:False)=>hr.elim)).trans hf3,hp2⟩,six hp2⟩
theorem doOutK{w w1 w2:World}{B a b c fr to n:Nat}{op:Int}{wd:BitVec 64}{many v2:Value}{vs:Nat->Value}{ls:Nat->List Bool}{is:Bool}{nn:Int}{l:List Bool}(ha:a<4)(HS:Hid (Sets w B vs ls))(HDW:Hid (DoW w1 w B op a b c fr to n wd many is nn))
  (hv2:BL w2 v2 l) (hf2:Fr (fun _=>False) w1 w2) (ho2:∀r,v2.ownBlock=some r->w1.heap.size<=r) (hll:l.length<=6000):
  Hid (Calls Tryz.prog 15 #[v2,.pointer (some ⟨w.heap.size+1,0,none⟩),.pointer (some ⟨w.heap.size,0,none⟩),.pointer (some ⟨w.heap.size+1+1+1,0,none⟩)] w2 (fun e w3=>DoR w B vs ls a l is nn e w3/\w3.heap[w.heap.size]? =w1.heap[w.heap.size]?)):=by
 have hW:=HDW.out
 have hB:=HS.out.row.lt
 have hszW:=hW.size
 have kp:∀ {p:Nat} {o:Obj},w1.heap[p]? =some o->w2.heap[p]? =some o:=fun h=>(hf2.keep _ (hp_lt h) (fun h=>h)).trans h
 exact (in_c v2 l (w.heap.size+1) w.heap.size (w.heap.size+1+1+1) B a vs ls is nn w2 (hp_cell (kp hW.p1) 0 rfl) (hp_cell (kp hW.p0) 1 (v:= .int .i64 (a:Int)) rfl) (kp hW.p3) ha (HS.out.keep (hW.fr_.trans hf2) (fun h=>h) (fun _ _ _ _ h=>h)) hv2 hll (fun r hr=>by have:=ho2 r hr;omega) (by omega)).mono
  fun e w3 h=>⟨doE HS HDW hf2 ho2 h,(h.2.2.keep _ (by have:=hf2.size;omega) (by omega)).trans (hf2.keep _ (by omega) (fun h=>h))⟩
theorem doOutA{w w1 w2:World}{B a b c fr to n:Nat}{op:Int}{wd:BitVec 64}{many v2:Value}{vs:Nat->Value}{ls:Nat->List Bool}{is:Bool}{nn:Int}{l:List Bool}(ha:a<4)(HS:Hid (Sets w B vs ls))(HDW:Hid (DoW w1 w B op a b c fr to n wd many is nn))
  (hv2:BL w2 v2 l) (hf2:Fr (fun _=>False) w1 w2) (ho2:∀r,v2.ownBlock=some r->w1.heap.size<=r) (hll:l.length<=6000):
  Hid (Calls Tryz.prog 15 #[v2,.pointer (some ⟨w.heap.size+1,0,none⟩),.pointer (some ⟨w.heap.size,0,none⟩),.pointer (some ⟨w.heap.size+1+1+1,0,none⟩)] w2 (DoR w B vs ls a l is nn)):=
 (doOutK ha HS HDW hv2 hf2 ho2 hll).out.mono fun _ _ h=>h.1
theorem doOutC{w w1 w2:World}{B a b c fr to n:Nat}{op:Int}{wd:BitVec 64}{many v2:Value}{vs:Nat->Value}{ls:Nat->List Bool}{is:Bool}{nn:Int}{l:List Bool}(hc:c<4)(HS:Hid (Sets w B vs ls))(HDW:Hid (DoW w1 w B op a b c fr to n wd many is nn))
  (hv2:BL w2 v2 l) (hf2:Fr (fun _=>False) w1 w2) (ho2:∀r,v2.ownBlock=some r->w1.heap.size<=r) (hll:l.length<=6000):
  Hid (Calls Tryz.prog 16 #[v2,.pointer (some ⟨w.heap.size+1,0,none⟩),.pointer (some ⟨w.heap.size,0,none⟩),.pointer (some ⟨w.heap.size+1+1+1,0,none⟩)] w2 (DoR w B vs ls c l is nn)):=by
 have hW:=HDW.out
 have hB:=HS.out.row.lt
 have hszW:=hW.size
 have kp:∀ {p:Nat} {o:Obj},w1.heap[p]? =some o->w2.heap[p]? =some o:=fun h=>(hf2.keep _ (hp_lt h) (fun h=>h)).trans h
 exact (into_c v2 l (w.heap.size+1) w.heap.size (w.heap.size+1+1+1) B c vs ls is nn w2 (hp_cell (kp hW.p1) 0 rfl) (hp_cell (kp hW.p0) 3 (v:= .int .i64 (c:Int)) rfl) (kp hW.p3) hc (HS.out.keep (hW.fr_.trans hf2) (fun h=>h) (fun _ _ _ _ h=>h)) hv2 hll (fun r hr=>by have:=ho2 r hr;omega) (by omega)).mono
  fun e w3 h=>doE HS HDW hf2 ho2 h
theorem six_keep{w3:World}{p i:Nat}{x y0 y1 y2 y3 y4 y5:Value}(h:w3.cell? ⟨p,i,none⟩=some x):
  ((((((w3.setCell ⟨p+1+1,0,none⟩ y0).setCell ⟨p+1+1,1,none⟩ y1).setCell ⟨p+1+1,2,none⟩ y2).setCell ⟨p+1+1,3,none⟩ y3).setCell ⟨p+1+1,4,none⟩ y4).setCell ⟨p+1+1,5,none⟩ y5).cell? ⟨p,i,none⟩=some x:=
 ((fr6 (w:=w3) (p:=p+1+1) y0 y1 y2 y3 y4 y5).cell (a:=⟨p,i,none⟩) (block_lt_of_cell h) (by simp;omega)).trans h
theorem doSix{w w3:World}{B t:Nat}{vs:Nat->Value}{ls:Nat->List Bool}{l:List Bool}{dd:Bool}(is:Bool)(nn:Int)(HE:Hid (DoE w w3 B vs ls t l dd)):
  ∃w4,(((((w3.setCell ⟨w.heap.size+1+1,0,none⟩ (.bool is)).setCell ⟨w.heap.size+1+1,1,none⟩ (.int .i64 nn)).setCell ⟨w.heap.size+1+1,2,none⟩ (.int .u64 0)).setCell ⟨w.heap.size+1+1,3,none⟩ (.string ByteArray.empty)).setCell ⟨w.heap.size+1+1,4,none⟩ (.slice none 0 0)).setCell ⟨w.heap.size+1+1,5,none⟩ (.slice none 0 0)=w4/\
   w4.cell? ⟨w.heap.size+1+1,0,none⟩=some (.bool is)/\w4.cell? ⟨w.heap.size+1+1,1,none⟩=some (.int .i64 nn)/\w4.cell? ⟨w.heap.size+1+1,2,none⟩=some (.int .u64 0)/\w4.cell? ⟨w.heap.size+1+1,3,none⟩=some (.string ByteArray.empty)/\w4.cell? ⟨w.heap.size+1+1,4,none⟩=some (.slice none 0 0)/\w4.cell? ⟨w.heap.size+1+1,5,none⟩=some (.slice none 0 0)/\
   Hid (AnsP is nn w B vs ls t l (.returned (.tuple #[.agg #[.bool is,.int .i64 nn,.int .u64 0,.string ByteArray.empty,.slice none 0 0,.slice none 0 0],.bool dd])) w4):=by
 obtain ⟨hd,hB,⟨v,hv,hs⟩,ho,hf,hp⟩:=HE.out
 have hp4:=set6 (.bool is) (.int .i64 nn) (.int .u64 0) (.string ByteArray.empty) (.slice none 0 0) (.slice none 0 0) hp
 have hf4:=fr6 (w:=w3) (p:=w.heap.size+1+1) (.bool is) (.int .i64 nn) (.int .u64 0) (.string ByteArray.empty) (.slice none 0 0) (.slice none 0 0)
 refine ⟨_,rfl,hp_cell hp4 0 rfl,hp_cell hp4 1 rfl,hp_cell hp4 2 rfl,hp_cell hp4 3 rfl,hp_cell hp4 4 rfl,hp_cell hp4 5 rfl,?_⟩
 refine ⟨by rw [hd];rfl,v,hs.keep hf4 (by omega) (fun i hi r hr=>?_),hf.trans' hf4 (fun r hr=> .inr (by omega))⟩
 unfold upd at hr
 split at hr
 ·have:=hv r hr;omega
 ·have:=ho i hi r hr;omega
def Sep(b:Nat)(v:Value)(b2:Nat)(v2:Value):Prop:=∀r,Own b v r->¬Own b2 v2 r
theorem pk_or(m m2:Nat->Bool)(k:Nat):pk m k|||pk m2 k=pk (fun i=>m i||m2 i) k:=pk_ext fun j hj=>by rw [BitVec.getLsbD_or,getLsbD_pk,getLsbD_pk];simp [hj]
theorem pk_and(m m2:Nat->Bool)(k:Nat):pk m k&&&pk m2 k=pk (fun i=>m i&&m2 i) k:=pk_ext fun j hj=>by rw [BitVec.getLsbD_and,getLsbD_pk,getLsbD_pk];simp [hj]
theorem pk_xor(m m2:Nat->Bool)(k:Nat):pk m k^^^pk m2 k=pk (fun i=>m i^^m2 i) k:=pk_ext fun j hj=>by rw [BitVec.getLsbD_xor,getLsbD_pk,getLsbD_pk];simp [hj]
theorem pk_dif(m m2:Nat->Bool)(k:Nat):pk m k&&& ~~~ pk m2 k=pk (fun i=>m i&& !m2 i) k:=pk_ext fun j hj=>by rw [BitVec.getLsbD_and,BitVec.getLsbD_not,getLsbD_pk,getLsbD_pk];simp [hj]
theorem BA.same{w:World}{b:Nat}{v v2:Value}{L L2:Nat}{m m2:Nat->Bool}(h:BA w b v L m)(k:BA w b v2 L2 m2):v2=v/\L2=L:=by
 have:=h.2.blk.symm.trans k.2.blk
 simp at this
 obtain ⟨h1,h2⟩:=this
 exact ⟨h2.symm,by omega⟩
theorem BA.keep{w w':World}{T:Nat->Prop}{b:Nat}{v:Value}{L:Nat}{m:Nat->Bool}(h:BA w b v L m)(k:Fr T w w')(hT:∀r,Own b v r->¬T r):BA w' b v L m:=⟨h.1,h.2.keep k hT⟩
theorem BA.drewN{w:World}{b:Nat}{v:Value}{L:Nat}{m:Nat->Bool}(h:BA w b v L m)(n:Nat):BA (w.drewN n) b v L m:=⟨h.1,h.2.drewN n⟩
theorem other_at{w wr:World}{s s2 c2 k:Nat}{g2:Nat->BitVec 64}(hs2:w.rowIs s2 29 c2 (fun i=>WV (g2 i)))(hk:k<c2)(hf:Fr (· =s) w wr)(hsame:s2=s->wr.cell? ⟨s,k,none⟩=some (WV (g2 k))):
  wr.cell? ⟨s2,k,none⟩=some (WV (g2 k)):=by
 by_cases e:s2=s
 ·rw [e];exact hsame e
 ·rw [hf.cell (a:=⟨s2,k,none⟩) hs2.lt e];exact hs2.cell hk
theorem Sep.step{w w1:World}{b b2 L2:Nat}{v v1 v2:Value}{m2:Nat->Bool}(h:Sep b v b2 v2)(c:Ch w w1 b v v1)(k:BA w b2 v2 L2 m2):Sep b v1 b2 v2:=by
 intro r hr hr2
 rcases hr with rfl|hr
 ·exact h r (.inl rfl) hr2
 ·rcases c.own with e|e|⟨r',e,hr'⟩
  ·exact h r (.inr (by rw [<- e];exact hr)) hr2
  ·rw [e]at hr;cases hr
  ·rw [e]at hr;cases hr;have:=k.2.own_lt _ hr2;omega
theorem ipUnion_x1(b b2 L L2:Nat)(v v2:Value)(m m2:Nat->Bool)(w:World)(hL2:0<L2)(hL:L2<=L)(h:BA w b v L m)(k2:BA w b2 v2 L2 m2)(hs:(b2=b/\m2=m)\/Sep b v b2 v2):
  Calls Tryz.prog 54 #[.pointer (some ⟨b,0,none⟩),.pointer (some ⟨b2,0,none⟩)] w (MutA w b v L (fun i=>m i||m2 i) (.tuple #[])):=by
 obtain ⟨s,c,g,rfl,r,hg,hm⟩:=h.rs (by omega)
 obtain ⟨s2,c2,g2,rfl,r2,hg2,hm2⟩:=k2.rs hL2
 have hsame:s2=s->b2=b/\m2=m:=by
  intro e;subst e
  rcases hs with hs|hs
  ·exact hs
  ·exact absurd (.inr rfl) (hs s2 (.inr rfl))
 have hbs:s≠b2:=by
  rcases hs with ⟨rfl,_⟩|hs
  ·exact r.ne
  ·intro e;subst e;exact hs s (.inr rfl) (.inl rfl)
 have hg2s:s2=s->∀j,j<nw L2->g2 j=g j:=fun e j hj=>by
  obtain ⟨rfl,rfl⟩:=hsame e
  rw [hg2 j hj,hg j (by unfold nw at *;omega)]
 clear h k2 hs
 have a0:=r.h0
 have a1:=r.h1
 have b0:=r2.h0
 have b1:=r2.h1
 have hl:=r.hl
 have hl2:=r2.hl
 obtain ⟨n,hn⟩:∃n,n=nw L:=⟨_,rfl⟩
 obtain ⟨n2,hn2⟩:∃n,n=nw L2:=⟨_,rfl⟩
 have hnn:n2<=n:=by subst hn hn2;unfold nw;omega
 have hnb:n<=1000:=by subst hn;unfold nw;omega
 have hn1:1<=n2:=by subst hn2;unfold nw;omega
 have hw1:∀w:World,w.cell? ⟨b,0,none⟩=some (.int .u64 (L:Int))->Calls Tryz.prog 101 #[.pointer (some ⟨b,0,none⟩)] w fun e w'=>e= .returned (.int .i64 (n:Int))/\w'=w:=fun w h=>by rw [hn];exact wordCount_c b L w (by omega) h
 have hw2:∀w:World,w.cell? ⟨b2,0,none⟩=some (.int .u64 (L2:Int))->Calls Tryz.prog 101 #[.pointer (some ⟨b2,0,none⟩)] w fun e w'=>e= .returned (.int .i64 (n2:Int))/\w'=w:=fun w h=>by rw [hn2];exact wordCount_c b2 L2 w (by omega) h
 have HW1:=Lib.hid hw1;have HW2:=Lib.hid hw2
 have A0:=Lib.hid a0;have B0:=Lib.hid b0
 have z0:=r.at (i:=n2-1) (by omega)
 have z2:=r2.at (i:=n2-1) (by omega)
 rw [<- hn]at a1
 rw [<- hn2]at b1
 have HN:=Lib.hid hn;have HN2:=Lib.hid hn2
 have R:=Lib.hid r;have R2:=Lib.hid r2;have HG:=Lib.hid hg;have HG2:=Lib.hid hg2;have HM:=Lib.hid hm;have HM2:=Lib.hid hm2;have HS:=Lib.hid hsame;have HGS:=Lib.hid hg2s
 clear hw1 hw2 r r2 hg hg2 hm hm2 hsame hg2s hn hn2
 have d1:decide (n<n2)=false:=by simp;omega
 have d2:decide ((0:Int)<(L2:Int))=true:=by simp;omega
 have d3:decide ((L:Int)<=(L2:Int)-1)=false:=by simp;omega
 have d4:decide ((0:Int)<(n2:Int))=true:=by simp;omega
 have i1:(0:Int)<=(n2:Int)-1/\(n2:Int)-1<n/\(n2:Int)-1<n2:=by omega
 have i2:((n2:Int)-1).toNat=n2-1:=by omega
 have p1:(1:Int)<=(L2:Int):=by omega
 go_enter Tryz.func54,Tryz.ntmps54
 go_wp2_with (go_at_call 103;refine (panicIfNull_c _ _).mono ?_;rintro e w' ⟨rfl,rfl⟩)
 refine (HW2.out _ B0.out).mono ?_
 rintro e w' ⟨rfl,rfl⟩
 go_wp2_with (fail)
 refine (HW1.out _ A0.out).mono ?_
 rintro e w' ⟨rfl,rfl⟩
 go_wp2
 go_quiet (fail)
 go_wp2
 go_quiet (fail)
 go_wp2
 go_loopw [7] (fun i wr=>∃k:Nat,k<=n2/\i= .int .i64 (k:Int)/\RS wr b s L c (fun j=>if j<k then g j|||g2 j else g j)/\∃nd,Fr (· =s) (w'.drewN nd) wr) (fun i _=>n2-(intOf i).toNat)
 case atStart=>exact ⟨0,by omega,rfl,(R.out.drewN _).congr (fun j _=>by simp),_,Fr.refl _ _⟩
 case round=>
  obtain ⟨k,hk,rfl,hr,nd,hfr⟩:=hrel
  have HF:=Lib.hid hfr
  have HR:=Lib.hid hr
  have x0:=hr.h0
  have x1:=hr.h1
  rw [<- HN.out]at x1
  have y0:=(hfr.cell (a:=⟨b2,0,none⟩) (hp_lt R2.out.hb) (fun e=>hbs e.symm)).trans B0.out
  have y1:=(hfr.cell (a:=⟨b2,1,none⟩) (hp_lt R2.out.hb) (fun e=>hbs e.symm)).trans b1
  by_cases hlt:k<n2
  ·have c0:=hr.at (i:=k) (by rw [<- HN.out];omega)
   have f0:=hr.fr k
   rw [if_neg (Nat.lt_irrefl k)]at c0
   have c1:=other_at (k:=k) (rowIs_drewN R2.out.hs nd) (by have:=R2.out.hn;rw [<- HN2.out]at this;omega) hfr (fun e=>by rw [c0,HGS.out e k (by rw [<- HN2.out];exact hlt)])
   clear hr hfr
   go_wp2
   refine wp_region_quiet_tail 9 (by kernel_rfl) (by kernel_rfl) ?_
   simp only [List.take_succ_cons,List.take_zero,List.drop_succ_cons,List.drop_zero]
   repeat (go_big_quiet_step (fail))
   refine wpQuiet_nil ?_
   intro _ ⟨nq,hw'⟩
   subst hw'
   go_wp2
   go_roundw
   case rel=>
    refine ⟨k+1,by omega,by go_num,?_,nd,(HF.out.drewN nq).setCell (.inl rfl) _⟩
    rw [wn_or]
    refine ((HR.out.drewN nq).set k _).congr (fun j _=>?_)
    by_cases e:j=k
    ·subst e;rw [if_pos rfl,if_pos (Nat.lt_succ_self j)]
    ·rw [if_neg e]
     by_cases e2:j<k
     ·rw [if_pos e2,if_pos (show j<k+1 by omega)]
     ·rw [if_neg e2,if_neg (show ¬j<k+1 by omega)]
   case measure=>simp [intOf];omega
  ·have hkn:k=n2:=by omega
   subst hkn
   have d5:decide (k<k)=false:=by simp
   clear hr hfr
   go_wp2
   go_end0
   refine ⟨rfl,_,HR.out.ba (fun j hj=>?_) (fun i hi=>?_),⟨(((Fr.refl _ _).drewN nd).trans (HF.out.mono (fun r hr=> .inr (by subst hr;rfl)))),.inl rfl⟩⟩
   ·rw [HG.out j hj]
    by_cases e:j<k
    ·rw [if_pos e,HG2.out j (by rw [<- HN2.out];exact e),pk_or]
    ·rw [if_neg e,<- pk_or,pk_out HM2.out (by rw [<- HN2.out];omega)]
     simp
   ·rw [HM.out i hi,HM2.out i (by omega)];rfl
theorem ipUnion_x2e(b b2 L L2:Nat)(v v2:Value)(m m2:Nat->Bool)(w:World)(hL0:0<L)(hL:L<L2)(hcs:nw L=nw L2)(h:BA w b v L m)(k2:BA w b2 v2 L2 m2)(hs:Sep b v b2 v2):
  Calls Tryz.prog 54 #[.pointer (some ⟨b,0,none⟩),.pointer (some ⟨b2,0,none⟩)] w (MutA w b v L2 (fun i=>m i||m2 i) (.tuple #[])):=by
 have hl2:=k2.2.lim
 have a0:=hp_cell h.2.blk 0 (v:= .int .u64 L) rfl
 have b0:=hp_cell k2.2.blk 0 (v:= .int .u64 L2) rfl
 have hm:=h.1
 obtain ⟨n,hn⟩:∃n,n=nw L:=⟨_,rfl⟩
 obtain ⟨n2,hn2⟩:∃n,n=nw L2:=⟨_,rfl⟩
 have hnn:n<=n2:=by subst hn hn2;unfold nw;omega
 have hnb:n2<=1000:=by subst hn2;unfold nw;omega
 have hn1:1<=n:=by subst hn;unfold nw;omega
 have hw1:∀w:World,w.cell? ⟨b,0,none⟩=some (.int .u64 (L:Int))->Calls Tryz.prog 101 #[.pointer (some ⟨b,0,none⟩)] w fun e w'=>e= .returned (.int .i64 (n:Int))/\w'=w:=fun w h=>by rw [hn];exact wordCount_c b L w (by omega) h
 have hw2:∀w:World,w.cell? ⟨b2,0,none⟩=some (.int .u64 (L2:Int))->Calls Tryz.prog 101 #[.pointer (some ⟨b2,0,none⟩)] w fun e w'=>e= .returned (.int .i64 (n2:Int))/\w'=w:=fun w h=>by rw [hn2];exact wordCount_c b2 L2 w (by omega) h
 rw [<- hn,<- hn2]at hcs
 have HW1:=Lib.hid hw1;have HW2:=Lib.hid hw2
 have HH:=Lib.hid h;have HK:=Lib.hid k2;have HSP:=Lib.hid hs;have HM:=Lib.hid hm
 have HN:=Lib.hid hn;have HN2:=Lib.hid hn2
 have A0:=Lib.hid a0;have B00:=Lib.hid b0
 clear hw1 hw2 h k2 hs hm hn hn2
 obtain rfl:n=n2:=hcs
 have hL20:0<L2:=by omega
 have d2:decide ((0:Int)<(L2:Int))=true:=by simp;omega
 have d3:decide ((L:Int)<=(L2:Int)-1)=true:=by simp;omega
 have p1:(1:Int)<=(L2:Int):=by omega
 have d4:decide ((0:Int)<(n:Int))=true:=by simp;omega
 have i1:(0:Int)<=(n:Int)-1/\(n:Int)-1<n:=by omega
 have i2:((n:Int)-1).toNat=n-1:=by omega
 go_enter Tryz.func54,Tryz.ntmps54
 go_wp2_with (go_at_call 103;refine (panicIfNull_c _ _).mono ?_;rintro e w' ⟨rfl,rfl⟩)
 refine (HW2.out _ B00.out).mono ?_
 rintro e w' ⟨rfl,rfl⟩
 go_wp2_with (fail)
 refine (HW1.out _ A0.out).mono ?_
 rintro e w' ⟨rfl,rfl⟩
 go_wp2
 go_quiet (fail)
 go_wp2_with (go_at_call 100;refine (extA_e b L2 L v m _ hL hl2 (HH.out.drewN _)).mono ?_;rintro e w1 ⟨rfl,v1,hba,hch0⟩;refine Hid.out ?_)
 refine Lib.hid ?_
 clear a0 b0
 have hch:Ch w' w1 b v v1:=(⟨(Fr.refl _ _).drewN _,.inl rfl⟩:Ch w' (w'.drewN nq) b v v).trans hch0
 clear hch0
 have hsp1:=HSP.out.step hch HK.out
 have k1:=HK.out.keep hch.fr (fun r hr hr2=>HSP.out r hr2 hr)
 obtain ⟨s,c,g,rfl,r,hg,hm1⟩:=hba.rs (by omega)
 obtain ⟨s2,c2,g2,rfl,r2,hg2,hm2⟩:=k1.rs (by omega)
 have hss:¬s2=s:=fun e=>hsp1 s (.inr rfl) (.inr (by rw [e];rfl))
 have hbs:s≠b2:=fun e=>hsp1 s (.inr rfl) (.inl e)
 have HC:=Lib.hid hch
 have a0:=r.h0
 have a1:=r.h1
 have b0:=r2.h0
 have b1:=r2.h1
 have hl:=r.hl
 have z0:=r.at (i:=n-1) (by rw [<- HN2.out];omega)
 have z2:=r2.at (i:=n-1) (by rw [<- HN2.out];omega)
 rw [<- HN2.out]at a1 b1
 have R:=Lib.hid r;have R2:=Lib.hid r2;have HG:=Lib.hid hg;have HG2:=Lib.hid hg2;have HM2:=Lib.hid hm2
 have B0:=Lib.hid b0;have B1:=Lib.hid b1
 clear r r2 hg hg2 hm2 hm1 hch hsp1 k1 hba HSP HK HH
 go_wp2
 go_quiet (fail)
 go_wp2
 go_loopw [7] (fun i wr=>∃k:Nat,k<=n/\i= .int .i64 (k:Int)/\RS wr b s L2 c (fun j=>if j<k then g j|||g2 j else g j)/\∃nd,Fr (· =s) (w1.drewN nd) wr) (fun i _=>n-(intOf i).toNat)
 case atStart=>exact ⟨0,by omega,rfl,(R.out.drewN _).congr (fun j _=>by simp),_,Fr.refl _ _⟩
 case round=>
  obtain ⟨k,hk,rfl,hr,nd,hfr⟩:=hrel
  have HF:=Lib.hid hfr
  have HR:=Lib.hid hr
  have x0:=hr.h0
  have x1:=hr.h1
  rw [<- HN2.out]at x1
  have y0:=(hfr.cell (a:=⟨b2,0,none⟩) (hp_lt R2.out.hb) (fun e=>hbs e.symm)).trans B0.out
  have y1:=(hfr.cell (a:=⟨b2,1,none⟩) (hp_lt R2.out.hb) (fun e=>hbs e.symm)).trans B1.out
  by_cases hlt:k<n
  ·have c0:=hr.at (i:=k) (by rw [<- HN2.out];omega)
   have f0:=hr.fr k
   rw [if_neg (Nat.lt_irrefl k)]at c0
   have c1:=(hfr.cell (a:=⟨s2,k,none⟩) R2.out.hs.lt hss).trans (R2.out.at (i:=k) (by rw [<- HN2.out];omega))
   clear hr hfr
   go_wp2
   refine wp_region_quiet_tail 9 (by kernel_rfl) (by kernel_rfl) ?_
   simp only [List.take_succ_cons,List.take_zero,List.drop_succ_cons,List.drop_zero]
   repeat (go_big_quiet_step (fail))
   refine wpQuiet_nil ?_
   intro _ ⟨nq,hw'⟩
   subst hw'
   go_wp2
   go_roundw
   case rel=>
    refine ⟨k+1,by omega,by go_num,?_,nd,(HF.out.drewN nq).setCell (.inl rfl) _⟩
    rw [wn_or]
    refine ((HR.out.drewN nq).set k _).congr (fun j _=>?_)
    by_cases e:j=k
    ·subst e;rw [if_pos rfl,if_pos (Nat.lt_succ_self j)]
    ·rw [if_neg e]
     by_cases e2:j<k
     ·rw [if_pos e2,if_pos (show j<k+1 by omega)]
     ·rw [if_neg e2,if_neg (show ¬j<k+1 by omega)]
   case measure=>simp [intOf];omega
  ·have hkn:k=n:=by omega
   subst hkn
   have d5:decide (k<k)=false:=by simp
   clear hr hfr
   go_wp2
   go_end0
   refine ⟨rfl,_,HR.out.ba (fun j hj=>?_) (fun i hi=>?_),HC.out.trans ⟨(((Fr.refl _ _).drewN nd).trans (HF.out.mono (fun r hr=> .inr (by subst hr;rfl)))),.inl rfl⟩⟩
   ·rw [if_pos (by rw [HN2.out];exact hj),HG.out j hj,HG2.out j hj,pk_or]
   ·rw [HM.out i (by omega),HM2.out i hi];rfl
theorem ipUnion_x2m(b b2 L L2:Nat)(v v2:Value)(m m2:Nat->Bool)(w:World)(hL0:0<L)(hL:L<L2)(hcs:nw L<nw L2)(h:BA w b v L m)(k2:BA w b2 v2 L2 m2)(hs:Sep b v b2 v2):
  Calls Tryz.prog 54 #[.pointer (some ⟨b,0,none⟩),.pointer (some ⟨b2,0,none⟩)] w (MutA w b v L2 (fun i=>m i||m2 i) (.tuple #[])):=by
 have hl2:=k2.2.lim
 have a0:=hp_cell h.2.blk 0 (v:= .int .u64 L) rfl
 have b0:=hp_cell k2.2.blk 0 (v:= .int .u64 L2) rfl
 have hm:=h.1
 obtain ⟨n,hn⟩:∃n,n=nw L:=⟨_,rfl⟩
 obtain ⟨n2,hn2⟩:∃n,n=nw L2:=⟨_,rfl⟩
 have hnn:n<=n2:=by subst hn hn2;unfold nw;omega
 have hnb:n2<=1000:=by subst hn2;unfold nw;omega
 have hn1:1<=n:=by subst hn;unfold nw;omega
 have hw1:∀w:World,w.cell? ⟨b,0,none⟩=some (.int .u64 (L:Int))->Calls Tryz.prog 101 #[.pointer (some ⟨b,0,none⟩)] w fun e w'=>e= .returned (.int .i64 (n:Int))/\w'=w:=fun w h=>by rw [hn];exact wordCount_c b L w (by omega) h
 have hw2:∀w:World,w.cell? ⟨b2,0,none⟩=some (.int .u64 (L2:Int))->Calls Tryz.prog 101 #[.pointer (some ⟨b2,0,none⟩)] w fun e w'=>e= .returned (.int .i64 (n2:Int))/\w'=w:=fun w h=>by rw [hn2];exact wordCount_c b2 L2 w (by omega) h
 rw [<- hn,<- hn2]at hcs
 have HW1:=Lib.hid hw1;have HW2:=Lib.hid hw2
 have HH:=Lib.hid h;have HK:=Lib.hid k2;have HSP:=Lib.hid hs;have HM:=Lib.hid hm
 have HN:=Lib.hid hn;have HN2:=Lib.hid hn2
 have A0:=Lib.hid a0;have B00:=Lib.hid b0
 clear hw1 hw2 h k2 hs hm hn hn2
 have d1:decide (n<n2)=true:=by simpa using hcs
 have hL20:0<L2:=by omega
 have d2:decide ((0:Int)<(L2:Int))=true:=by simp;omega
 have d3:decide ((L:Int)<=(L2:Int)-1)=true:=by simp;omega
 have p1:(1:Int)<=(L2:Int):=by omega
 have d4:decide ((0:Int)<(n:Int))=true:=by simp;omega
 have i1:(0:Int)<=(n:Int)-1/\(n:Int)-1<n/\(n:Int)-1<n2:=by omega
 have i2:((n:Int)-1).toNat=n-1:=by omega
 go_enter Tryz.func54,Tryz.ntmps54
 go_wp2_with (go_at_call 103;refine (panicIfNull_c _ _).mono ?_;rintro e w' ⟨rfl,rfl⟩)
 refine (HW2.out _ B00.out).mono ?_
 rintro e w' ⟨rfl,rfl⟩
 go_wp2_with (fail)
 refine (HW1.out _ A0.out).mono ?_
 rintro e w' ⟨rfl,rfl⟩
 go_wp2_with (fail)
 refine (HW1.out _ A0.out).mono ?_
 rintro e w' ⟨rfl,rfl⟩
 go_wp2
 go_quiet (fail)
 go_wp2_with (go_at_call 100;refine (extA_e b L2 L v m _ hL hl2 (HH.out.drewN _)).mono ?_;rintro e w1 ⟨rfl,v1,hba,hch0⟩;refine Hid.out ?_)
 refine Lib.hid ?_
 clear a0 b0
 have hch:Ch w' w1 b v v1:=(⟨(Fr.refl _ _).drewN _,.inl rfl⟩:Ch w' (w'.drewN nq) b v v).trans hch0
 clear hch0
 have hsp1:=HSP.out.step hch HK.out
 have k1:=HK.out.keep hch.fr (fun r hr hr2=>HSP.out r hr2 hr)
 obtain ⟨s,c,g,rfl,r,hg,hm1⟩:=hba.rs (by omega)
 obtain ⟨s2,c2,g2,rfl,r2,hg2,hm2⟩:=k1.rs (by omega)
 have hss:¬s2=s:=fun e=>hsp1 s (.inr rfl) (.inr (by rw [e];rfl))
 have hbs:s≠b2:=fun e=>hsp1 s (.inr rfl) (.inl e)
 have HC:=Lib.hid hch
 have a0:=r.h0
 have a1:=r.h1
 have b0:=r2.h0
 have b1:=r2.h1
 have hl:=r.hl
 have z0:=r.at (i:=n-1) (by rw [<- HN2.out];omega)
 have z2:=r2.at (i:=n-1) (by rw [<- HN2.out];omega)
 rw [<- HN2.out]at a1 b1
 have R:=Lib.hid r;have R2:=Lib.hid r2;have HG:=Lib.hid hg;have HG2:=Lib.hid hg2;have HM2:=Lib.hid hm2
 have B0:=Lib.hid b0;have B1:=Lib.hid b1
 clear r r2 hg hg2 hm2 hm1 hch hsp1 k1 hba HSP HK HH
 go_wp2
 go_quiet (fail)
 go_wp2
 go_loopw [7] (fun i wr=>∃K0:Nat,K0<=n/\i= .int .i64 (K0:Int)/\RS wr b s L2 c (fun j=>if j<K0 then g j|||g2 j else g j)/\∃nd,Fr (· =s) (w1.drewN nd) wr) (fun i _=>n-(intOf i).toNat)
 case atStart=>exact ⟨0,by omega,rfl,(R.out.drewN _).congr (fun j _=>by simp),_,Fr.refl _ _⟩
 case round=>
  obtain ⟨K0,hk,rfl,hr,nd,hfr⟩:=hrel
  have HF:=Lib.hid hfr
  have HR:=Lib.hid hr
  have x0:=hr.h0
  have x1:=hr.h1
  rw [<- HN2.out]at x1
  have y0:=(hfr.cell (a:=⟨b2,0,none⟩) (hp_lt R2.out.hb) (fun e=>hbs e.symm)).trans B0.out
  have y1:=(hfr.cell (a:=⟨b2,1,none⟩) (hp_lt R2.out.hb) (fun e=>hbs e.symm)).trans B1.out
  by_cases hlt:K0<n
  ·have c0:=hr.at (i:=K0) (by rw [<- HN2.out];omega)
   have f0:=hr.fr K0
   rw [if_neg (Nat.lt_irrefl K0)]at c0
   have c1:=(hfr.cell (a:=⟨s2,K0,none⟩) R2.out.hs.lt hss).trans (R2.out.at (i:=K0) (by rw [<- HN2.out];omega))
   clear hr hfr
   go_wp2
   refine wp_region_quiet_tail 9 (by kernel_rfl) (by kernel_rfl) ?_
   simp only [List.take_succ_cons,List.take_zero,List.drop_succ_cons,List.drop_zero]
   repeat (go_big_quiet_step (fail))
   refine wpQuiet_nil ?_
   intro _ ⟨nq,hw'⟩
   subst hw'
   go_wp2
   go_roundw
   case rel=>
    refine ⟨K0+1,by omega,by go_num,?_,nd,(HF.out.drewN nq).setCell (.inl rfl) _⟩
    rw [wn_or]
    refine ((HR.out.drewN nq).set K0 _).congr (fun j _=>?_)
    by_cases e:j=K0
    ·subst e;rw [if_pos rfl,if_pos (Nat.lt_succ_self j)]
    ·rw [if_neg e]
     by_cases e2:j<K0
     ·rw [if_pos e2,if_pos (show j<K0+1 by omega)]
     ·rw [if_neg e2,if_neg (show ¬j<K0+1 by omega)]
   case measure=>simp [intOf];omega
  ·have hkn:K0=n:=by omega
   subst hkn
   have d5:decide (K0<K0)=false:=by simp
   clear hr hfr
   go_wp2
   go_loopw [8] (fun i wr=>∃k:Nat,K0<=k/\k<=n2/\i= .int .i64 (k:Int)/\RS wr b s L2 c (fun j=>if K0<=j/\j<k then g2 j else (if j<K0 then g j|||g2 j else g j))/\∃nd,Fr (· =s) (w1.drewN nd) wr) (fun i _=>n2-(intOf i).toNat)
   case atStart=>exact ⟨K0,Nat.le_refl _,by omega,by first|rfl|go_num,HR.out.congr (fun j _=>(if_neg (show ¬(K0<=j/\j<K0) by omega)).symm),_,HF.out⟩
   case round=>
    obtain ⟨k,hlo,hk,rfl,hr,nd2,hfr⟩:=hrel
    have HF:=Lib.hid hfr
    have HR:=Lib.hid hr
    have x0:=hr.h0
    have x1:=hr.h1
    rw [<- HN2.out]at x1
    have y0:=(hfr.cell (a:=⟨b2,0,none⟩) (hp_lt R2.out.hb) (fun e=>hbs e.symm)).trans B0.out
    have y1:=(hfr.cell (a:=⟨b2,1,none⟩) (hp_lt R2.out.hb) (fun e=>hbs e.symm)).trans B1.out
    by_cases hlt:k<n2
    ·have c0:=hr.at (i:=k) (by rw [<- HN2.out];exact hlt)
     have f0:=hr.fr k
     have c1:=(hfr.cell (a:=⟨s2,k,none⟩) R2.out.hs.lt hss).trans (R2.out.at (i:=k) (by rw [<- HN2.out];exact hlt))
     clear hr hfr
     go_wp2
     refine wp_region_quiet_tail 12 (by kernel_rfl) (by kernel_rfl) ?_
     simp only [List.take_succ_cons,List.take_zero,List.drop_succ_cons,List.drop_zero]
     repeat (go_big_quiet_step (fail))
     refine wpQuiet_nil ?_
     intro _ ⟨nq,hw'⟩
     subst hw'
     go_wp2
     go_roundw
     case rel=>
      refine ⟨k+1,by omega,by omega,by go_num,?_,nd2,(HF.out.drewN nq).setCell (.inl rfl) _⟩
      refine ((HR.out.drewN nq).set k _).congr (fun j _=>?_)
      by_cases e:j=k
      ·subst e;rw [if_pos rfl,if_pos (show K0<=j/\j<j+1 by omega)]
      ·rw [if_neg e]
       by_cases e2:K0<=j/\j<k
       ·rw [if_pos e2,if_pos (show K0<=j/\j<k+1 by omega)]
       ·rw [if_neg e2,if_neg (show ¬(K0<=j/\j<k+1) by omega)]
     case measure=>simp [intOf];omega
    ·have hkn:k=n2:=by omega
     subst hkn
     have d5:decide (k<k)=false:=by simp
     clear hr hfr
     go_wp2
     go_end0
     refine ⟨rfl,_,HR.out.ba (fun j hj=>?_) (fun i hi=>?_),HC.out.trans ⟨(((Fr.refl _ _).drewN nd2).trans (HF.out.mono (fun r hr=> .inr (by subst hr;rfl)))),.inl rfl⟩⟩
     ·by_cases e:K0<=j/\j<k
      ·rw [if_pos e,HG2.out j hj,<- pk_or,pk_out HM.out (by rw [<- HN.out];omega)]
       simp
      ·rw [if_neg e]
       have hjn:j<K0:=by rw [<- HN2.out]at hj;omega
       rw [if_pos hjn,HG.out j hj,HG2.out j hj,pk_or]
     ·rw [HM.out i (by omega),HM2.out i hi];rfl
theorem ipUnion_x3(b b2 L2:Nat)(v v2:Value)(m m2:Nat->Bool)(w:World)(hL:0<L2)(h:BA w b v 0 m)(k2:BA w b2 v2 L2 m2)(hs:Sep b v b2 v2):
  Calls Tryz.prog 54 #[.pointer (some ⟨b,0,none⟩),.pointer (some ⟨b2,0,none⟩)] w (MutA w b v L2 (fun i=>m i||m2 i) (.tuple #[])):=by
 have hl2:=k2.2.lim
 have a0:=hp_cell h.2.blk 0 (v:= .int .u64 ((0:Nat):Int)) rfl
 have b0:=hp_cell k2.2.blk 0 (v:= .int .u64 L2) rfl
 have hm:=h.1
 obtain ⟨n2,hn2⟩:∃n,n=nw L2:=⟨_,rfl⟩
 have hnb:n2<=1000:=by subst hn2;unfold nw;omega
 have hn1:1<=n2:=by subst hn2;unfold nw;omega
 have hw1:∀w:World,w.cell? ⟨b,0,none⟩=some (.int .u64 ((0:Nat):Int))->Calls Tryz.prog 101 #[.pointer (some ⟨b,0,none⟩)] w fun e w'=>e= .returned (.int .i64 0)/\w'=w:=fun w h=>wordCount_c b 0 w (by omega) h
 have hw2:∀w:World,w.cell? ⟨b2,0,none⟩=some (.int .u64 (L2:Int))->Calls Tryz.prog 101 #[.pointer (some ⟨b2,0,none⟩)] w fun e w'=>e= .returned (.int .i64 (n2:Int))/\w'=w:=fun w h=>by rw [hn2];exact wordCount_c b2 L2 w (by omega) h
 have HW1:=Lib.hid hw1;have HW2:=Lib.hid hw2
 have HH:=Lib.hid h;have HK:=Lib.hid k2;have HSP:=Lib.hid hs;have HM:=Lib.hid hm
 have HN2:=Lib.hid hn2
 have A0:=Lib.hid a0;have B00:=Lib.hid b0
 clear hw1 hw2 h k2 hs hm hn2
 have hL20:0<L2:=hL
 have d1:decide ((0:Int)<(n2:Int))=true:=by simp;omega
 have d1':0<n2:=hn1
 have d2:decide ((0:Int)<(L2:Int))=true:=by simp;omega
 have d3:decide ((0:Int)<=(L2:Int)-1)=true:=by simp;omega
 have p1:(1:Int)<=(L2:Int):=by omega
 go_enter Tryz.func54,Tryz.ntmps54
 go_wp2_with (go_at_call 103;refine (panicIfNull_c _ _).mono ?_;rintro e w' ⟨rfl,rfl⟩)
 refine (HW2.out _ B00.out).mono ?_
 rintro e w' ⟨rfl,rfl⟩
 go_wp2_with (fail)
 refine (HW1.out _ A0.out).mono ?_
 rintro e w' ⟨rfl,rfl⟩
 go_wp2_with (fail)
 refine (HW1.out _ A0.out).mono ?_
 rintro e w' ⟨rfl,rfl⟩
 go_wp2
 go_quiet (fail)
 go_wp2_with (go_at_call 100;refine (extA_e b L2 0 v m _ hL hl2 (HH.out.drewN _)).mono ?_;rintro e w1 ⟨rfl,v1,hba,hch0⟩;refine Hid.out ?_)
 refine Lib.hid ?_
 clear a0 b0
 have hch:Ch w' w1 b v v1:=(⟨(Fr.refl _ _).drewN _,.inl rfl⟩:Ch w' (w'.drewN nq) b v v).trans hch0
 clear hch0
 have hsp1:=HSP.out.step hch HK.out
 have k1:=HK.out.keep hch.fr (fun r hr hr2=>HSP.out r hr2 hr)
 obtain ⟨s,c,g,rfl,r,hg,hm1⟩:=hba.rs (by omega)
 obtain ⟨s2,c2,g2,rfl,r2,hg2,hm2⟩:=k1.rs (by omega)
 have hss:¬s2=s:=fun e=>hsp1 s (.inr rfl) (.inr (by rw [e];rfl))
 have hbs:s≠b2:=fun e=>hsp1 s (.inr rfl) (.inl e)
 have HC:=Lib.hid hch
 have a0:=r.h0
 have a1:=r.h1
 have b0:=r2.h0
 have b1:=r2.h1
 have hl:=r.hl
 rw [<- HN2.out]at a1 b1
 have R:=Lib.hid r;have R2:=Lib.hid r2;have HG:=Lib.hid hg;have HG2:=Lib.hid hg2;have HM2:=Lib.hid hm2
 have B0:=Lib.hid b0;have B1:=Lib.hid b1
 clear r r2 hg hg2 hm2 hm1 hch hsp1 k1 hba HSP HK HH
 go_wp2
 go_loopw [8] (fun i wr=>∃k:Nat,0<=k/\k<=n2/\i= .int .i64 (k:Int)/\RS wr b s L2 c (fun j=>if 0<=j/\j<k then g2 j else g j)/\∃nd,Fr (· =s) (w1.drewN nd) wr) (fun i _=>n2-(intOf i).toNat)
 case atStart=>exact ⟨0,Nat.le_refl _,by omega,by first|rfl|go_num,R.out.congr (fun j _=>(if_neg (show ¬(0<=j/\j<0) by omega)).symm),0,(Fr.refl _ _)⟩
 case round=>
  obtain ⟨k,hlo,hk,rfl,hr,nd2,hfr⟩:=hrel
  have HF:=Lib.hid hfr
  have HR:=Lib.hid hr
  have x0:=hr.h0
  have x1:=hr.h1
  rw [<- HN2.out]at x1
  have y0:=(hfr.cell (a:=⟨b2,0,none⟩) (hp_lt R2.out.hb) (fun e=>hbs e.symm)).trans B0.out
  have y1:=(hfr.cell (a:=⟨b2,1,none⟩) (hp_lt R2.out.hb) (fun e=>hbs e.symm)).trans B1.out
  by_cases hlt:k<n2
  ·have c0:=hr.at (i:=k) (by rw [<- HN2.out];exact hlt)
   have f0:=hr.fr k
   have c1:=(hfr.cell (a:=⟨s2,k,none⟩) R2.out.hs.lt hss).trans (R2.out.at (i:=k) (by rw [<- HN2.out];exact hlt))
   clear hr hfr
   go_wp2
   refine wp_region_quiet_tail 12 (by kernel_rfl) (by kernel_rfl) ?_
   simp only [List.take_succ_cons,List.take_zero,List.drop_succ_cons,List.drop_zero]
   repeat (go_big_quiet_step (fail))
   refine wpQuiet_nil ?_
   intro _ ⟨nq,hw'⟩
   subst hw'
   go_wp2
   go_roundw
   case rel=>
    refine ⟨k+1,by omega,by omega,by go_num,?_,nd2,(HF.out.drewN nq).setCell (.inl rfl) _⟩
    refine ((HR.out.drewN nq).set k _).congr (fun j _=>?_)
    by_cases e:j=k
    ·subst e;rw [if_pos rfl,if_pos (show 0<=j/\j<j+1 by omega)]
    ·rw [if_neg e]
     by_cases e2:0<=j/\j<k
     ·rw [if_pos e2,if_pos (show 0<=j/\j<k+1 by omega)]
     ·rw [if_neg e2,if_neg (show ¬(0<=j/\j<k+1) by omega)]
   case measure=>simp [intOf];omega
  ·have hkn:k=n2:=by omega
   subst hkn
   have d5:decide (k<k)=false:=by simp
   clear hr hfr
   go_wp2
   go_end0
   refine ⟨rfl,_,HR.out.ba (fun j hj=>?_) (fun i hi=>?_),HC.out.trans ⟨(((Fr.refl _ _).drewN nd2).trans (HF.out.mono (fun r hr=> .inr (by subst hr;rfl)))),.inl rfl⟩⟩
   ·by_cases e:0<=j/\j<k
    ·rw [if_pos e,HG2.out j hj,<- pk_or,pk_out HM.out (by unfold nw;omega)]
     simp
    ·rw [if_neg e]
     have hjn:j<0:=by rw [<- HN2.out]at hj;omega
     exact absurd hjn (Nat.not_lt_zero _)
   ·rw [HM.out i (by omega),HM2.out i hi];rfl
theorem ipUnion_x4(b b2 L:Nat)(v v2:Value)(m m2:Nat->Bool)(w:World)(h:BA w b v L m)(k2:BA w b2 v2 0 m2):
  Calls Tryz.prog 54 #[.pointer (some ⟨b,0,none⟩),.pointer (some ⟨b2,0,none⟩)] w (MutA w b v L (fun i=>m i||m2 i) (.tuple #[])):=by
 have hl:=h.2.lim
 have a0:=hp_cell h.2.blk 0 (v:= .int .u64 L) rfl
 have b0:=hp_cell k2.2.blk 0 (v:= .int .u64 ((0:Nat):Int)) rfl
 have hv:∃a c,v2= .slice a 0 c:=by
  rcases k2.2.arr with ⟨_,rfl⟩|⟨s,c,rfl,_⟩
  ·exact ⟨_,_,rfl⟩
  ·exact ⟨_,_,rfl⟩
 obtain ⟨a2,c2,rfl⟩:=hv
 have b1:=hp_cell k2.2.blk 1 (v:= .slice a2 0 c2) rfl
 have he:(fun i=>m i||m2 i)=m:=by funext i;rw [k2.1 i (Nat.zero_le _)];simp
 rw [he]
 have hw1:∀w:World,w.cell? ⟨b,0,none⟩=some (.int .u64 (L:Int))->Calls Tryz.prog 101 #[.pointer (some ⟨b,0,none⟩)] w fun e w'=>e= .returned (.int .i64 (nw L:Nat))/\w'=w:=fun w h=>wordCount_c b L w (by omega) h
 have hw2:∀w:World,w.cell? ⟨b2,0,none⟩=some (.int .u64 ((0:Nat):Int))->Calls Tryz.prog 101 #[.pointer (some ⟨b2,0,none⟩)] w fun e w'=>e= .returned (.int .i64 0)/\w'=w:=fun w h=>wordCount_c b2 0 w (by omega) h
 have HH:=Lib.hid h
 have HW1:=Lib.hid hw1;have HW2:=Lib.hid hw2
 have A0:=Lib.hid a0;have B0:=Lib.hid b0
 clear hw1 hw2 h k2 he
 have d1:decide (((nw L:Nat):Int)<0)=false:=by simp;omega
 go_enter Tryz.func54,Tryz.ntmps54
 go_wp2_with (go_at_call 103;refine (panicIfNull_c _ _).mono ?_;rintro e w' ⟨rfl,rfl⟩)
 refine (HW2.out _ B0.out).mono ?_
 rintro e w' ⟨rfl,rfl⟩
 go_wp2_with (fail)
 refine (HW1.out _ A0.out).mono ?_
 rintro e w' ⟨rfl,rfl⟩
 go_wp2
 go_quiet (fail)
 go_wp2
 go_end0
 exact ⟨rfl,v,HH.out.drewN _,⟨(Fr.refl _ _).drewN _,.inl rfl⟩⟩
theorem ipUnion_c(b b2 L L2:Nat)(v v2:Value)(m m2:Nat->Bool)(w:World)(h:BA w b v L m)(k2:BA w b2 v2 L2 m2)(hs:(b2=b/\m2=m)\/Sep b v b2 v2):
  Calls Tryz.prog 54 #[.pointer (some ⟨b,0,none⟩),.pointer (some ⟨b2,0,none⟩)] w (MutA w b v (max L L2) (fun i=>m i||m2 i) (.tuple #[])):=by
 by_cases h0:L2=0
 ·subst h0
  rw [Nat.max_eq_left (by omega)]
  exact ipUnion_x4 b b2 L v v2 m m2 w h k2
 ·by_cases hL:L2<=L
  ·rw [Nat.max_eq_left hL]
   exact ipUnion_x1 b b2 L L2 v v2 m m2 w (by omega) hL h k2 hs
  ·rw [Nat.max_eq_right (by omega)]
   have hsp:Sep b v b2 v2:=by
    rcases hs with ⟨rfl,_⟩|hs
    ·have:=(h.same k2).2;omega
    ·exact hs
   by_cases hz:L=0
   ·subst hz;exact ipUnion_x3 b b2 L2 v v2 m m2 w (by omega) h k2 hsp
   ·by_cases e:nw L=nw L2
    ·exact ipUnion_x2e b b2 L L2 v v2 m m2 w (by omega) (by omega) e h k2 hsp
    ·exact ipUnion_x2m b b2 L L2 v v2 m m2 w (by omega) (by omega) (by unfold nw at *;omega) h k2 hsp
end Go.Proofs.YtobdfhlmipcjbaaGreatDoor
