/- impl.Script: the four new sets. impl.Script: what is told so far. impl.Script: steps that may be. -/
import Derived.Test.YtobdfhlmipcjbaaGreatDoorG02
import Derived.Test.YtobdfhlmipcjbaaGreatDoorG06
import Derived.Test.YtobdfhlmipcjbaaGreatDoorG08
import Derived.Test.YtobdfhlmipcjbaaGreatDoorG09
import Derived.Test.YtobdfhlmipcjbaaGreatDoorG10
import Derived.Test.YtobdfhlmipcjbaaGreatDoorG11
import Derived.Test.YtobdfhlmipcjbaaGreatDoorG12
import Derived.Test.YtobdfhlmipcjbaaGreatDoorG13
import Derived.Test.YtobdfhlmipcjbaaGreatDoorG14
import Derived.Test.YtobdfhlmipcjbaaGreatDoorG15
import Derived.Test.YtobdfhlmipcjbaaGreatDoorG16
import Derived.Test.YtobdfhlmipcjbaaGreatDoorG18
import Derived.Test.YtobdfhlmipcjbaaGreatDoorG19
import Derived.Test.YtobdfhlmipcjbaaGreatDoorG21
import Derived.Test.YtobdfhlmipcjbaaGreatDoorG22
import Derived.Test.YtobdfhlmipcjbaaGreatDoorG23
import Derived.Test.YtobdfhlmipcjbaaGreatDoorG24
import Derived.Test.YtobdfhlmipcjbaaGreatDoorG25
import Derived.Test.YtobdfhlmipcjbaaGreatDoorG26
import Derived.Test.YtobdfhlmipcjbaaGreatDoorG27
import Derived.Test.YtobdfhlmipcjbaaGreatDoorG28
import Derived.Test.YtobdfhlmipcjbaaGreatDoorG30
import Derived.Test.YtobdfhlmipcjbaaGreatDoorG31
import Derived.Test.YtobdfhlmipcjbaaGreatDoorG33
import Derived.Test.YtobdfhlmipcjbaaGreatDoorG34
import Derived.Test.YtobdfhlmipcjbaaGreatDoorG39
import Derived.Test.YtobdfhlmipcjbaaGreatDoorG40
import Derived.Test.YtobdfhlmipcjbaaGreatDoorG41
set_option linter.unusedVariables false
set_option linter.unusedSimpArgs false
set_option maxRecDepth 100000
namespace Go.Proofs.YtobdfhlmipcjbaaGreatDoor
open Go.RowKit
theorem info73:(Tryz.prog.info? 73).map (fun i=>(i.zero,i.size,i.bytes))=some (some (.pointer none),1,8):=by kernel_rfl
def setO:Obj:= .cells #[.int .u64 0,.slice none 0 0] 75
structure New4(w0 w:World)(v:Value)(k:Nat)(bk:Nat->Nat):Prop where
 lst:Lst w 73 1 v k ((List.range k).map fun i=>Value.pointer (some ⟨bk i,0,none⟩))
 blk:∀i,i<k->w.heap[bk i]? =some setO/\w0.heap.size<=bk i/\v.ownBlock≠some (bk i)
 inj:∀i j,i<k->j<k->bk i=bk j->i=j
 own:∀r,v.ownBlock=some r->w0.heap.size<=r
 fr:Fr (fun _=>False) w0 w
theorem New4.step{w0 wr w1:World}{v v1:Value}{k:Nat}{bk:Nat->Nat}(h:New4 w0 wr v k bk)
  (hv:Lst w1 73 1 v1 (k+1) ((List.range k).map (fun i=>Value.pointer (some ⟨bk i,0,none⟩))++ [.pointer (some ⟨wr.heap.size,0,none⟩)]))
  (hf:Fr (fun r=>v.ownBlock=some r) ((wr.alloc setO).alloc (.cells #[.pointer (some ⟨wr.heap.size,0,none⟩)] 73)) w1)
  (ha:v1.ownBlock=v.ownBlock\/v1.ownBlock=some ((wr.alloc setO).alloc (.cells #[.pointer (some ⟨wr.heap.size,0,none⟩)] 73)).heap.size):New4 w0 w1 v1 (k+1) (upd bk k wr.heap.size):=by
 have hsz:((wr.alloc setO).alloc (.cells #[.pointer (some ⟨wr.heap.size,0,none⟩)] 73)).heap.size=wr.heap.size+1+1:=by simp
 rw [hsz]at ha
 have hol:=h.lst.own_lt
 have h0:=h.fr.size
 have hlt:∀i,i<k->bk i<wr.heap.size:=fun i hi=>hp_lt (h.blk i hi).1
 have hf2:Fr (fun _=>False) wr ((wr.alloc setO).alloc (.cells #[.pointer (some ⟨wr.heap.size,0,none⟩)] 73)):=((Fr.refl _ wr).alloc _).alloc _
 have hn:∀i,i<k+1->(i=k/\upd bk k wr.heap.size i=wr.heap.size)\/(i<k/\upd bk k wr.heap.size i=bk i):=by
  intro i hi
  unfold upd
  by_cases e:i=k
  ·exact .inl ⟨e,if_pos e⟩
  ·exact .inr ⟨by omega,if_neg e⟩
 refine ⟨?_,?_,?_,?_,?_⟩
 ·rw [List.range_succ,List.map_append]
  have e1:(List.range k).map (fun i=>Value.pointer (some ⟨upd bk k wr.heap.size i,0,none⟩))=(List.range k).map (fun i=>Value.pointer (some ⟨bk i,0,none⟩)):=by
   apply List.map_congr_left
   intro i hi
   have:=List.mem_range.1 hi
   unfold upd;rw [if_neg (by omega)]
  rw [e1]
  have e2: [k].map (fun i=>Value.pointer (some ⟨upd bk k wr.heap.size i,0,none⟩))= [.pointer (some ⟨wr.heap.size,0,none⟩)]:=by
   unfold upd;simp
  rw [e2];exact hv
 ·intro i hi
  rcases hn i hi with ⟨e,e2⟩|⟨e,e2⟩
  ·rw [e2]
   refine ⟨(hf.keep _ (by omega) (fun hh=>by have:=hol _ hh;omega)).trans (alloc_at (hp_new wr setO) _),by omega,fun hh=>?_⟩
   rcases ha with ha|ha
   ·rw [ha]at hh;have:=hol _ hh;omega
   ·rw [ha]at hh;injection hh with hh;omega
  ·rw [e2]
   obtain ⟨b1,b2,b3⟩:=h.blk i e
   have:=hlt i e
   refine ⟨(hf.keep _ (by omega) b3).trans (alloc_at (alloc_at b1 _) _),b2,fun hh=>?_⟩
   rcases ha with ha|ha
   ·rw [ha]at hh;exact b3 hh
   ·rw [ha]at hh;injection hh with hh;omega
 ·intro i j hi hj
  rcases hn i hi with ⟨e,e2⟩|⟨e,e2⟩ <;> rcases hn j hj with ⟨f,f2⟩|⟨f,f2⟩ <;> rw [e2,f2] <;> intro hh
  ·omega
  ·have:=hlt j f;omega
  ·have:=hlt i e;omega
  ·exact h.inj i j e f hh
 ·intro r hr
  rcases ha with ha|ha
  ·exact h.own r (by rw [<- ha];exact hr)
  ·rw [ha]at hr;injection hr with hr;omega
 ·exact (h.fr.trans hf2).trans' hf (fun r hr=> .inr (h.own r hr))
theorem New4.imp{w0 w:World}{v:Value}{bk:Nat->Nat}(h:New4 w0 w v 4 bk)(h8:8<=w0.heap.size)(hT:Tab64 w0)(hP:PowT w0):
  ∃R cR,v= .slice (some ⟨R,0,none⟩) 4 cR/\Imp w R w0.heap.size bk (fun _=> .slice none 0 0) (fun _=>[])/\∀r,SetT R bk (fun _=> .slice none 0 0) r->w0.heap.size<=r:=by
 obtain ⟨hl,hh⟩:=h.lst
 rcases hh with ⟨h0,_⟩|⟨R,cR,cur,rfl,hb,hg,hn,hc,hs,ht⟩
 ·exact absurd h0 (by omega)
 have hsrc:=h.lst.src
 obtain ⟨A,c,e1,_,hcell⟩:=hsrc
 cases e1
 obtain ⟨ad,e2,hcell⟩:=hcell (by omega)
 cases e2
 have hown:∀i r,Own (bk i) (.slice none 0 0) r->r=bk i:=by
  rintro i r (rfl|hr)
  ·rfl
  ·cases hr
 refine ⟨R,cR,rfl,⟨⟨fun i hi=>?_,fun i hi=>?_⟩,fun i hi=>?_,fun i j hi hj hij r hr hr2=>?_,fun i hi r hr=>?_,⟨h8,h.own R rfl⟩,hT.keep h.fr (fun h=>h),hP.keep h.fr (fun h=>h)⟩,?_⟩
 ·have:=hcell i (.pointer (some ⟨bk i,0,none⟩)) (by rw [List.getElem?_map,List.getElem?_range hi];rfl)
  rw [add_at,Nat.zero_add]at this
  exact this
 ·exact hp_free hg i
 ·refine ⟨fun j _=>by rfl,⟨?_,by simp,.inl ⟨rfl,rfl⟩⟩⟩
  exact (h.blk i hi).1
 ·have h1:=hown i r hr
  have h2:=hown j r hr2
  exact hij (h.inj i j hi hj (by rw [<- h1,<- h2]))
 ·have h1:=hown i r hr
  obtain ⟨b1,b2,b3⟩:=h.blk i hi
  rw [h1]
  exact ⟨fun e=>b3 (by rw [e];rfl),b2⟩
 ·rintro r (rfl|⟨i,hi,hr⟩)
  ·exact h.own r rfl
  ·rw [hown i r hr];exact (h.blk i hi).2.1
def toldL(op:Int)(A:AnsD)(n:Nat)(l b:Value):List Value:=[.int .i64 op,.bool A.is,.int .u64 (n:Int),.int .u64 (wn A.wd),.string A.s,l,b]
def TolE(w:World)(P:Nat->Prop)(op:Int)(A:AnsD)(x:List Value):Prop:=
 ∃(n:Nat) (l b:Value),x=toldL op A n l b/\(A.is=true\/op<53\/56<op->n=A.n)/\Lst w 28 1 l A.xs.length A.xs/\Lst w 5 1 b A.bs.length A.bs/\∀r,l.ownBlock=some r\/b.ownBlock=some r->P r
structure ScI(w0 w:World)(R G:Nat)(bk:Nat->Nat)(vk:Nat->Value)(op:Nat->Int)(lq:Nat->Nat->List Bool)(Aq:Nat->AnsD)(xs:Nat->List Value)(v:Value)(k:Nat):Prop where
 imp:Imp w R G bk vk (lq k)
 lst:Lst w 50 7 v k ((List.range k).flatMap xs)
 tol:∀i,i<k->TolE w (fun r=>G<=r/\r<w.heap.size/\¬SetT R bk vk r/\v.ownBlock≠some r) (op i) (Aq i) (xs i)
 own:∀r,v.ownBlock=some r->G<=r/\¬SetT R bk vk r
 fr:Fr (fun _=>False) w0 w
 ge:w0.heap.size<=G
theorem TolE.keep{w w':World}{T P P':Nat->Prop}{op:Int}{A:AnsD}{x:List Value}(h:TolE w P op A x)(k:Fr T w w')(hT:∀r,P r->¬T r)(hP:∀r,P r->P' r):TolE w' P' op A x:=by
 obtain ⟨n,l,b,hx,hn,hl,hb,ho⟩:=h
 exact ⟨n,l,b,hx,hn,hl.keep k (fun r hr=>hT r (ho r (.inl hr))),hb.keep k (fun r hr=>hT r (ho r (.inr hr))),fun r hr=>hP r (ho r hr)⟩
theorem ScI.quiet{w0 w w':World}{R G k:Nat}{bk:Nat->Nat}{vk:Nat->Value}{op:Nat->Int}{lq:Nat->Nat->List Bool}{Aq:Nat->AnsD}{xs:Nat->List Value}{v:Value}(h:ScI w0 w R G bk vk op lq Aq xs v k)(f:Fr (fun _=>False) w w'):ScI w0 w' R G bk vk op lq Aq xs v k:=
 ⟨h.imp.keep f (fun _ _ h=>h) (fun _ _ h=>h),h.lst.keep f (fun _ _ h=>h),fun i hi=>(h.tol i hi).keep f (fun _ _ h=>h) (fun r ⟨a,b,c⟩=>⟨a,Nat.lt_of_lt_of_le b f.size,c⟩),h.own,h.fr.trans f,h.ge⟩
theorem ScI.step{w0 w w2:World}{R G k:Nat}{bk:Nat->Nat}{vk:Nat->Value}{op:Nat->Int}{lq:Nat->Nat->List Bool}{Aq:Nat->AnsD}{xs:Nat->List Value}{v:Value}{e:Ending}
  (h:ScI w0 w R G bk vk op lq Aq xs v k) (hi:ImpP w R G bk vk (op k) (Aq k) (lq (k+1)) e w2):
  ∃(n:Nat) (l b:Value),e= .returned (tldV (op k) (Aq k).is (n:Int) (wn (Aq k).wd) (Aq k).s l b)/\(∃A c,l= .slice A (Aq k).xs.length c)/\(∃A c,b= .slice A (Aq k).bs.length c)/\Lst w2 50 7 v k ((List.range k).flatMap xs)/\
   ∀(w3:World) (v':Value) (row:Obj),Lst w3 50 7 v' (k+1) ((List.range k).flatMap xs++toldL (op k) (Aq k) n l b)->Fr (fun r=>v.ownBlock=some r) (w2.alloc row) w3->(v'.ownBlock=v.ownBlock\/v'.ownBlock=some (w2.alloc row).heap.size)->
    ∃bk' vk',ScI w0 w3 R G bk' vk' op lq Aq (upd xs k (toldL (op k) (Aq k) n l b)) v' (k+1):=by
 obtain ⟨n,l,b,he,hn,hl,hb,bk',vk',h1,h2,h3,h4⟩:=hi
 have hlt:=h.lst.own_lt
 have hG:=h.ge
 have h0:=h.fr.size
 have hv2:=h.lst.keep h2 (fun r hr=>(h.own r hr).2)
 have hs2:=h2.size
 refine ⟨n,l,b,he,hl.sl,hb.sl,hv2,fun w3 v' row hv' hf ha=>⟨bk',vk',?_⟩⟩
 have hsz:(w2.alloc row).heap.size=w2.heap.size+1:=by simp
 rw [hsz]at ha
 have hs3:=hf.size
 rw [hsz]at hs3
 have hfa:Fr (fun _=>False) w2 (w2.alloc row):=(Fr.refl _ w2).alloc row
 have f23:Fr (fun r=>v.ownBlock=some r) w2 w3:=(hfa.mono (fun r (h:False)=>h.elim)).trans hf
 have hset:∀r,SetT R bk' vk' r->r<w2.heap.size/\v.ownBlock≠some r:=fun r hr=>⟨(h1.lt hr).1,fun e=>by
  rcases h3 r hr with h5|h5
  ·exact (h.own r e).2 h5
  ·have:=hlt r e;omega⟩
 have hown':∀r,v'.ownBlock=some r->v.ownBlock=some r\/r=w2.heap.size+1:=fun r hr=>by
  rcases ha with e|e
  ·exact .inl (by rw [<- e];exact hr)
  ·rw [e]at hr;injection hr with hr;exact .inr hr.symm
 have hfl:(List.range (k+1)).flatMap (upd xs k (toldL (op k) (Aq k) n l b))=(List.range k).flatMap xs++toldL (op k) (Aq k) n l b:=by
  rw [List.range_succ,List.flatMap_append]
  congr 1
  ·rw [List.flatMap_def,List.flatMap_def]
   congr 1
   apply List.map_congr_left
   intro i hi
   have:=List.mem_range.1 hi
   unfold upd;rw [if_neg (by omega)]
  ·unfold upd;simp
 refine ⟨h1.keep f23 (fun r hr hr2=>(hset r hr).2 hr2) (fun r hr hr2=>?_),by rw [hfl];exact hv',fun i hik=>?_,fun r hr=>?_,?_,hG⟩
 ·have:=(h.own r hr2).1;have:=h.imp.base;omega
 ·by_cases e:i=k
  ·subst e
   rw [show upd xs i (toldL (op i) (Aq i) n l b) i=toldL (op i) (Aq i) n l b by unfold upd;rw [if_pos rfl]]
   have hl2:=hl.own_lt
   have hb2:=hb.own_lt
   have hbd:∀r,l.ownBlock=some r\/b.ownBlock=some r->w.heap.size<=r/\¬SetT R bk' vk' r/\r<w2.heap.size:=fun r hr=>⟨(h4 r hr).1,(h4 r hr).2,hr.elim (hl2 r) (hb2 r)⟩
   refine ⟨n,l,b,rfl,hn,hl.keep f23 (fun r hr hr2=>?_),hb.keep f23 (fun r hr hr2=>?_),fun r hr=>?_⟩
   ·have:=hlt r hr2;have:=(hbd r (.inl hr)).1;omega
   ·have:=hlt r hr2;have:=(hbd r (.inr hr)).1;omega
   ·obtain ⟨a1,a2,a3⟩:=hbd r hr
    have hGw:=(h.imp.lt (.inl rfl)).2
    have hRw:=(h.imp.lt (R:=R) (.inl rfl)).1
    refine ⟨by omega,by omega,a2,fun e=>?_⟩
    rcases hown' r e with e2|e2
    ·have:=hlt r e2;omega
    ·omega
  ·rw [show upd xs k (toldL (op k) (Aq k) n l b) i=xs i by unfold upd;rw [if_neg e]]
   have ht:=(h.tol i (by omega)).keep h2 (fun r hr=>hr.2.2.1) (P':=fun r=>G<=r/\r<w.heap.size/\¬SetT R bk' vk' r/\v.ownBlock≠some r) (fun r ⟨a1,a2,a3,a4⟩=>⟨a1,a2,fun hs=>by
    rcases h3 r hs with h5|h5
    ·exact a3 h5
    ·omega,a4⟩)
   refine ht.keep f23 (fun r hr=>hr.2.2.2) (fun r ⟨a1,a2,a3,a4⟩=>⟨a1,by omega,a3,fun e=>?_⟩)
   rcases hown' r e with e2|e2
   ·exact a4 e2
   ·omega
 ·rcases hown' r hr with e|e
  ·refine ⟨(h.own r e).1,fun hs=>(hset r hs).2 e⟩
  ·have hRw:=h.imp.lt (R:=R) (.inl rfl)
   refine ⟨by omega,fun hs=>?_⟩
   have:=(hset r hs).1;omega
 ·have hw2:Fr (fun _=>False) w0 w2:=h.fr.trans' h2 (fun r hr=> .inr (by have:=(h.imp.lt hr).2;omega))
  exact hw2.trans' f23 (fun r hr=> .inr (by have:=(h.own r hr).1;omega))
def StD.ok(s:StD):Prop:=s.a<4/\s.b<4/\s.c<4/\s.fr<=2000/\s.to<=2000/\s.n<=2000/\s.ws.length<=20/\Known s.op
theorem right_ok(s:StD)(hs:s.ok){w:World}{R G cR:Nat}{bk:Nat->Nat}{vk:Nat->Value}{ls:Nat->List Bool}(h:Imp w R G bk vk ls)(hl:∀i,i<4->(ls i).length<=3000)(oM:Option Addr)(cM:Nat):
  Calls Tryz.prog 29 #[s.v (.slice oM s.ws.length cM),.slice (some ⟨R,0,none⟩) 4 cR] w fun e w'=>e= .returned (.bool true)/\Fr (fun _=>False) w w':=by
 obtain ⟨op,a,b,c,fr,to,n,wd,ws⟩:=s
 obtain ⟨ha,hb,hc,hfr,hto,hn,hM,hk⟩:=hs
 dsimp only at*
 rcases hk with hk|hk
 ·by_cases e:op=24
  ·subst e
   exact right_24 a b c fr to n R cR _ cM oM wd w ha hb hc hfr hto hn hM (bk a) _ (h.row.cell a ha) (hp_cell (h.set a ha).2.blk 0 rfl) (hl a ha)
  ·exact right_lo op a b c fr to n R cR _ cM oM wd w ⟨hk.1,hk.2,e⟩ ha hb hc hfr hto hn hM
 ·exact right_hi op a b c fr to n R cR _ cM oM wd w hk ha hb hc hfr hto hn hM
structure StdR(w:World)(A:Option Addr)(N:Nat)(ss:Nat->StD)(mv:Nat->Value):Prop where
 at_:0<N->∃sb so,A=some ⟨sb,so,none⟩/\∀i,i<N->Nine w sb (so+i*9) (ss i).op ((ss i).a:Int) ((ss i).b:Int) ((ss i).c:Int) (ss i).fr (ss i).to (ss i).n (ss i).wd (mv i)
 ws:∀i,i<N->Src w 1 (mv i) (ss i).ws.length ((ss i).ws.map WV)
structure AOK(A:AnsD):Prop where
 n:A.n<9000000000000000000
 xs:∃ys:List (BitVec 64),A.xs=ys.map WV/\ys.length<=100000
 bs:∃zs:List Int,A.bs=zs.map (fun z=>Value.int .u8 z)
theorem AOK.mk0{is:Bool}{n:Nat}{wd:BitVec 64}{s:ByteArray}(h:n<9000000000000000000):AOK ⟨is,n,wd,s,[],[]⟩:=⟨h,⟨[],rfl,by simp⟩,⟨[],rfl⟩⟩
structure JoT(w w':World)(s:StD)(ls ls':Nat->List Bool)(A:AnsD)(l b:Value):Prop where
 ok:StepOK s ls ls' A
 len:∀i,i<4->(ls' i).length<=3000
 aok:AOK A
 lst:Lst w' 29 1 l A.xs.length A.xs
 bst:Lst w' 5 1 b A.bs.length A.bs
 own:∀r,l.ownBlock=some r\/b.ownBlock=some r->w.heap.size<=r
def ansE(A:AnsD)(l b:Value):Value:=ansV A.is (A.n:Int) A.wd A.s l b
def JoD(s:StD)(w:World)(B:Nat)(ls:Nat->List Bool)(e:Ending)(w':World):Prop:=
 Fr (· =B) w w'/\((∃is n z s,e= .returned (.tuple #[.agg #[.bool is,.int .i64 n,.int .u64 z,.string s,nilV,nilV],.bool false]))\/∃ls' vs' A l b,e= .returned (.tuple #[ansE A l b,.bool true])/\JoT w w' s ls ls' A l b/\Sets w' B vs' ls')
theorem jdFin{s:StD}{w w':World}{B t:Nat}{vs:Nat->Value}{ls:Nat->List Bool}{l:List Bool}{e:Ending}{is:Bool}{nn:Nat}{n:Int}{A:AnsD}(h:AnsP is n w B vs ls t l e w')(hA:StepOK s ls (upd ls t l) A)(hAe:A=⟨is,nn,0,{ data:= #[] },[],[]⟩)(hn:n=(nn:Int))(hb:nn<9000000000000000000)
  (h3:∀i,i<4->(ls i).length<=3000):JoD s w B ls e w':=by
 obtain ⟨rfl,v,hs,hf⟩:=h
 refine ⟨hf,?_⟩
 subst hAe;subst hn
 by_cases hl:l.length<=3000
 ·rw [decide_eq_true hl]
  refine .inr ⟨_,_,_,nilV,nilV,rfl,⟨hA,fun i hi=>?_,.mk0 hb,Lst.nil _ 29 1,Lst.nil _ 5 1,by rintro r (h|h) <;> cases h⟩,hs⟩
  unfold upd;split
  ·exact hl
  ·exact h3 i hi
 ·rw [decide_eq_false hl];exact .inl ⟨_,_,_,_,rfl⟩
theorem jdSame{s:StD}{w w':World}{B t:Nat}{vs:Nat->Value}{ls:Nat->List Bool}{e:Ending}(h:e= .returned (.tuple #[ansV false 0 0 ByteArray.empty (.slice none 0 0) (.slice none 0 0),.bool true])/\Fr (fun _=>False) w w')(hA:StepOK s ls (upd ls t (ls t)) ans0D)(hs:Sets w B vs ls)
  (h3:∀i,i<4->(ls i).length<=3000):JoD s w B ls e w':=by
 obtain ⟨rfl,hf⟩:=h
 rw [upd_same]at hA
 exact ⟨hf.mono (fun r (h:False)=>h.elim),.inr ⟨_,_,ans0D,nilV,nilV,rfl,⟨hA,h3,.mk0 (by decide),Lst.nil _ 29 1,Lst.nil _ 5 1,by rintro r (h|h) <;> cases h⟩,hs.keep hf (fun h=>h) (fun _ _ _ _ h=>h)⟩⟩
theorem jdNot{s:StD}{w w':World}{B:Nat}{ls:Nat->List Bool}{e:Ending}{z:Int}{s0:ByteArray}(h:e= .returned (.tuple #[.agg #[.bool false,.int .i64 0,.int .u64 z,.string s0,nilV,nilV],.bool false])/\Fr (fun _=>False) w w'):JoD s w B ls e w':=
 ⟨h.2.mono (fun r (h:False)=>h.elim),.inl ⟨_,_,_,_,h.1⟩⟩
theorem jo_do(s:StD)(oM:Option Addr)(cM:Nat)(w:World)(B:Nat)(vs:Nat->Value)(ls:Nat->List Bool)(hok:s.ok)(hop:s.op<40)(hs:Sets w B vs ls)(h3:∀i,i<4->(ls i).length<=3000)
  (hm:Src w 1 (.slice oM s.ws.length cM) s.ws.length (s.ws.map WV)):
  Calls Tryz.prog 6 #[stepV s.op s.a s.b s.c s.fr s.to s.n s.wd (.slice oM s.ws.length cM),.pointer (some ⟨B,0,none⟩)] w (JoD s w B ls):=by
 obtain ⟨op,a,b,c,fr,to,n,wd,ws⟩:=s
 obtain ⟨ha,hb,hc,hfr,hto,hn,hM,hk⟩:=hok
 dsimp only at*
 have la:=h3 a ha
 have lb:=h3 b hb
 have lc:=h3 c hc
 have ops:op=0\/op=1\/op=2\/op=3\/op=4\/op=5\/op=6\/op=7\/op=8\/op=9\/op=10\/op=11\/op=12\/op=13\/op=14\/op=15\/op=16\/op=17\/op=18\/op=19\/op=20\/op=21\/op=22\/op=23\/op=24\/op=25\/op=26\/op=27\/op=28\/op=29\/op=30:=by rcases hk with hk|hk <;> omega
 rcases ops with rfl|rfl|rfl|rfl|rfl|rfl|rfl|rfl|rfl|rfl|rfl|rfl|rfl|rfl|rfl|rfl|rfl|rfl|rfl|rfl|rfl|rfl|rfl|rfl|rfl|rfl|rfl|rfl|rfl|rfl|rfl
 ·exact (do_0 a b c fr to n B wd _ vs ls w ha hb hc hn hs).mono fun e w2 h=>jdFin (nn:=0) h (imp_0 ⟨0,a,b,c,fr,to,n,wd,ws⟩ ls ha hb hc hn la rfl) rfl rfl (by decide) h3
 ·exact (do_1 a b c fr to n B wd _ vs ls w ha hb hc hn hs).mono fun e w2 h=>jdFin (nn:=0) h (imp_1 ⟨1,a,b,c,fr,to,n,wd,ws⟩ ls ha hb hc hn la rfl) rfl rfl (by decide) h3
 ·cases ho:oddB wd
  ·exact (do_2 a b c fr to n B wd _ vs ls w ha hb hc hn hs).mono fun e w2 h=>jdFin (nn:=0) h (imp_2f ⟨2,a,b,c,fr,to,n,wd,ws⟩ ls ha hb hc hn la rfl ho) rfl rfl (by decide) h3
  ·exact (do_2 a b c fr to n B wd _ vs ls w ha hb hc hn hs).mono fun e w2 h=>jdFin (nn:=0) h (imp_2t ⟨2,a,b,c,fr,to,n,wd,ws⟩ ls ha hb hc hn la rfl ho) rfl rfl (by decide) h3
 ·exact (do_3 a b c fr to n B wd _ vs ls w ha hb hc hn la hs).mono fun e w2 h=>jdFin (nn:=0) h (imp_3 ⟨3,a,b,c,fr,to,n,wd,ws⟩ ls ha hb hc hn la rfl) rfl rfl (by decide) h3
 ·by_cases hd:fr<to
  ·exact (do_4 a b c fr to n B wd _ vs ls w ha hb hc hn hfr hto hd hs).mono fun e w2 h=>jdFin (nn:=0) h (imp_4 ⟨4,a,b,c,fr,to,n,wd,ws⟩ ls ha hb hc hn la rfl hto hd) rfl rfl (by decide) h3
  ·exact (do_4n a b c fr to n B wd _ vs ls w ha hb hc hn (Nat.le_of_not_lt hd) hs).mono fun e w2 h=>jdSame h (imp_4n ⟨4,a,b,c,fr,to,n,wd,ws⟩ ls ha hb hc hn la rfl hto (Nat.le_of_not_lt hd)) hs h3
 ·by_cases hd:fr<to
  ·exact (do_5 a b c fr to n B wd _ vs ls w ha hb hc hn hfr hto hd hs).mono fun e w2 h=>jdFin (nn:=0) h (imp_5 ⟨5,a,b,c,fr,to,n,wd,ws⟩ ls ha hb hc hn la rfl hto hd) rfl rfl (by decide) h3
  ·exact (do_5n a b c fr to n B wd _ vs ls w ha hb hc hn (Nat.le_of_not_lt hd) hs).mono fun e w2 h=>jdSame h (imp_5n ⟨5,a,b,c,fr,to,n,wd,ws⟩ ls ha hb hc hn la rfl hto (Nat.le_of_not_lt hd)) hs h3
 ·by_cases hd:n<(ls a).length
  ·exact (do_6 a b c fr to n B wd _ vs ls w ha hb hc hn hd la hs).mono fun e w2 h=>jdFin (nn:=0) h (imp_6 ⟨6,a,b,c,fr,to,n,wd,ws⟩ ls ha hb hc hn la rfl hd) rfl rfl (by decide) h3
  ·exact (do_6n a b c fr to n B wd _ vs ls w ha hb hc hn (Nat.le_of_not_lt hd) hs).mono fun e w2 h=>jdNot h
 ·by_cases hd:n<(ls a).length
  ·exact (do_7 a b c fr to n B wd _ vs ls w ha hb hc hn hd hs).mono fun e w2 h=>jdFin (nn:=0) h (imp_7 ⟨7,a,b,c,fr,to,n,wd,ws⟩ ls ha hb hc hn la rfl hd) rfl rfl (by decide) h3
  ·exact (do_7n a b c fr to n B wd _ vs ls w ha hb hc hn (Nat.le_of_not_lt hd) hs).mono fun e w2 h=>jdNot h
 ·by_cases hd:n+1<(ls a).length
  ·exact (do_8 a b c fr to n B wd _ vs ls w ha hb hc hn hd hs).mono fun e w2 h=>jdFin (nn:=0) h (imp_8 ⟨8,a,b,c,fr,to,n,wd,ws⟩ ls ha hb hc hn la rfl (Nat.lt_of_succ_lt hd)) rfl rfl (by decide) h3
  ·exact (do_8n a b c fr to n B wd _ vs ls w ha hb hc hn (Nat.le_of_not_lt hd) hs).mono fun e w2 h=>jdNot h
 ·by_cases hd:max 1 ((topN (mOf (ls a)) (ls a).length+63)/64)*64<(ls a).length
  ·exact (do_9 a b c fr to n B wd _ vs ls w ha hb hc hn hd hs).mono fun e w2 h=>jdFin (nn:=0) h (imp_9 ⟨9,a,b,c,fr,to,n,wd,ws⟩ ls ha hb hc hn la rfl hd) rfl rfl (by decide) h3
  ·exact (do_9n a b c fr to n B wd _ vs ls w ha hb hc hn (Nat.le_of_not_lt hd) hs).mono fun e w2 h=>jdSame h (imp_9n ⟨9,a,b,c,fr,to,n,wd,ws⟩ ls ha hb hc hn la rfl (Nat.le_of_not_lt hd)) hs h3
 ·exact (do_10 a b c fr to n B wd _ vs ls w ha hb hc hn hs).mono fun e w2 h=>jdFin (nn:=0) h (imp_10 ⟨10,a,b,c,fr,to,n,wd,ws⟩ ls ha hb hc hn la rfl) rfl rfl (by decide) h3
 ·exact (do_11 a b c fr to n B wd _ vs ls w ha hb hc hn hs).mono fun e w2 h=>jdFin (nn:=0) h (imp_11 ⟨11,a,b,c,fr,to,n,wd,ws⟩ ls ha hb hc hn la rfl) rfl rfl (by decide) h3
 ·exact (do_12 a b c fr to n B wd _ vs ls w ha hb hc hn hs).mono fun e w2 h=>jdFin (nn:=0) h (imp_12 ⟨12,a,b,c,fr,to,n,wd,ws⟩ ls ha hb hc hn la rfl) rfl rfl (by decide) h3
 ·exact (do_13 a b c fr to n B wd _ vs ls w ha hb hc hn hs).mono fun e w2 h=>jdFin (nn:=0) h (imp_13 ⟨13,a,b,c,fr,to,n,wd,ws⟩ ls ha hb hc hn la rfl) rfl rfl (by decide) h3
 ·exact (do_14 a b c fr to n B wd _ vs ls w ha hb hc hn hs).mono fun e w2 h=>jdFin (nn:=0) h (imp_14 ⟨14,a,b,c,fr,to,n,wd,ws⟩ ls ha hb hc hn la rfl) rfl rfl (by decide) h3
 ·exact (do_15 a b c fr to n B wd _ vs ls w ha hb hc hn hs).mono fun e w2 h=>jdFin (nn:=0) h (imp_15 ⟨15,a,b,c,fr,to,n,wd,ws⟩ ls ha hb hc hn la rfl) rfl rfl (by decide) h3
 ·exact (do_16 a b c fr to n B wd _ vs ls w ha hb hc hn hs).mono fun e w2 h=>jdFin (nn:=0) h (imp_16 ⟨16,a,b,c,fr,to,n,wd,ws⟩ ls ha hb hc hn la lb rfl) rfl rfl (by decide) h3
 ·exact (do_17 a b c fr to n B wd _ vs ls w ha hb hc hn hs).mono fun e w2 h=>jdFin (nn:=0) h (imp_17 ⟨17,a,b,c,fr,to,n,wd,ws⟩ ls ha hb hc hn la lb rfl) rfl rfl (by decide) h3
 ·exact (do_18 a b c fr to n B wd _ vs ls w ha hb hc hn hs).mono fun e w2 h=>jdFin (nn:=0) h (imp_18 ⟨18,a,b,c,fr,to,n,wd,ws⟩ ls ha hb hc hn la lb rfl) rfl rfl (by decide) h3
 ·exact (do_19 a b c fr to n B wd _ vs ls w ha hb hc hn hs).mono fun e w2 h=>jdFin (nn:=0) h (imp_19 ⟨19,a,b,c,fr,to,n,wd,ws⟩ ls ha hb hc hn la lb rfl) rfl rfl (by decide) h3
 ·exact (do_20 a b c fr to n B wd _ vs ls w ha hb hc hn hs).mono fun e w2 h=>jdFin (nn:=0) h (imp_20 ⟨20,a,b,c,fr,to,n,wd,ws⟩ ls ha hb hc hn la lb rfl) rfl rfl (by decide) h3
 ·exact (do_21 a b c fr to n B wd _ vs ls w ha hb hc hn hs).mono fun e w2 h=>jdFin (nn:=0) h (imp_21 ⟨21,a,b,c,fr,to,n,wd,ws⟩ ls ha hb hc hn la lb rfl) rfl rfl (by decide) h3
 ·exact (do_22 a b c fr to n B wd _ vs ls w ha hb hc hn hs).mono fun e w2 h=>jdFin (nn:=min (ls a).length (ls c).length) h (imp_22 ⟨22,a,b,c,fr,to,n,wd,ws⟩ ls ha hb hc rfl) rfl rfl (by omega) h3
 ·exact (do_23 a b c fr to n B wd _ vs ls w ha hb hc hn hs).mono fun e w2 h=>jdFin (nn:=0) h (imp_23 ⟨23,a,b,c,fr,to,n,wd,ws⟩ ls ha hb hc rfl) rfl rfl (by decide) h3
 ·by_cases hd:0<topN (mOf (ls a)) (ls a).length
  ·by_cases hz:0<n
   ·exact (do_24 a b c fr to n B wd _ vs ls w ha hb hc hn la hd hz hs).mono fun e w2 h=>jdFin (nn:=0) h (imp_24 ⟨24,a,b,c,fr,to,n,wd,ws⟩ ls ha hb hc hn la rfl hd hz) rfl rfl (by decide) h3
   ·exact (do_24n a b c fr to n B wd _ vs ls w ha hb hc hn hd (Nat.eq_zero_of_not_pos hz) hs).mono fun e w2 h=>jdSame h (imp_24n ⟨24,a,b,c,fr,to,n,wd,ws⟩ ls ha hb hc hn la rfl (Nat.eq_zero_of_not_pos hz)) hs h3
  ·exact (do_24t a b c fr to n B wd _ vs ls w ha hb hc hn (Nat.eq_zero_of_not_pos hd) hs).mono fun e w2 h=>jdSame h (imp_24t ⟨24,a,b,c,fr,to,n,wd,ws⟩ ls ha hb hc hn la rfl (Nat.eq_zero_of_not_pos hd)) hs h3
 ·exact (do_25 a b c fr to n B wd _ vs ls w ha hb hc hn hs).mono fun e w2 h=>jdFin (nn:=0) h (imp_25 ⟨25,a,b,c,fr,to,n,wd,ws⟩ ls ha hb hc hn la rfl) rfl rfl (by decide) h3
 ·exact (do_26 a b c fr to n B wd _ vs ls w ha hb hc hn hs).mono fun e w2 h=>jdFin (nn:=0) h (imp_26 ⟨26,a,b,c,fr,to,n,wd,ws⟩ ls ha hb hc hn la lb rfl) rfl rfl (by decide) h3
 ·exact (do_27 a b c fr to n B wd _ vs ls w ha hb hc hn hs).mono fun e w2 h=>jdFin (nn:=0) h (imp_27 ⟨27,a,b,c,fr,to,n,wd,ws⟩ ls ha hb hc hn la lb rfl) rfl rfl (by decide) h3
 ·exact (do_28 a b c fr to n B wd oM ws.length cM vs ls w ha hb hc hn ws hM hm hs).mono fun e w2 h=>jdFin (nn:=0) h (imp_28 ⟨28,a,b,c,fr,to,n,wd,ws⟩ ls ha hb hc hn la lb rfl hM) rfl rfl (by decide) h3
 ·exact (do_29 a b c fr to n B wd _ vs ls w ha hb hc hn hs).mono fun e w2 h=>jdFin (nn:=0) h (imp_29 ⟨29,a,b,c,fr,to,n,wd,ws⟩ ls ha hb hc hn la lb rfl) rfl rfl (by decide) h3
 ·exact (do_30 a b c fr to n B wd _ vs ls w ha hb hc hn hs).mono fun e w2 h=>jdFin (nn:=0) h (imp_30 ⟨30,a,b,c,fr,to,n,wd,ws⟩ ls ha hb hc hn la lb rfl) rfl rfl (by decide) h3
theorem info50:(Tryz.prog.info? 50).map (fun i=>(i.zero,i.size,i.bytes))=some (some (.agg #[.int .i64 0,.bool false,.int .u64 0,.int .u64 0,.string { data:= #[] },.slice none 0 0,.slice none 0 0]),7,96):=by kernel_rfl
theorem info55:(Tryz.prog.info? 55).map (fun i=>(i.zero,i.size,i.bytes))=some (some (.agg #[.int .u64 0,.slice none 0 0]),2,32):=by kernel_rfl
theorem src_row(w:World)(cs:Array Value)(t n:Nat)(h:cs.size=n):Src (w.alloc (.cells cs t)) n (.slice (some ⟨w.heap.size,0,none⟩) 1 1) 1 cs.toList:=by
 refine ⟨_,_,rfl,by simp [h],fun _=>⟨_,rfl,fun j y hj=>?_⟩⟩
 rw [add_at,Nat.zero_add]
 exact hp_cell (hp_new w (.cells cs t)) j (by simpa using hj)
theorem flat_upd{xs:Nat->List Value}(k:Nat)(x:List Value):(List.range (k+1)).flatMap (upd xs k x)=(List.range k).flatMap xs++x:=by
 rw [List.range_succ,List.flatMap_append]
 congr 1
 ·rw [List.flatMap_def,List.flatMap_def]
  congr 1
  apply List.map_congr_left
  intro i hi
  have:=List.mem_range.1 hi
  unfold upd;rw [if_neg (by omega)]
 ·unfold upd;simp
def EndE(w:World)(P:Nat->Prop)(l:List Bool)(x:List Value):Prop:=
 ∃v,x= [.int .u64 (l.length:Int),v]/\Lst w 28 1 v (cntN (mOf l) l.length) ((numsN (mOf l) l.length).map numV)/\∀r,v.ownBlock=some r->P r
theorem EndE.keep{w w':World}{T P P':Nat->Prop}{l:List Bool}{x:List Value}(h:EndE w P l x)(k:Fr T w w')(hT:∀r,P r->¬T r)(hP:∀r,P r->P' r):EndE w' P' l x:=by
 obtain ⟨v,hx,hl,ho⟩:=h
 exact ⟨v,hx,hl.keep k (fun r hr=>hT r (ho r hr)),fun r hr=>hP r (ho r hr)⟩
structure EndI(w0 w:World)(ls:Nat->List Bool)(ys:Nat->List Value)(v:Value)(k:Nat):Prop where
 lst:Lst w 55 2 v k ((List.range k).flatMap ys)
 el:∀i,i<k->EndE w (fun r=>r<w.heap.size/\v.ownBlock≠some r) (ls i) (ys i)
 own:∀r,v.ownBlock=some r->w0.heap.size<=r
 fr:Fr (fun _=>False) w0 w
theorem EndI.step{w0 w w2:World}{ls:Nat->List Bool}{ys:Nat->List Value}{v:Value}{k:Nat}{e:Ending}(h:EndI w0 w ls ys v k)(hn:NewLst w 28 1 (cntN (mOf (ls k)) (ls k).length) ((numsN (mOf (ls k)) (ls k).length).map numV) e w2):
  ∃A n c,e= .returned (.slice A n c)/\Lst w2 55 2 v k ((List.range k).flatMap ys)/\∀(w3:World) (v':Value) (row:Obj),Lst w3 55 2 v' (k+1) ((List.range k).flatMap ys++ [.int .u64 ((ls k).length:Int),.slice A n c])->Fr (fun r=>v.ownBlock=some r) (w2.alloc row) w3->
   (v'.ownBlock=v.ownBlock\/v'.ownBlock=some (w2.alloc row).heap.size)->EndI w0 w3 ls (upd ys k [.int .u64 ((ls k).length:Int),.slice A n c]) v' (k+1):=by
 obtain ⟨u,rfl,hu,hf,ho⟩:=hn
 obtain ⟨A,c,rfl⟩:=hu.sl
 have hlt:=h.lst.own_lt
 have h0:=h.fr.size
 have h2:=hf.size
 refine ⟨A,_,c,rfl,h.lst.keep hf (fun _ _ h=>h),fun w3 v' row hv' hg ha=>?_⟩
 have hsz:(w2.alloc row).heap.size=w2.heap.size+1:=by simp
 rw [hsz]at ha
 have h3:=hg.size
 rw [hsz]at h3
 have hfa:Fr (fun _=>False) w2 (w2.alloc row):=(Fr.refl _ w2).alloc row
 have f23:Fr (fun r=>v.ownBlock=some r) w2 w3:=(hfa.mono (fun r (h:False)=>h.elim)).trans hg
 have hown':∀r,v'.ownBlock=some r->v.ownBlock=some r\/r=w2.heap.size+1:=fun r hr=>by
  rcases ha with e|e
  ·exact .inl (by rw [<- e];exact hr)
  ·rw [e]at hr;injection hr with hr;exact .inr hr.symm
 refine ⟨by rw [flat_upd];exact hv',fun i hi=>?_,fun r hr=>?_,(h.fr.trans hf).trans' f23 (fun r hr=> .inr (h.own r hr))⟩
 ·by_cases e:i=k
  ·subst e
   rw [show upd ys i _ i= [.int .u64 ((ls i).length:Int),.slice A _ c] by unfold upd;rw [if_pos rfl]]
   refine ⟨_,rfl,hu.keep f23 (fun r hr hr2=>?_),fun r hr=>⟨?_,fun e=>?_⟩⟩
   ·have:=hlt r hr2;have:=ho r hr;omega
   ·have:=hu.own_lt r hr;omega
   ·have h5:=hu.own_lt r hr
    rcases hown' r e with e2|e2
    ·have:=hlt r e2;have:=ho r hr;omega
    ·omega
  ·rw [show upd ys k _ i=ys i by unfold upd;rw [if_neg e]]
   refine ((h.el i (by omega)).keep hf (fun _ _ h=>h) (fun r h=>h)).keep f23 (fun r hr=>hr.2) (fun r ⟨a1,a2⟩=>⟨by omega,fun e=>?_⟩)
   rcases hown' r e with e2|e2
   ·exact a2 e2
   ·omega
 ·rcases hown' r hr with e|e
  ·exact h.own r e
  ·omega
def ScrP(w:World)(N:Nat)(op:Nat->Int)(Aq:Nat->AnsD)(ls:Nat->List Bool)(e:Ending)(w':World):Prop:=
 ∃v u xs ys,e= .returned (.tuple #[v,u,.bool true])/\Lst w' 50 7 v N ((List.range N).flatMap xs)/\Lst w' 55 2 u 4 ((List.range 4).flatMap ys)/\(∀i,i<N->TolE w' (fun _=>True) (op i) (Aq i) (xs i))/\(∀i,i<4->EndE w' (fun _=>True) (ls i) (ys i))/\Fr (fun _=>False) w w'
theorem scr_end{w w3 w4:World}{R N:Nat}{bk:Nat->Nat}{vk:Nat->Value}{op:Nat->Int}{lq:Nat->Nat->List Bool}{Aq:Nat->AnsD}{xs ys:Nat->List Value}{v u:Value}(h:ScI w w3 R w.heap.size bk vk op lq Aq xs v N)(k:EndI w3 w4 (lq N) ys u 4):
  ScrP w N op Aq (lq N) (.returned (.tuple #[v,u,.bool true])) w4:=
 ⟨v,u,xs,ys,rfl,h.lst.keep k.fr (fun _ _ h=>h),k.lst,fun i hi=>(h.tol i hi).keep k.fr (fun _ _ h=>h) (fun _ _=>trivial),fun i hi=>(k.el i hi).keep (Fr.refl (fun _=>False) _) (fun _ _ h=>h) (fun _ _=>trivial),h.fr.trans k.fr⟩
theorem flat_bytes(m:Nat->Bool)(L k:Nat)(hL:L<2^64):bytesN m L k=Lib.byteCells (Lib.beBytes 8 L)++flatW (pk m) k:=by
 induction k with
 |zero=>
  have h:=be_beL (BitVec.ofNat 64 L)
  rw [BitVec.toNat_ofNat,Nat.mod_eq_of_lt hL]at h
  unfold bytesN flatW
  rw [<- h,List.append_nil]
 |succ k ih=>
  unfold bytesN flatW
  rw [ih,<- be_beL,List.append_assoc]
theorem num_words(xs:List Nat)(h:∀x∈xs,x<2^64):xs.map numV=(xs.map (BitVec.ofNat 64)).map WV:=by
 rw [List.map_map]
 apply List.map_congr_left
 intro x hx
 show Value.int .u64 (x:Int)=WV (BitVec.ofNat 64 x)
 unfold WV wn
 rw [BitVec.toNat_ofNat,Nat.mod_eq_of_lt (h x hx)]
theorem flatW_bytes(f:Nat->BitVec 64)(n:Nat):∃zs:List Int,flatW f n=zs.map (fun z=>Value.int .u8 z):=by
 induction n with
 |zero=>exact ⟨[],rfl⟩
 |succ n ih=>
  obtain ⟨zs,hz⟩:=ih
  exact ⟨zs++(Lib.beBytes 8 (f n).toNat).map (fun b=>(b.toNat:Int)),by unfold flatW;rw [hz,List.map_append,Lib.byteCells,List.map_map];rfl⟩
theorem setB_bytes(m:Nat->Bool)(L:Nat):∃zs:List Int,setB m L=zs.map (fun z=>Value.int .u8 z):=by
 obtain ⟨zs,hz⟩:=flatW_bytes (pk m) (nw L)
 exact ⟨(Lib.beBytes 8 L).map (fun b=>(b.toNat:Int))++zs,by unfold setB;rw [hz,List.map_append,Lib.byteCells,List.map_map];rfl⟩
theorem numsN_mem(m:Nat->Bool)(n:Nat):∀x∈numsN m n,m x=true:=by
 induction n with
 |zero=>intro x h;cases h
 |succ n ih=>
  intro x h
  unfold numsN at h
  rcases List.mem_append.1 h with h|h
  ·exact ih x h
  ·split at h
   ·next e=>rw [List.mem_singleton.1 h];exact e
   ·cases h
theorem getD_mem(xs:List Nat)(i B:Nat)(h:∀x∈xs,x<B):xs.getD i 0<max B 1:=by
 rw [List.getD_eq_getElem?_getD]
 cases e:xs[i]? with
 |none=>simp;omega
 |some y=>have:=h y (List.mem_of_getElem? e);simp;omega
theorem first_lt{m:Nat->Bool}{t:Bool}{i L nn:Nat}{is:Bool}(h:FirstP m t i L is nn):nn<=L:=by
 rcases h with ⟨_,_,h,_⟩|⟨_,h,_⟩ <;> omega
theorem last_lt{m:Nat->Bool}{t:Bool}{i nn:Nat}{is:Bool}(h:LastP m t i is nn):nn<=i:=by
 rcases h with ⟨_,h,_⟩|⟨_,h,_⟩ <;> omega
theorem jaFin{s:StD}{w w':World}{B:Nat}{vs:Nat->Value}{ls:Nat->List Bool}{e:Ending}{A:AnsD}{n:Int}{xs bs:List Value}(hA:StepOK s ls ls A)(h:AskP w A.is n A.wd A.s xs bs e w')(hn:n=(A.n:Int))(hb:AOK A)(hx:xs=A.xs)(hy:bs=A.bs)
  (hs:Sets w B vs ls) (h3:∀i,i<4->(ls i).length<=3000):JoD s w B ls e w':=by
 obtain ⟨l,b,rfl,hl,hbb,ho,hp,hf⟩:=h
 subst hn;subst hx;subst hy
 exact ⟨hf.mono (fun r (h:False)=>h.elim),.inr ⟨_,_,A,l,b,rfl,⟨hA,h3,hb,hl,hbb,fun r hr=>hr.elim (ho r) (hp r)⟩,hs.keep hf (fun h=>h) (fun _ _ _ _ h=>h)⟩⟩
theorem jaNot{s:StD}{w w':World}{B:Nat}{ls:Nat->List Bool}{e:Ending}(h:AskN w e w'):JoD s w B ls e w':=by
 obtain ⟨a,he,hf⟩:=h
 exact jdNot ⟨he,hf⟩
theorem jo_ask(s:StD)(many:Value)(w:World)(B:Nat)(vs:Nat->Value)(ls:Nat->List Bool)(hok:s.ok)(hop:40<=s.op)(hs:Sets w B vs ls)(h3:∀i,i<4->(ls i).length<=3000):
  Calls Tryz.prog 7 #[stepV s.op s.a s.b s.c s.fr s.to s.n s.wd many,setsV vs] w (JoD s w B ls):=by
 have hv:SetsV w vs ls:=fun i hi=>⟨hs.at_ i hi,hs.len i hi⟩
 obtain ⟨op,a,b,c,fr,to,n,wd,ws⟩:=s
 obtain ⟨ha,hb,hc,hfr,hto,hn,hM,hk⟩:=hok
 dsimp only at*
 have la:=h3 a ha
 have lb:=h3 b hb
 have ka:=cntN_le (mOf (ls a)) (ls a).length
 have kb:=cntN_le (mOf (ls b)) (ls b).length
 have ks:=shar_le (ls a) (ls b)
 have ops:op=40\/op=41\/op=42\/op=43\/op=44\/op=45\/op=46\/op=47\/op=48\/op=49\/op=50\/op=51\/op=52\/op=53\/op=54\/op=55\/op=56\/op=57\/op=58\/op=59\/op=60\/op=61\/op=62\/op=63\/op=64:=by rcases hk with hk|hk <;> omega
 rcases ops with rfl|rfl|rfl|rfl|rfl|rfl|rfl|rfl|rfl|rfl|rfl|rfl|rfl|rfl|rfl|rfl|rfl|rfl|rfl|rfl|rfl|rfl|rfl|rfl|rfl
 ·exact (ask_40 a b c fr to n wd many vs ls w ha hb hv).mono fun e w2 h=>jaFin (imp_40 ⟨40,a,b,c,fr,to,n,wd,ws⟩ ls ha hb hc hn la lb rfl) h rfl (.mk0 (by decide)) rfl rfl hs h3
 ·exact (ask_41 a b c fr to n wd many vs ls w ha hb hv).mono fun e w2 h=>jaFin (imp_41 ⟨41,a,b,c,fr,to,n,wd,ws⟩ ls ha hb hc hn la lb rfl) h rfl (.mk0 (by (try dsimp only);omega)) rfl rfl hs h3
 ·exact (ask_42 a b c fr to n wd many vs ls w ha hb hv).mono fun e w2 h=>jaFin (imp_42 ⟨42,a,b,c,fr,to,n,wd,ws⟩ ls ha hb hc hn la lb rfl) h rfl (.mk0 (by (try dsimp only);omega)) rfl rfl hs h3
 ·exact (ask_43 a b c fr to n wd many vs ls w ha hb hv).mono fun e w2 h=>jaFin (imp_43 ⟨43,a,b,c,fr,to,n,wd,ws⟩ ls ha hb hc hn la lb rfl) h rfl (.mk0 (by decide)) rfl rfl hs h3
 ·exact (ask_44 a b c fr to n wd many vs ls w ha hb hv).mono fun e w2 h=>jaFin (imp_44 ⟨44,a,b,c,fr,to,n,wd,ws⟩ ls ha hb hc hn la lb rfl) h rfl (.mk0 (by decide)) rfl rfl hs h3
 ·exact (ask_45 a b c fr to n wd many vs ls w ha hb hv).mono fun e w2 h=>jaFin (imp_45 ⟨45,a,b,c,fr,to,n,wd,ws⟩ ls ha hb hc hn la lb rfl) h rfl (.mk0 (by decide)) rfl rfl hs h3
 ·exact (ask_46 a b c fr to n wd many vs ls w ha hb hv).mono fun e w2 h=>jaFin (imp_46 ⟨46,a,b,c,fr,to,n,wd,ws⟩ ls ha hb hc hn la lb rfl) h rfl (.mk0 (by decide)) rfl rfl hs h3
 ·exact (ask_47 a b c fr to n wd many vs ls w ha hb hv).mono fun e w2 h=>jaFin (imp_47 ⟨47,a,b,c,fr,to,n,wd,ws⟩ ls ha hb hc hn la lb rfl) h rfl (.mk0 (by decide)) rfl rfl hs h3
 ·exact (ask_48 a b c fr to n wd many vs ls w ha hb hv).mono fun e w2 h=>jaFin (imp_48 ⟨48,a,b,c,fr,to,n,wd,ws⟩ ls ha hb hc hn la lb rfl) h rfl (.mk0 (by decide)) rfl rfl hs h3
 ·exact (ask_49 a b c fr to n wd many vs ls w ha hb hv).mono fun e w2 h=>jaFin (imp_49 ⟨49,a,b,c,fr,to,n,wd,ws⟩ ls ha hb hc hn la lb rfl) h (by dsimp only;omega) (.mk0 (by (try dsimp only);omega)) rfl rfl hs h3
 ·exact (ask_50 a b c fr to n wd many vs ls w ha hb hv).mono fun e w2 h=>jaFin (imp_50 ⟨50,a,b,c,fr,to,n,wd,ws⟩ ls ha hb hc hn la lb rfl) h rfl (.mk0 (by (try dsimp only);omega)) rfl rfl hs h3
 ·exact (ask_51 a b c fr to n wd many vs ls w ha hb hv).mono fun e w2 h=>jaFin (imp_51 ⟨51,a,b,c,fr,to,n,wd,ws⟩ ls ha hb hc hn la lb rfl) h (by dsimp only;omega) (.mk0 (by (try dsimp only);omega)) rfl rfl hs h3
 ·exact (ask_52 a b c fr to n wd many vs ls w ha hb hv).mono fun e w2 h=>jaFin (imp_52 ⟨52,a,b,c,fr,to,n,wd,ws⟩ ls ha hb hc hn la lb rfl) h (by dsimp only;omega) (.mk0 (by (try dsimp only);omega)) rfl rfl hs h3
 ·by_cases hd:n<(ls a).length
  ·refine (ask_53 a b c fr to n wd many vs ls w ha hb hd hv).mono fun e w2 h=>?_
   obtain ⟨is,nn,hf,h⟩:=h
   have kc:=first_lt hf
   exact jaFin (imp_53 ⟨53,a,b,c,fr,to,n,wd,ws⟩ ls ha hb hc hn la rfl is nn hf) h rfl (.mk0 (by (try dsimp only);omega)) rfl rfl hs h3
  ·exact (ask_53n a b c fr to n wd many vs ls w ha hb (Nat.le_of_not_lt hd) hv).mono fun e w2 h=>jaNot h
 ·by_cases hd:n<(ls a).length
  ·refine (ask_54 a b c fr to n wd many vs ls w ha hb hd hv).mono fun e w2 h=>?_
   obtain ⟨is,nn,hf,h⟩:=h
   have kc:=first_lt hf
   exact jaFin (imp_54 ⟨54,a,b,c,fr,to,n,wd,ws⟩ ls ha hb hc hn la rfl is nn hd hf) h rfl (.mk0 (by (try dsimp only);omega)) rfl rfl hs h3
  ·exact (ask_54n a b c fr to n wd many vs ls w ha hb (Nat.le_of_not_lt hd) hv).mono fun e w2 h=>jaNot h
 ·by_cases hd:n<(ls a).length
  ·refine (ask_55 a b c fr to n wd many vs ls w ha hb hd hv).mono fun e w2 h=>?_
   obtain ⟨is,nn,hf,h⟩:=h
   have kc:=last_lt hf
   exact jaFin (imp_55 ⟨55,a,b,c,fr,to,n,wd,ws⟩ ls ha hb hc hn la rfl is nn hd hf) h rfl (.mk0 (by (try dsimp only);omega)) rfl rfl hs h3
  ·exact (ask_55n a b c fr to n wd many vs ls w ha hb (Nat.le_of_not_lt hd) hv).mono fun e w2 h=>jaNot h
 ·by_cases hd:n<(ls a).length
  ·refine (ask_56 a b c fr to n wd many vs ls w ha hb hd hv).mono fun e w2 h=>?_
   obtain ⟨is,nn,hf,h⟩:=h
   have kc:=last_lt hf
   exact jaFin (imp_56 ⟨56,a,b,c,fr,to,n,wd,ws⟩ ls ha hb hc hn la rfl is nn hd hf) h rfl (.mk0 (by (try dsimp only);omega)) rfl rfl hs h3
  ·exact (ask_56n a b c fr to n wd many vs ls w ha hb (Nat.le_of_not_lt hd) hv).mono fun e w2 h=>jaNot h
 ·refine (ask_57 a b c fr to n wd many vs ls w ha hb hn hv).mono fun e w2 h=>?_
  obtain ⟨t,ht,hle,hor,h⟩:=h
  have kd:∀x∈numsN (frm (mOf (ls a)) n) t,x<3000:=fun x hx=>by
   have h1:=numsN_mem _ _ x hx
   simp only [frm,Bool.and_eq_true]at h1
   by_cases hxl:x<(ls a).length
   ·omega
   ·rw [mOf_out (ls a) (by omega)]at h1;exact absurd h1.1 (by decide)
  have kc:=getD_mem _ ((numsN (frm (mOf (ls a)) n) t).length-1) 3000 kd
  exact jaFin (imp_57 ⟨57,a,b,c,fr,to,n,wd,ws⟩ ls ha hb hc hn la rfl t hle hor) h rfl ⟨by dsimp only;unfold lastN;omega,⟨_,num_words _ (fun x hx=>by have:=kd x hx;omega),by rw [List.length_map];dsimp only;omega⟩,⟨[],rfl⟩⟩ rfl rfl hs h3
 ·have kc:=cntN_le (mOf (ls a)) (min (ls a).length (n+1))
  exact (ask_58 a b c fr to n wd many vs ls w ha hb hn hv).mono fun e w2 h=>jaFin (imp_58 ⟨58,a,b,c,fr,to,n,wd,ws⟩ ls ha hb hc hn la lb rfl) h rfl (.mk0 (by (try dsimp only);omega)) rfl rfl hs h3
 ·by_cases hd:n<cntN (mOf (ls a)) (ls a).length
  ·have kc:=getD_mem (numsN (mOf (ls a)) (ls a).length) n (ls a).length (numsN_lt _ _)
   exact (ask_59i a b c fr to n wd many vs ls w ha hb hd hv).mono fun e w2 h=>jaFin (imp_59i ⟨59,a,b,c,fr,to,n,wd,ws⟩ ls ha hb hc hn la rfl hd) h rfl (.mk0 (by (try dsimp only);omega)) rfl rfl hs h3
  ·exact (ask_59o a b c fr to n wd many vs ls w ha hb (Nat.le_of_not_lt hd) hv).mono fun e w2 h=>jaFin (imp_59o ⟨59,a,b,c,fr,to,n,wd,ws⟩ ls ha hb hc hn la rfl (Nat.le_of_not_lt hd)) h rfl (.mk0 (by (try dsimp only);omega)) rfl rfl hs h3
 ·have kc:=cntN_le (win (mOf (ls a)) fr to) (ls a).length
  exact (ask_60 a b c fr to n wd many vs ls w ha hb hfr hto hv).mono fun e w2 h=>jaFin (imp_60 ⟨60,a,b,c,fr,to,n,wd,ws⟩ ls ha hb hc hn la lb rfl hfr hto) h rfl (.mk0 (by (try dsimp only);omega)) rfl rfl hs h3
 ·exact (ask_61 a b c fr to n wd many vs ls w ha hb hn hv).mono fun e w2 h=>jaFin (imp_61 ⟨61,a,b,c,fr,to,n,wd,ws⟩ ls ha hb hc hn la rfl) h rfl (.mk0 (by decide)) rfl rfl hs h3
 ·exact (ask_62 a b c fr to n wd many vs ls w ha hb hv).mono fun e w2 h=>jaFin (imp_62 ⟨62,a,b,c,fr,to,n,wd,ws⟩ ls ha hb hc hn la rfl) h rfl (.mk0 (by decide)) rfl rfl hs h3
 ·exact (ask_63 a b c fr to n wd many vs ls w ha hb hv).mono fun e w2 h=>jaFin (imp_63 ⟨63,a,b,c,fr,to,n,wd,ws⟩ ls ha hb hc hn la rfl) h rfl ⟨(by decide:(0:Nat)<9000000000000000000),⟨[],rfl,by simp⟩,setB_bytes _ _⟩ rfl (flat_bytes _ _ _ (by omega)) hs h3
 ·exact (ask_64 a b c fr to n wd many vs ls w ha hb hv).mono fun e w2 h=>jaFin (imp_64 ⟨64,a,b,c,fr,to,n,wd,ws⟩ ls ha hb hc hn la rfl) h rfl ⟨(by decide:(0:Nat)<9000000000000000000),⟨_,rfl,by simp;unfold nw;omega⟩,⟨[],rfl⟩⟩ (by simp) rfl hs h3
theorem script_c(N cN:Nat)(A:Option Addr)(ss:Nat->StD)(mv:Nat->Value)(lq:Nat->Nat->List Bool)(Aq:Nat->AnsD)(w:World)(hN:N<=40)(h8:8<=w.heap.size)(hT:Tab64 w)(hP:PowT w)(hs:StdR w A N ss mv)
  (hok:∀k,k<N->(ss k).ok/\StepOK (ss k) (lq k) (lq (k+1)) (Aq k)) (hl:∀k,k<=N->∀i,i<4->(lq k i).length<=3000) (h0:lq 0=fun _=>[]):
  Calls Tryz.prog 8 #[.slice A N cN] w (ScrP w N (fun i=>(ss i).op) Aq (lq N)):=by
 have dn:decide (200<(N:Int))=false:=by simp;omega
 obtain ⟨i0,hi0,hz0,hz1,hz2⟩:=info_parts info73
 obtain ⟨i1,hi1,hy0,hy1,hy2⟩:=info_parts info50
 obtain ⟨i2,hi2,hx0,hx1,hx2⟩:=info_parts info55
 have HT:=Lib.hid hT;have HP:=Lib.hid hP;have HS:=Lib.hid hs;have HOK:=Lib.hid hok;have HLL:=Lib.hid hl;have H0:=Lib.hid h0;have H8:=Lib.hid h8
 clear hT hP hs hok hl h0 h8
 go_enter Tryz.func8,Tryz.ntmps8
 go_wp2
 go_loopw [5,17] (fun v i wr=>∃(k:Nat) (bk:Nat->Nat),k<=4/\i= .int .i64 (k:Int)/\New4 w wr v k bk) (fun v i _=>4-(intOf i).toNat)
 case atStart=>exact ⟨0,fun _=>0,by omega,rfl,Lst.nil _ 73 1,fun i hi=>by omega,fun i j hi=>by omega,by simp [Value.ownBlock],Fr.refl _ _⟩
 case round=>
  obtain ⟨k,bk,hk,rfl,hnew⟩:=hrel
  obtain ⟨Av,cv,rfl,-⟩:=hnew.lst.src
  by_cases hlt:k<4
  ·have HW:=Lib.hid hnew;clear hnew
   have d4:decide ((k:Int)<4)=true:=by simp;omega
   have hsr:=src_one (wr.alloc setO) (.pointer (some ⟨wr.heap.size,0,none⟩)) 73
   rw [World.size_alloc]at hsr
   have HSR:=Lib.hid hsr;clear hsr
   unfold setO at HSR
   go_wp2_with (at_builtin;refine wpList_app 72 73 i0 _ 1 8 Tryz.underlying72 hi0 hz0 hz1 hz2 rfl (by omega) (by omega) (.tmp 19) (.tmp 21) rfl rfl _ _ _ _ ((HW.out.lst.alloc _).alloc _) _ _ _ HSR.out (by simp [Value.oneCell']) (by omega) rfl rfl ?_;intro v1 w1 hv1 hf1 hat1)
   go_roundw
   case rel=>exact ⟨k+1,_,by omega,by go_num,HW.out.step hv1 hf1 hat1⟩
   case measure=>simp [intOf];omega
  ·have hkk:k=4:=by omega
   subst hkk
   obtain ⟨R,cR,e1,himp,hge⟩:=hnew.imp H8.out HT.out HP.out
   cases e1
   have hfr4:=hnew.fr
   have HW:=Lib.hid hfr4;have HI:=Lib.hid himp;clear hnew himp hge hlt hk hfr4
   rw [show ((4:Nat):Int)=4 from rfl]
   go_wp2
   go_loopw [6,26] (fun v i wr=>∃(k:Nat) (bk:Nat->Nat) (vk:Nat->Value) (xs:Nat->List Value),k<=N/\i= .int .i64 (k:Int)/\ScI w wr R w.heap.size bk vk (fun i=>(ss i).op) lq Aq xs v k) (fun v i _=>N-(intOf i).toNat)
   case atStart=>exact ⟨0,bk,_,fun _=>[],by omega,rfl,by rw [H0.out];exact HI.out,Lst.nil _ 50 7,fun i hi=>by omega,by simp [Value.ownBlock],HW.out,Nat.le_refl _⟩
   case round=>
    clear bk HI HW
    obtain ⟨k,bk,vk,xs,hk,rfl,hsc⟩:=hrel
    obtain ⟨Aw,cw,rfl,-⟩:=hsc.lst.src
    by_cases hlt:k<N
    ·have d0:decide ((k:Int)<(N:Int))=true:=by simp;omega
     have bb:(0:Int)<=(k:Int)/\(k:Int)<(N:Int):=by omega
     obtain ⟨sb,so,rfl,hc⟩:=HS.out.at_ (by omega)
     have h9:=(hc k hlt).keep hsc.fr (fun h=>h)
     have hws:=(HS.out.ws k hlt).keep hsc.fr (fun _ _ h=>h)
     have hok:=HOK.out k hlt
     have hll:=HLL.out k hk
     obtain ⟨s,hss⟩:∃s,ss k=s:=⟨_,rfl⟩
     have hop:(fun i=>(ss i).op) k=s.op:=by show (ss k).op=_;rw [hss]
     rw [hss]at h9 hws hok
     obtain ⟨Am,cm,em,-⟩:=hws
     have hws:=(HS.out.ws k hlt).keep hsc.fr (fun _ _ h=>h)
     rw [hss,em]at hws
     rw [em]at h9
     obtain ⟨op,a,b,c,fr,to,n,wd,ws⟩:=s
     dsimp only at h9 hws hok hop
     obtain ⟨c0,c1,c2,c3,c4,c5,c6,c7,c8⟩:=h9
     have hf1:Fr (fun _=>False) wr (wr.alloc (.cells #[.int .i64 op,.int .i64 (a:Int),.int .i64 (b:Int),.int .i64 (c:Int),.int .u64 (fr:Int),.int .u64 (to:Int),.int .u64 (n:Int),WV wd,.slice Am ws.length cm] 32)):=(Fr.refl _ wr).alloc _
     have hp1:=hp_new wr (.cells #[.int .i64 op,.int .i64 (a:Int),.int .i64 (b:Int),.int .i64 (c:Int),.int .u64 (fr:Int),.int .u64 (to:Int),.int .u64 (n:Int),WV wd,.slice Am ws.length cm] 32)
     have hR:=right_ok _ hok.1 (hsc.quiet hf1).imp hll Am cm (cR:=cv)
     have hws1:=hws.keep hf1 (fun _ _ h=>h)
     have hD:=hok.2
     have HR:=Lib.hid hR;have HSC:=Lib.hid (hsc.quiet hf1);have HWS:=Lib.hid hws1;have HD:=Lib.hid hD;have HP1:=Lib.hid hp1;have HOP:=Lib.hid hop;have HSS:=Lib.hid hss;have HEM:=Lib.hid em
     unfold StD.v istV at HR
     clear hR hws hws1 hD hp1 hf1 hc hsc hok hop hss em hll
     dsimp only at HR HWS HD
     go_wp2_with (go_at_call 29;(with_reducible refine HR.out.mono ?_);rintro e w2 ⟨rfl,hf2⟩;refine Hid.out ?_)
     refine Lib.hid ?_
     have HSC2:=Lib.hid (HSC.out.quiet hf2)
     have hp2:=(hf2.keep _ (by simp) (fun h=>h)).trans HP1.out
     have hD2:=HD.out w2 R w.heap.size cv bk vk (.slice Am ws.length cm) HSC2.out.imp (HWS.out.keep hf2 (fun _ _ h=>h))
     have e0:=hp_cell hp2 0 rfl
     have e1:=hp_cell hp2 1 rfl
     have e2:=hp_cell hp2 2 rfl
     have e3:=hp_cell hp2 3 rfl
     have e4:=hp_cell hp2 4 rfl
     have e5:=hp_cell hp2 5 rfl
     have e6:=hp_cell hp2 6 rfl
     have e7:=hp_cell hp2 7 rfl
     have e8:=hp_cell hp2 8 rfl
     unfold StD.v istV at hD2
     have HD2:=Lib.hid hD2
     clear hD2 hp2 hf2 c0 c1 c2 c3 c4 c5 c6 c7 c8
     dsimp only at HD2
     go_wp2_with (go_at_call 30;(with_reducible refine HD2.out.mono ?_);rintro e w3 hP;rw [<- HOP.out]at hP;obtain ⟨n1,l,b1,he,⟨Al,cl,rfl⟩,⟨Ab,cb,rfl⟩,hl3,hst⟩:=HSC2.out.step hP;unfold tldV at he;subst he;refine Hid.out ?_)
     refine Lib.hid ?_
     clear e0 e1 e2 e3 e4 e5 e6 e7 e8
     have HST:=Lib.hid hst;have HL3:=Lib.hid hl3
     clear hst hl3 hP
     generalize (ss k).op=opk at*
     have hsrc:=src_row w3 #[.int .i64 opk,.bool (Aq k).is,.int .u64 (n1:Int),.int .u64 (wn (Aq k).wd),.string (Aq k).s,.slice Al (Aq k).xs.length cl,.slice Ab (Aq k).bs.length cb] 50 7 rfl
     have HSRC:=Lib.hid hsrc;clear hsrc
     go_wp2_with (at_builtin;refine wpList_app 45 50 i1 _ 7 96 Tryz.underlying45 hi1 hy0 hy1 hy2 rfl (by omega) (by omega) (.tmp 34) (.tmp 38) rfl rfl _ _ _ _ (HL3.out.alloc _) _ _ _ HSRC.out (by simp [Value.oneCell']) (by omega) rfl rfl ?_;intro v4 w4 hv4 hf4 hat4)
     obtain ⟨bk',vk',hsc4⟩:=HST.out w4 v4 _ hv4 hf4 hat4
     have hl4:=HLL.out (k+1) (by omega)
     have HSC4:=Lib.hid hsc4;have HL4:=Lib.hid hl4
     clear hsc4 hl4 hv4 hf4 hat4 HST HSRC HL3
     go_loopw [42] (fun i wr=>∃j:Nat,j<=4/\i= .int .i64 (j:Int)/\wr=w4) (fun i _=>4-(intOf i).toNat)
     case atStart=>exact ⟨0,by omega,rfl,rfl⟩
     case round=>
      obtain ⟨j,hj,rfl,hwj⟩:=hrel
      by_cases hjl:j<4
      ·have d1:decide ((j:Int)<4)=true:=by simp;omega
       have b1:(0:Int)<=(j:Int)/\(j:Int)<4:=by omega
       have cj:=HSC4.out.imp.row.cell j hjl
       have lj:=hp_cell (HSC4.out.imp.set j hjl).2.blk 0 rfl
       have hlj:=HL4.out j hjl
       rw [<- hwj]at cj lj
       have hLen:=len_c (bk' j) _ wr lj
       generalize (lq (k+1) j).length=Lj at*
       have d2:decide (40000<(Lj:Int))=false:=by simp;omega
       have HLen:=Lib.hid hLen;have HWJ:=Lib.hid hwj;clear hLen hwj
       go_wp2_with (go_at_call 31;refine HLen.out.mono ?_;rintro e w' ⟨rfl,hw⟩;obtain rfl:=hw.symm)
       go_roundw
       case rel=>exact ⟨j+1,by omega,by go_num,HWJ.out⟩
       case measure=>(simp [intOf];try omega)
      ·have hjj:j=4:=by omega
       subst hjj
       subst hwj
       clear hjl hj HL4
       go_wp2
       go_roundw
       case rel=>exact ⟨k+1,bk',vk',_,by omega,by go_num,HSC4.out⟩
       case measure=>(simp [intOf];try omega)
    ·have hkk:k=N:=by omega
     subst hkk
     have HSC:=Lib.hid hsc;have HL4:=Lib.hid (HLL.out k hk)
     clear hlt hk hsc HLL HOK HS HP H0 H8
     go_wp2
     go_loopw [11,53] (fun v i w5=>∃(j:Nat) (ys:Nat->List Value),j<=4/\i= .int .i64 (j:Int)/\EndI wr w5 (lq k) ys v j) (fun v i _=>4-(intOf i).toNat)
     case atStart=>exact ⟨0,fun _=>[],by omega,rfl,Lst.nil _ 55 2,fun i hi=>by omega,by simp [Value.ownBlock],Fr.refl _ _⟩
     case round=>
      obtain ⟨j,ys,hj,rfl,hend⟩:=hrel
      obtain ⟨Ae,ce,rfl,-⟩:=hend.lst.src
      by_cases hjl:j<4
      ·have d1:decide ((j:Int)<4)=true:=by simp;omega
       have b1:(0:Int)<=(j:Int)/\(j:Int)<4:=by omega
       have himp:=HSC.out.imp.keep hend.fr (fun _ _ h=>h) (fun _ _ h=>h)
       have cj:=himp.row.cell j hjl
       have hset:=himp.set j hjl
       have lj:=hp_cell hset.2.blk 0 rfl
       have hLen:=len_c (bk j) _ wr lj
       have hApp:=appendTo_c (bk j) _ _ _ wr himp.tab hset
       have hll:=HL4.out j hjl
       have hkn:=cntN_le (mOf (lq k j)) (lq k j).length
       have HLen:=Lib.hid hLen;have HApp:=Lib.hid hApp;have HE:=Lib.hid hend
       clear hLen hApp himp hset hend lj
       go_wp2_with (first|(go_at_call 31;refine HLen.out.mono ?_;rintro e w' ⟨rfl,hw⟩;obtain rfl:=hw.symm)|(go_at_call 32;refine HApp.out.mono ?_;rintro e w6 hn6;obtain ⟨A6,n6,c6,rfl,hl6,hst6⟩:=HE.out.step hn6;refine Hid.out ?_))
       refine Lib.hid ?_
       have HL6:=Lib.hid hl6;have HST:=Lib.hid hst6
       have hsrc:=src_row w6 #[.int .u64 ((lq k j).length:Int),.slice A6 n6 c6] 55 2 rfl
       have HSRC:=Lib.hid hsrc
       clear hl6 hst6 hsrc hn6 cj
       go_wp2_with (at_builtin;refine wpList_app 46 55 i2 _ 2 32 Tryz.underlying46 hi2 hx0 hx1 hx2 rfl (by omega) (by omega) (.tmp 57) (.tmp 63) rfl rfl _ _ _ _ (HL6.out.alloc _) _ _ _ HSRC.out (by simp [Value.oneCell']) (by omega) rfl rfl ?_;intro v7 w7 hv7 hf7 hat7)
       go_roundw
       case rel=>exact ⟨j+1,_,by omega,by go_num,HST.out w7 v7 _ hv7 hf7 hat7⟩
       case measure=>(simp [intOf];try omega)
      ·have hjj:j=4:=by omega
       subst hjj
       have HE:=Lib.hid hend;clear hend hjl hj
       go_wp2
       go_ret3
       exact scr_end HSC.out HE.out
def RawD.st(r:RawD):StD:=⟨r.op,r.a.toNat,r.b.toNat,r.c.toNat,r.fr,r.to,r.n,r.wd,r.ws⟩
abbrev RawD.vld(r:RawD):Prop:=Vld r.op r.a r.b r.c r.fr r.to r.n r.ws.length
theorem RawD.vld.ok{r:RawD}(h:r.vld):r.st.ok/\((r.st.a:Nat):Int)=r.a/\((r.st.b:Nat):Int)=r.b/\((r.st.c:Nat):Int)=r.c:=by
 obtain ⟨ha,hb,hc,hk,hf,ht,hn,hm⟩:=h
 refine ⟨⟨?_,?_,?_,hf,ht,hn,hm,hk⟩,?_,?_,?_⟩ <;> simp only [RawD.st] <;> omega
theorem Lst.ne{w:World}{e e2:TypeId}{s s2 n n2:Nat}{v v2:Value}{xs xs2:List Value}(h:Lst w e s v n xs)(h2:Lst w e2 s2 v2 n2 xs2)(hne:e≠e2):∀r,v.ownBlock=some r->v2.ownBlock≠some r:=by
 intro r hr hr2
 rcases h.2 with ⟨rfl,_⟩|⟨g,cap,cur,rfl,_,hg,_⟩
 ·cases hr
 ·rcases h2.2 with ⟨rfl,_⟩|⟨g2,cap2,cur2,rfl,_,hg2,_⟩
  ·cases hr2
  ·cases hr;cases hr2
   rw [hg]at hg2
   cases hg2
   exact hne rfl
theorem Lst.neO{w:World}{e e2:TypeId}{s n p:Nat}{v:Value}{xs:List Value}{cs:Array Value}(h:Lst w e s v n xs)(h2:w.heap[p]? =some (.cells cs e2 (0,0)))(hne:e≠e2):v.ownBlock≠some p:=by
 intro hr
 rcases h.2 with ⟨rfl,_⟩|⟨g,cap,cur,rfl,_,hg,_⟩
 ·cases hr
 ·cases hr
  rw [hg]at h2
  cases h2
  exact hne rfl
def AnsL(w:World)(A:AnsD)(x:List Value):Prop:=
 ∃oa ca ob cb,x= [.bool A.is,.int .i64 (A.n:Int),WV A.wd,.string A.s,.slice oa A.xs.length ca,.slice ob A.bs.length cb]/\Lst w 29 1 (.slice oa A.xs.length ca) A.xs.length A.xs/\Lst w 5 1 (.slice ob A.bs.length cb) A.bs.length A.bs
theorem AnsL.keep{w w':World}{T:Nat->Prop}{A:AnsD}{x:List Value}(h:AnsL w A x)(k:Fr T w w')(hT:∀(e:TypeId) (v:Value) (n:Nat) (xs:List Value),e=29\/e=5->Lst w e 1 v n xs->∀r,v.ownBlock=some r->¬T r):AnsL w' A x:=by
 obtain ⟨oa,ca,ob,cb,hx,hl,hb⟩:=h
 exact ⟨oa,ca,ob,cb,hx,hl.keep k (hT _ _ _ _ (.inl rfl) hl),hb.keep k (hT _ _ _ _ (.inr rfl) hb)⟩
structure FnI(w0 w:World)(B:Nat)(ss:Nat->RawD)(vs:Nat->Value)(lq:Nat->Nat->List Bool)(Aq:Nat->AnsD)(xs:Nat->List Value)(v:Value)(k:Nat):Prop where
 sets:Sets w B vs (lq k)
 lst:Lst w 40 6 v k ((List.range k).flatMap xs)
 an:∀i,i<k->AnsL w (Aq i) (xs i)
 stp:∀i,i<k->(ss i).vld/\StepOK (ss i).st (lq i) (lq (i+1)) (Aq i)/\AOK (Aq i)
 len:∀i,i<=k->∀j,j<4->(lq i j).length<=3000
 zero:lq 0=fun _=>[]
 own:∀r,v.ownBlock=some r->w0.heap.size<=r
 blk:w0.heap.size<=B
 fr:Fr (fun _=>False) w0 w
section
variable {w0 w:World} {B:Nat} {ss:Nat->RawD} {vs:Nat->Value} {lq:Nat->Nat->List Bool} {Aq:Nat->AnsD} {xs:Nat->List Value} {v:Value} {k:Nat}
theorem Sets.obj(h:Sets w B vs (lq k)):∃cs,w.heap[B]? =some (.cells cs 26 (0,0)):=by
 obtain ⟨c,hc,_⟩:=h.row
 exact ⟨c,hc⟩
theorem FnI.quiet{w':World}(h:FnI w0 w B ss vs lq Aq xs v k)(f:Fr (fun _=>False) w w'):FnI w0 w' B ss vs lq Aq xs v k:=
 ⟨h.sets.keep f (fun h=>h) (fun _ _ _ _ h=>h),h.lst.keep f (fun _ _ h=>h),fun i hi=>(h.an i hi).keep f (fun _ _ _ _ _ _ _ _ h=>h),h.stp,h.len,h.zero,h.own,h.blk,h.fr.trans f⟩
theorem FnI.step{wB wC:World}{vs':Nat->Value}{ls':Nat->List Bool}{A:AnsD}{oa ob:Option Addr}{ca cb:Nat}{p:Nat}{cs:Array Value}{s:StD}(h:FnI w0 w B ss vs lq Aq xs v k)(hv:(ss k).vld)(hst:(ss k).st=s)(hj:JoT w wB s (lq k) ls' A (.slice oa A.xs.length ca) (.slice ob A.bs.length cb))(hs:Sets wB B vs' ls')(hfB:Fr (· =B) w wB)
  (hp:w.heap[p]? =some (.cells cs 40 (0,0))) (hp0:w0.heap.size<=p) (hpv:v.ownBlock≠some p) (hC:Fr (· =p) wB wC):
  Lst wC 40 6 v k ((List.range k).flatMap xs)/\
   ∀(wD:World) (v':Value) (row:Obj),Lst wD 40 6 v' (k+1) ((List.range k).flatMap xs++ [.bool A.is,.int .i64 (A.n:Int),WV A.wd,.string A.s,.slice oa A.xs.length ca,.slice ob A.bs.length cb])->Fr (fun r=>v.ownBlock=some r) (wC.alloc row) wD->
    (v'.ownBlock=v.ownBlock\/v'.ownBlock=some (wC.alloc row).heap.size)->
    FnI w0 wD B ss vs' (upd lq (k+1) ls') (upd Aq k A) (upd xs k [.bool A.is,.int .i64 (A.n:Int),WV A.wd,.string A.s,.slice oa A.xs.length ca,.slice ob A.bs.length cb]) v' (k+1):=by
 subst hst
 obtain ⟨cB,hB⟩:=h.sets.obj
 have hBlt:=hp_lt hB
 have hplt:=hp_lt hp
 have hpB:p≠B:=fun e=>by rw [e,hB]at hp;cases hp
 have hvB:v.ownBlock≠some B:=h.lst.neO hB (by decide)
 have hlB:Lst wB 40 6 v k ((List.range k).flatMap xs):=h.lst.keep hfB (fun r hr e=>by have e:r=B:=e;subst e;exact hvB hr)
 have hpBw:wB.heap[p]? =some (.cells cs 40 (0,0)):=(hfB.keep p hplt hpB).trans hp
 have hlC:Lst wC 40 6 v k ((List.range k).flatMap xs):=hlB.keep hC (fun r hr e=>by have e:r=p:=e;subst e;exact hpv hr)
 refine ⟨hlC,fun wD v' row hv' hg ha=>?_⟩
 have h0:=h.fr.size
 have s1:=hfB.size
 have s2:=hC.size
 have s3:=hg.size
 have hsz:(wC.alloc row).heap.size=wC.heap.size+1:=by simp
 rw [hsz]at ha s3
 have hfa:Fr (fun _=>False) wC (wC.alloc row):=(Fr.refl _ wC).alloc row
 have fD:Fr (fun r=>v.ownBlock=some r) wC wD:=(hfa.mono (fun r (h:False)=>h.elim)).trans hg
 have hkeep:∀(e:TypeId) (x:Value) (n:Nat) (ys:List Value),e≠40->Lst wB e 1 x n ys->Lst wD e 1 x n ys:=fun e x n ys hne hx=>by
  have hC':=hx.keep hC (fun r hr e=>by have e:r=p:=e;subst e;exact hx.neO hpBw hne hr)
  exact hC'.keep fD (fun r hr hr2=>hC'.ne hlC hne r hr hr2)
 have hkA:∀(A:AnsD) (x:List Value),AnsL wB A x->AnsL wD A x:=fun A x ⟨oa,ca,ob,cb,hx,hl,hb⟩=>⟨oa,ca,ob,cb,hx,hkeep _ _ _ _ (by decide) hl,hkeep _ _ _ _ (by decide) hb⟩
 have hupL:∀i,i<=k->upd lq (k+1) ls' i=lq i:=fun i hi=>by unfold upd;rw [if_neg (by omega)]
 have hupL':upd lq (k+1) ls' (k+1)=ls':=by unfold upd;rw [if_pos rfl]
 refine ⟨?_,by rw [flat_upd];exact hv',fun i hi=>?_,fun i hi=>?_,fun i hi j hjj=>?_,by rw [hupL 0 (by omega)];exact h.zero,fun r hr=>?_,h.blk,?_⟩
 ·rw [hupL']
  obtain ⟨cB',hB'⟩:=(show ∃cs,wB.heap[B]? =some (.cells cs 26 (0,0)) from let ⟨c,hc,_⟩:=hs.row;⟨c,hc⟩)
  have hvB':v.ownBlock≠some B:=hlB.neO hB' (by decide)
  refine ⟨rowIs_keep (rowIs_keep hs.row hC (fun e=>hpB e.symm)) fD hvB',fun i hi=>hkeep _ _ _ _ (by decide) (hs.at_ i hi),hs.len,hs.ne⟩
 ·by_cases e:i=k
  ·subst e
   rw [show upd Aq i A i=A by unfold upd;rw [if_pos rfl],show upd xs i _ i= [.bool A.is,.int .i64 (A.n:Int),WV A.wd,.string A.s,.slice oa A.xs.length ca,.slice ob A.bs.length cb] by unfold upd;rw [if_pos rfl]]
   exact hkA _ _ ⟨oa,ca,ob,cb,rfl,hj.lst,hj.bst⟩
  ·rw [show upd Aq k A i=Aq i by unfold upd;rw [if_neg e],show upd xs k _ i=xs i by unfold upd;rw [if_neg e]]
   refine hkA _ _ ((h.an i (by omega)).keep hfB (fun e x n ys he hx r hr e2=>?_))
   have e2:r=B:=e2
   subst e2
   exact hx.neO hB (by rcases he with rfl|rfl <;> decide) hr
 ·by_cases e:i=k
  ·subst e
   rw [hupL i (Nat.le_refl _),hupL',show upd Aq i A i=A by unfold upd;rw [if_pos rfl]]
   exact ⟨hv,hj.ok,hj.aok⟩
  ·rw [hupL i (by omega),hupL (i+1) (by omega),show upd Aq k A i=Aq i by unfold upd;rw [if_neg e]]
   exact h.stp i (by omega)
 ·by_cases e:i=k+1
  ·subst e;rw [hupL'];exact hj.len j hjj
  ·rw [hupL i (by omega)];exact h.len i (by omega) j hjj
 ·rcases ha with e|e
  ·exact h.own r (by rw [<- e];exact hr)
  ·rw [e]at hr;injection hr with hr;omega
 ·exact ((h.fr.trans' hfB (fun r hr=> .inr (by have hr:r=B:=hr;have:=h.blk;omega))).trans' hC (fun r hr=> .inr (by have hr:r=p:=hr;omega))).trans' fD (fun r hr=> .inr (h.own r hr))
theorem FnI.start{w1:World}(hf:Fr (fun _=>False) w0 w1):
  FnI w0 ((w1.alloc (.cells #[] 40)).alloc (.cells #[nilV,nilV,nilV,nilV] 26)) (w1.heap.size+1) ss (fun _=>nilV) (fun _ _=>[]) (fun _=>ans0D) (fun _=>[]) (.slice (some ⟨w1.heap.size,0,none⟩) 0 0) 0:=by
 have h1:=hp_new (w1.alloc (.cells #[] 40)) (.cells #[nilV,nilV,nilV,nilV] 26)
 rw [World.size_alloc]at h1
 have hs:=hf.size
 have he:Lst (w1.alloc (.cells #[] 40)) 40 6 (.slice (some ⟨w1.heap.size,0,none⟩) 0 0) 0 []:=⟨by simp,.inr ⟨w1.heap.size,0,#[],rfl,Nat.zero_le _,hp_new w1 _,Nat.le_refl _,by simp [maxLen],by simp,by simp⟩⟩
 refine ⟨⟨⟨_,h1,rfl,fun i hi=>?_⟩,fun i _=>Lst.nil _ 4 1,fun i _=>by simp,fun i _ r hr=>by cases hr⟩,he.alloc _,fun i hi=>by omega,fun i hi=>by omega,fun i _ j _=>by simp,rfl,fun r hr=>?_,by omega,(hf.alloc _).alloc _⟩
 ·rcases i with _|_|_|_|i
  ·rfl
  ·rfl
  ·rfl
  ·rfl
  ·omega
 ·cases hr;exact hs
theorem FnI.stdR(h:FnI w0 w B ss vs lq Aq xs v k){A:Option Addr}(hs:StpR w0 A k ss):StdR w A k (fun i=>(ss i).st) (fun i=>(ss i).many):=by
 refine ⟨fun h0=>?_,fun i hi=>(hs.ws i hi).keep h.fr (fun _ _ h=>h)⟩
 obtain ⟨sb,so,e,hc⟩:=hs.at_ h0
 refine ⟨sb,so,e,fun i hi=>?_⟩
 have h9:=(hc i hi).keep h.fr (fun h=>h)
 obtain ⟨_,ha,hb,hcc⟩:=(h.stp i hi).1.ok
 show Nine w sb (so+i*9) (ss i).op (((ss i).st.a:Nat):Int) (((ss i).st.b:Nat):Int) (((ss i).st.c:Nat):Int) (ss i).fr (ss i).to (ss i).n (ss i).wd (ss i).many
 rw [ha,hb,hcc]
 exact h9
end
theorem Lst.form{w:World}{e:TypeId}{s n:Nat}{v:Value}{xs:List Value}(h:Lst w e s v n xs)(hn:0<n):∃g cap,v= .slice (some ⟨g,0,none⟩) n cap:=by
 rcases h.2 with ⟨_,h0⟩|⟨g,cap,cur,hv,_⟩
 ·omega
 ·exact ⟨g,cap,hv⟩
theorem flat_at{xs:Nat->List Value}{N m:Nat}(hm:∀i,i<N->(xs i).length=m){k j:Nat}(hk:k<N)(hj:j<m):((List.range N).flatMap xs)[k*m+j]? =(xs k)[j]?:=by
 induction N with
 |zero=>omega
 |succ N ih=>
  have hlen:((List.range N).flatMap xs).length=N*m:=by
   clear ih hk
   induction N with
   |zero=>simp
   |succ N ih2=>
    rw [List.range_succ,List.flatMap_append,List.length_append,ih2 (fun i hi=>hm i (by omega))]
    simp [hm N (by omega),Nat.succ_mul]
  rw [List.range_succ,List.flatMap_append]
  by_cases e:k=N
  ·subst e
   rw [List.getElem?_append_right (by rw [hlen];omega),hlen,Nat.add_sub_cancel_left]
   simp
  ·have h1:(k+1)*m<=N*m:=Nat.mul_le_mul_right m (by omega)
   rw [Nat.succ_mul]at h1
   rw [List.getElem?_append_left (by rw [hlen];omega)]
   exact ih (fun i hi=>hm i (by omega)) (by omega)
theorem Lst.cellAt{w:World}{e:TypeId}{m N s c k j:Nat}{xs:Nat->List Value}{y:Value}(h:Lst w e m (.slice (some ⟨s,0,none⟩) N c) N ((List.range N).flatMap xs))(hm:∀i,i<N->(xs i).length=m)(hk:k<N)(hj:j<m)(hy:(xs k)[j]? =some y):
  w.cell? ⟨s,k*m+j,none⟩=some y:=by
 obtain ⟨A,c2,e1,_,hh⟩:=h.src
 cases e1
 obtain ⟨ad,e2,hc⟩:=hh (by omega)
 cases e2
 have:=hc (k*m+j) y (by rw [flat_at hm hk hj];exact hy)
 rw [add_at,Nat.zero_add]at this
 exact this
theorem eq9_c(u v:Value)(ys:List (BitVec 64))(w:World)(hu:Src w 1 u ys.length (ys.map WV))(hv:Src w 1 v ys.length (ys.map WV))(hm:ys.length<=1000000):Calls Tryz.prog 9 #[u,v] w fun e w'=>e= .returned (.bool true)/\Fr (fun _=>False) w w':=
 (slEqual_c u v ys ys w hu hv hm hm).mono fun e w' ⟨⟨r,he,hr⟩,q,hw⟩=>⟨by rw [he,hr.2 rfl],by rw [hw];exact (Fr.refl _ w).drewN q⟩
theorem eq11_c(o1 o2:Option Addr)(n c1 c2:Nat)(zs:List Int)(w:World)(hn:zs.length=n)(hu:Src w 1 (.slice o1 n c1) n (zs.map (fun z=>Value.int .u8 z)))(hv:Src w 1 (.slice o2 n c2) n (zs.map (fun z=>Value.int .u8 z))):
  Calls Tryz.prog 11 #[.slice o1 n c1,.slice o2 n c2] w fun e w'=>e= .returned (.bool true)/\Fr (fun _=>False) w w':=by
 have hb:∀(o:Option Addr) (c:Nat),Src w 1 (.slice o n c) n (zs.map (fun z=>Value.int .u8 z))->Lib.BytesIn w o n zs:=fun o c ⟨A,c',e1,_,hh⟩ hp=>by
  cases e1
  obtain ⟨ad,rfl,hc⟩:=hh hp
  refine (Lib.BytesIn.of_cells (fun i hi=>?_)) hp
  refine hc i _ ?_
  rw [List.getElem?_map,List.getElem?_eq_getElem (by omega)]
  simp [List.getD_eq_getElem?_getD,List.getElem?_eq_getElem (show i<zs.length by omega)]
 exact (Tryz.bytes_Equal_all o1 o2 n c1 n c2 zs zs w hn hn (hb _ _ hu) (hb _ _ hv)).mono fun e w' ⟨he,hw⟩=>⟨by rw [he];simp,by rw [hw];exact Fr.refl _ w⟩
theorem words_int(ys:List (BitVec 64)):∀y∈ys.map WV,∃z:Int,y= .int .u64 z:=by
 intro y hy
 obtain ⟨x,_,rfl⟩:=List.mem_map.1 hy
 exact ⟨_,rfl⟩
structure FnW(wr w2 w4:World)(op:Int)(cs:Array Value):Prop where
 c0:w4.cell? ⟨wr.heap.size,0,none⟩=some (.int .i64 op)
 p7:w4.heap[w2.heap.size]? =some (.cells cs 35 (0,0))
 p9:w4.heap[w2.heap.size+1]? =some (.cells #[.bool false,.int .i64 0,.int .u64 0,.string { data:= #[] },nilV,nilV] 40 (0,0))
 fr:Fr (fun _=>False) w2 w4
theorem fnMid{wr w1 w2:World}{op:Int}(cs:Array Value)(h0:w1.cell? ⟨wr.heap.size,0,none⟩=some (.int .i64 op))(hf:Fr (fun _=>False) w1 w2):
  ∃w4,(w2.alloc (.cells cs 35)).alloc (.cells #[.bool false,.int .i64 0,.int .u64 0,.string { data:= #[] },nilV,nilV] 40)=w4/\Hid (FnW wr w2 w4 op cs):=by
 have f4:Fr (fun _=>False) w2 ((w2.alloc (.cells cs 35)).alloc (.cells #[.bool false,.int .i64 0,.int .u64 0,.string { data:= #[] },nilV,nilV] 40)):=((Fr.refl _ w2).alloc _).alloc _
 have h1:=hp_new (w2.alloc (.cells cs 35)) (.cells #[.bool false,.int .i64 0,.int .u64 0,.string { data:= #[] },nilV,nilV] 40)
 rw [World.size_alloc]at h1
 exact ⟨_,rfl,((hf.trans f4).cell (a:=⟨wr.heap.size,0,none⟩) (block_lt_of_cell h0) (fun h=>h)).trans h0,alloc_at (hp_new w2 _) _,h1,f4⟩
theorem fnSix{w3:World}{p:Nat}{x0 x1 x2 x3 x4 x5:Value}{t:TypeId}(hp:w3.heap[p]? =some (.cells #[x0,x1,x2,x3,x4,x5] t (0,0)))(y0 y1 y2 y3 y4 y5:Value):
  ∃w4,((((((w3.setCell ⟨p,0,none⟩ y0).setCell ⟨p,1,none⟩ y1).setCell ⟨p,2,none⟩ y2).setCell ⟨p,3,none⟩ y3).setCell ⟨p,4,none⟩ y4).setCell ⟨p,5,none⟩ y5)=w4/\w4.cell? ⟨p,0,none⟩=some y0/\w4.cell? ⟨p,1,none⟩=some y1/\w4.cell? ⟨p,2,none⟩=some y2/\w4.cell? ⟨p,3,none⟩=some y3/\w4.cell? ⟨p,4,none⟩=some y4/\w4.cell? ⟨p,5,none⟩=some y5/\Hid (Fr (fun r=>r=p) w3 w4):=by
 have h0:(World.setCell _ ⟨p,0,none⟩ y0).heap[p]? =some (.cells #[y0,x1,x2,x3,x4,x5] t (0,0)):=hp_same _ p 0 y0 hp
 have h1:(World.setCell _ ⟨p,1,none⟩ y1).heap[p]? =some (.cells #[y0,y1,x2,x3,x4,x5] t (0,0)):=hp_same _ p 1 y1 h0
 have h2:(World.setCell _ ⟨p,2,none⟩ y2).heap[p]? =some (.cells #[y0,y1,y2,x3,x4,x5] t (0,0)):=hp_same _ p 2 y2 h1
 have h3:(World.setCell _ ⟨p,3,none⟩ y3).heap[p]? =some (.cells #[y0,y1,y2,y3,x4,x5] t (0,0)):=hp_same _ p 3 y3 h2
 have h4:(World.setCell _ ⟨p,4,none⟩ y4).heap[p]? =some (.cells #[y0,y1,y2,y3,y4,x5] t (0,0)):=hp_same _ p 4 y4 h3
 have h5:(World.setCell _ ⟨p,5,none⟩ y5).heap[p]? =some (.cells #[y0,y1,y2,y3,y4,y5] t (0,0)):=hp_same _ p 5 y5 h4
 have e:(fun r=>r=p) p\/w3.heap.size<=p:= .inl rfl
 exact ⟨_,rfl,hp_cell h5 0 rfl,hp_cell h5 1 rfl,hp_cell h5 2 rfl,hp_cell h5 3 rfl,hp_cell h5 4 rfl,hp_cell h5 5 rfl,((((((Fr.refl (fun r=>r=p) w3).setCell (a:=⟨p,0,none⟩) e y0).setCell (a:=⟨p,1,none⟩) e y1).setCell (a:=⟨p,2,none⟩) e y2).setCell (a:=⟨p,3,none⟩) e y3).setCell (a:=⟨p,4,none⟩) e y4).setCell (a:=⟨p,5,none⟩) e y5⟩
def alS:Nat->StD
 |0=>⟨0,0,0,0,0,0,3,0,[]⟩
 |1=>⟨0,0,0,0,0,0,70,0,[]⟩
 |_=>⟨41,0,0,0,0,0,0,0,[]⟩
def alL1:List Bool:=putL [] 3 true
def alL2:List Bool:=putL alL1 70 true
def alL:Nat->Nat->List Bool
 |0=>fun _=>[]
 |1=>upd (fun _=>[]) 0 alL1
 |_=>upd (upd (fun _=>[]) 0 alL1) 0 alL2
def alA:Nat->AnsD
 |0=>ans0D
 |1=>ans0D
 |_=>⟨false,cntN (mOf alL2) alL2.length,0,ES,[],[]⟩
theorem al_len1:alL1.length=4:=by rfl
theorem al_len2:alL2.length=71:=by rfl
theorem al_cnt:cntN (mOf alL2) alL2.length=2:=by rfl
theorem al_le(k:Nat)(i:Nat):(alL k i).length<=3000:=by
 have h1:alL1.length<=3000:=by rw [al_len1];decide
 have h2:alL2.length<=3000:=by rw [al_len2];decide
 rcases k with _|_|k <;> simp only [alL,upd] <;> (repeat (first|split|assumption|exact Nat.zero_le _))
theorem al_ok(k:Nat)(hk:k<3):(alS k).ok/\StepOK (alS k) (alL k) (alL (k+1)) (alA k):=by
 have d:∀ {i:Nat},(0:Nat)<4:=by intro;decide
 rcases k with _|_|_|k
 ·refine ⟨⟨by decide,by decide,by decide,by decide,by decide,by decide,by decide,.inl ⟨by decide,by decide⟩⟩,?_⟩
  exact imp_0 (alS 0) (alL 0) (by decide) (by decide) (by decide) (by decide) (al_le 0 _) rfl
 ·refine ⟨⟨by decide,by decide,by decide,by decide,by decide,by decide,by decide,.inl ⟨by decide,by decide⟩⟩,?_⟩
  exact imp_0 (alS 1) (alL 1) (by decide) (by decide) (by decide) (by decide) (al_le 1 _) rfl
 ·refine ⟨⟨by decide,by decide,by decide,by decide,by decide,by decide,by decide,.inr ⟨by decide,by decide⟩⟩,?_⟩
  exact imp_41 (alS 2) (alL 2) (by decide) (by decide) (by decide) (by decide) (al_le 2 _) (al_le 2 _) rfl
 ·omega
abbrev alRow:Array Value:= #[.int .i64 0,.int .i64 0,.int .i64 0,.int .i64 0,.int .u64 0,.int .u64 0,.int .u64 3,.int .u64 0,.slice none 0 0,.int .i64 0,.int .i64 0,.int .i64 0,.int .i64 0,.int .u64 0,.int .u64 0,.int .u64 70,.int .u64 0,.slice none 0 0,.int .i64 41,.int .i64 0,.int .i64 0,.int .i64 0,.int .u64 0,.int .u64 0,.int .u64 0,.int .u64 0,.slice none 0 0]
theorem al_std(w:World):StdR (w.alloc (.cells alRow 32)) (some ⟨w.heap.size,0,none⟩) 3 alS (fun _=> .slice none 0 0):=by
 have h:=hp_new w (.cells alRow 32)
 refine ⟨fun _=>⟨w.heap.size,0,rfl,fun i hi=>?_⟩,fun i hi=>?_⟩
 ·rcases i with _|_|_|i
  ·exact ⟨hp_cell h 0 rfl,hp_cell h 1 rfl,hp_cell h 2 rfl,hp_cell h 3 rfl,hp_cell h 4 rfl,hp_cell h 5 rfl,hp_cell h 6 rfl,hp_cell h 7 rfl,hp_cell h 8 rfl⟩
  ·exact ⟨hp_cell h 9 rfl,hp_cell h 10 rfl,hp_cell h 11 rfl,hp_cell h 12 rfl,hp_cell h 13 rfl,hp_cell h 14 rfl,hp_cell h 15 rfl,hp_cell h 16 rfl,hp_cell h 17 rfl⟩
  ·exact ⟨hp_cell h 18 rfl,hp_cell h 19 rfl,hp_cell h 20 rfl,hp_cell h 21 rfl,hp_cell h 22 rfl,hp_cell h 23 rfl,hp_cell h 24 rfl,hp_cell h 25 rfl,hp_cell h 26 rfl⟩
  ·omega
 ·rcases i with _|_|_|i
  ·exact Src.none _ _ _
  ·exact Src.none _ _ _
  ·exact Src.none _ _ _
  ·omega
theorem alive_c(w:World)(h8:8<=w.heap.size)(hT:Tab64 w)(hP:PowT w):Calls Tryz.prog 13 #[] w fun e w'=>e= .returned (.bool true)/\Fr (fun _=>False) w w':=by
 have hf:Fr (fun _=>False) w (w.alloc (.cells alRow 32)):=(Fr.refl _ w).alloc _
 have hS:=script_c 3 3 (some ⟨w.heap.size,0,none⟩) alS (fun _=> .slice none 0 0) alL alA (w.alloc (.cells alRow 32)) (by decide) (by have:=hf.size;omega) (hT.keep hf (fun h=>h)) (hP.keep hf (fun h=>h)) (al_std w) al_ok (fun k _ i _=>al_le k i) rfl
 have HS:=Lib.hid hS;have HF:=Lib.hid hf;clear hS hf hT hP h8
 unfold alRow at HS HF
 go_enter Tryz.func13,Tryz.ntmps13
 go_wp2_with (go_at_call 8;(with_reducible refine HS.out.mono ?_);rintro e w2 ⟨v,u,xs,ys,rfl,hv,hu,ht,hy,hf2⟩;refine Hid.out ?_)
 refine Lib.hid ?_
 obtain ⟨g,cg,rfl⟩:=Lst.form hv (by decide)
 obtain ⟨g2,cg2,rfl⟩:=Lst.form hu (by decide)
 have hx7:∀i,i<3->(xs i).length=7:=fun i hi=>by
  obtain ⟨n,l,b,hx,_⟩:=ht i hi
  rw [hx];rfl
 have hy2:∀i,i<4->(ys i).length=2:=fun i hi=>by
  obtain ⟨v,hx,_⟩:=hy i hi
  rw [hx];rfl
 have c1:w2.cell? ⟨g,16,none⟩=some (.int .u64 2):=by
  obtain ⟨n,l,b,hx,hn,_⟩:=ht 2 (by decide)
  have hn2:n=2:=(hn (.inr (.inl (by decide)))).trans al_cnt
  exact Lst.cellAt hv (k:=2) (j:=2) hx7 (by decide) (by decide) (by rw [hx,hn2];rfl)
 have c2:w2.cell? ⟨g2,0,none⟩=some (.int .u64 71):=by
  obtain ⟨v,hx,_⟩:=hy 0 (by decide)
  exact Lst.cellAt hu (k:=0) (j:=0) hy2 (by decide) (by decide) (by rw [hx,show (alL 3 0).length=71 from al_len2];rfl)
 have HF2:=Lib.hid hf2
 clear hv hu ht hy hf2 hx7 hy2 HS
 go_wp2
 go_ret
 exact ⟨rfl,HF.out.trans HF2.out⟩
end Go.Proofs.YtobdfhlmipcjbaaGreatDoor
