/- impl: the steps that change a set in place, on the reference's lists. impl: the steps that make. -/
import Derived.Deep.Slices
import Derived.ChangeSlices
import Derived.OpenShut
import Derived.Test.YtobdfhlmipcjbaaGreatDoorG01
import Derived.Test.YtobdfhlmipcjbaaGreatDoorG03
import Derived.Test.YtobdfhlmipcjbaaGreatDoorG04
import Derived.Test.YtobdfhlmipcjbaaGreatDoorG05
import Derived.Test.YtobdfhlmipcjbaaGreatDoorG06
import Derived.Test.YtobdfhlmipcjbaaGreatDoorG07
import Derived.Test.YtobdfhlmipcjbaaGreatDoorG18
import Derived.Test.YtobdfhlmipcjbaaGreatDoorG20
import Derived.Test.YtobdfhlmipcjbaaGreatDoorG21
import Derived.Test.YtobdfhlmipcjbaaGreatDoorG22
import Derived.Test.YtobdfhlmipcjbaaGreatDoorG24
import Derived.Test.YtobdfhlmipcjbaaGreatDoorG30
import Derived.Test.YtobdfhlmipcjbaaGreatDoorG33
import Derived.Test.YtobdfhlmipcjbaaGreatDoorG35
import Derived.Test.YtobdfhlmipcjbaaGreatDoorG36
import Derived.Test.YtobdfhlmipcjbaaGreatDoorG38
import Derived.Test.YtobdfhlmipcjbaaGreatDoorG39
set_option linter.unusedVariables false
set_option linter.unusedSimpArgs false
set_option maxRecDepth 100000
namespace Go.Proofs.YtobdfhlmipcjbaaGreatDoor
open Go.RowKit
theorem mutOf{w:World}{x:Nat}{v:Value}{L:Nat}{m:Nat->Bool}{r:Value}{args cargs:Array Value}{f:Nat}
  (hc:(∀w1,Fr (fun _=>False) w w1->Calls Tryz.prog f cargs w1 fun e w'=>e= .returned r/\(∃v',BA w' x v' L m/\Ch w1 w' x v v'))->
   Calls Tryz.prog 35 args w fun e w'=>e= .returned (.tuple #[])/\∃w1,Fr (fun _=>False) w w1/\∃v',BA w' x v' L m/\Ch w1 w' x v v')
  (h:∀w1,Fr (fun _=>False) w w1->Calls Tryz.prog f cargs w1 (MutA w1 x v L m r)):Calls Tryz.prog 35 args w (MutA w x v L m (.tuple #[])):=
 (hc fun w1 hf=>(h w1 hf).mono fun _ _ hp=>hp).mono fun e w' ⟨he,w1,hf,v',hb,hk⟩=>⟨he,v',hb,hk.pre hf⟩
theorem imp_0(s:StD)(ls:Nat->List Bool)(ha:s.a<4)(hb:s.b<4)(hc:s.c<4)(hn:s.n<=2000)(h3:(ls s.a).length<=3000)(hop:s.op=0):StepOK s ls (upd ls s.a (putL (ls s.a) s.n true)) ans0D:=by
 refine stepC s ls (Or.inl (by rw [hop];omega)) ha hb hc (lw0 _ _) fun w R G bk vk many h=>?_
 obtain ⟨op,a,b,c,fr,to,n,wd,ws⟩:=s
 simp only at hop;subst hop
 dsimp only at*
 exact mutOf (r:=_) (chg_0 a b c fr to n (bk a) (bk b) wd many _ _ w) fun w1 hf=>have H:=h.keep hf (fun _ _ h=>h) (fun _ _ h=>h);set_c (bk a) n _ (vk a) _ w1 (by omega) (H.set a ha)
theorem imp_1(s:StD)(ls:Nat->List Bool)(ha:s.a<4)(hb:s.b<4)(hc:s.c<4)(hn:s.n<=2000)(h3:(ls s.a).length<=3000)(hop:s.op=1):StepOK s ls (upd ls s.a (putL (ls s.a) s.n false)) ans0D:=by
 refine stepC s ls (Or.inl (by rw [hop];omega)) ha hb hc (lw1 _ _) fun w R G bk vk many h=>?_
 obtain ⟨op,a,b,c,fr,to,n,wd,ws⟩:=s
 simp only at hop;subst hop
 dsimp only at*
 exact mutOf (r:=_) (chg_1 a b c fr to n (bk a) (bk b) wd many _ _ w) fun w1 hf=>have H:=h.keep hf (fun _ _ h=>h) (fun _ _ h=>h);clear_c (bk a) n _ (vk a) _ w1 (H.set a ha)
theorem imp_2t(s:StD)(ls:Nat->List Bool)(ha:s.a<4)(hb:s.b<4)(hc:s.c<4)(hn:s.n<=2000)(h3:(ls s.a).length<=3000)(hop:s.op=2)(ho:oddB s.wd=true):StepOK s ls (upd ls s.a (putL (ls s.a) s.n (oddB s.wd))) ans0D:=by
 refine stepC s ls (Or.inl (by rw [hop];omega)) ha hb hc (by rw [ho];exact lw0 _ _) fun w R G bk vk many h=>?_
 obtain ⟨op,a,b,c,fr,to,n,wd,ws⟩:=s
 simp only at hop;subst hop
 dsimp only at*
 exact mutOf (r:=_) (chg_2 a b c fr to n (bk a) (bk b) wd many _ _ w) fun w1 hf=>have H:=h.keep hf (fun _ _ h=>h) (fun _ _ h=>h);by rw [ho];exact setTo_true (bk a) n _ (vk a) _ w1 (by omega) (H.set a ha)
theorem imp_2f(s:StD)(ls:Nat->List Bool)(ha:s.a<4)(hb:s.b<4)(hc:s.c<4)(hn:s.n<=2000)(h3:(ls s.a).length<=3000)(hop:s.op=2)(ho:oddB s.wd=false):StepOK s ls (upd ls s.a (putL (ls s.a) s.n (oddB s.wd))) ans0D:=by
 refine stepC s ls (Or.inl (by rw [hop];omega)) ha hb hc (by rw [ho];exact lw1 _ _) fun w R G bk vk many h=>?_
 obtain ⟨op,a,b,c,fr,to,n,wd,ws⟩:=s
 simp only at hop;subst hop
 dsimp only at*
 exact mutOf (r:=_) (chg_2 a b c fr to n (bk a) (bk b) wd many _ _ w) fun w1 hf=>have H:=h.keep hf (fun _ _ h=>h) (fun _ _ h=>h);by rw [ho];exact setTo_false (bk a) n _ (vk a) _ w1 (H.set a ha)
theorem imp_3(s:StD)(ls:Nat->List Bool)(ha:s.a<4)(hb:s.b<4)(hc:s.c<4)(hn:s.n<=2000)(h3:(ls s.a).length<=3000)(hop:s.op=3):StepOK s ls (upd ls s.a (longL (putL (ls s.a) s.n (!mOf (ls s.a) s.n)) (s.n+1))) ans0D:=by
 refine stepC s ls (Or.inl (by rw [hop];omega)) ha hb hc (lw3 _ _) fun w R G bk vk many h=>?_
 obtain ⟨op,a,b,c,fr,to,n,wd,ws⟩:=s
 simp only at hop;subst hop
 dsimp only at*
 exact mutOf (r:=_) (chg_3 a b c fr to n (bk a) (bk b) wd many _ _ w) fun w1 hf=>have H:=h.keep hf (fun _ _ h=>h) (fun _ _ h=>h);flip_c (bk a) n _ (vk a) _ w1 (by omega) (H.set a ha)
theorem imp_4(s:StD)(ls:Nat->List Bool)(ha:s.a<4)(hb:s.b<4)(hc:s.c<4)(hn:s.n<=2000)(h3:(ls s.a).length<=3000)(hop:s.op=4)(hto:s.to<=2000)(hlt:s.fr<s.to):StepOK s ls (upd ls s.a (rngL (ls s.a) s.fr s.to false)) ans0D:=by
 refine stepC s ls (Or.inl (by rw [hop];omega)) ha hb hc (lwR _ _ _ _) fun w R G bk vk many h=>?_
 obtain ⟨op,a,b,c,fr,to,n,wd,ws⟩:=s
 simp only at hop;subst hop
 dsimp only at*
 exact mutOf (r:=_) (chg_4 a b c fr to n (bk a) (bk b) wd many _ _ w) fun w1 hf=>have H:=h.keep hf (fun _ _ h=>h) (fun _ _ h=>h);by have hx:=flipRange_c (bk a) fr to _ (vk a) _ w1 (by omega) (H.set a ha);rw [if_pos hlt]at hx;exact hx
theorem imp_5(s:StD)(ls:Nat->List Bool)(ha:s.a<4)(hb:s.b<4)(hc:s.c<4)(hn:s.n<=2000)(h3:(ls s.a).length<=3000)(hop:s.op=5)(hto:s.to<=2000)(hlt:s.fr<s.to):StepOK s ls (upd ls s.a (rngL (ls s.a) s.fr s.to true)) ans0D:=by
 refine stepC s ls (Or.inl (by rw [hop];omega)) ha hb hc (lwR _ _ _ _) fun w R G bk vk many h=>?_
 obtain ⟨op,a,b,c,fr,to,n,wd,ws⟩:=s
 simp only at hop;subst hop
 dsimp only at*
 exact mutOf (r:=_) (chg_5 a b c fr to n (bk a) (bk b) wd many _ _ w) fun w1 hf=>have H:=h.keep hf (fun _ _ h=>h) (fun _ _ h=>h);by have hx:=setRange_c (bk a) fr to _ (vk a) _ w1 (by omega) (H.set a ha);rw [if_pos hlt]at hx;exact hx
theorem imp_4n(s:StD)(ls:Nat->List Bool)(ha:s.a<4)(hb:s.b<4)(hc:s.c<4)(hn:s.n<=2000)(h3:(ls s.a).length<=3000)(hop:s.op=4)(hto:s.to<=2000)(hlt:s.to<=s.fr):StepOK s ls (upd ls s.a (ls s.a)) ans0D:=by
 refine stepC s ls (Or.inl (by rw [hop];omega)) ha hb hc (⟨rfl,rfl⟩) fun w R G bk vk many h=>?_
 obtain ⟨op,a,b,c,fr,to,n,wd,ws⟩:=s
 simp only at hop;subst hop
 dsimp only at*
 exact mutOf (r:=_) (chg_4 a b c fr to n (bk a) (bk b) wd many _ _ w) fun w1 hf=>have H:=h.keep hf (fun _ _ h=>h) (fun _ _ h=>h);by have hx:=flipRange_c (bk a) fr to _ (vk a) _ w1 (by omega) (H.set a ha);rw [if_neg (show ¬fr<to by omega)]at hx;rw [show (fun i=>if fr<=i/\i<to then _ else mOf (ls a) i)=mOf (ls a) from funext fun i=>if_neg (by omega)]at hx;exact hx
theorem imp_5n(s:StD)(ls:Nat->List Bool)(ha:s.a<4)(hb:s.b<4)(hc:s.c<4)(hn:s.n<=2000)(h3:(ls s.a).length<=3000)(hop:s.op=5)(hto:s.to<=2000)(hlt:s.to<=s.fr):StepOK s ls (upd ls s.a (ls s.a)) ans0D:=by
 refine stepC s ls (Or.inl (by rw [hop];omega)) ha hb hc (⟨rfl,rfl⟩) fun w R G bk vk many h=>?_
 obtain ⟨op,a,b,c,fr,to,n,wd,ws⟩:=s
 simp only at hop;subst hop
 dsimp only at*
 exact mutOf (r:=_) (chg_5 a b c fr to n (bk a) (bk b) wd many _ _ w) fun w1 hf=>have H:=h.keep hf (fun _ _ h=>h) (fun _ _ h=>h);by have hx:=setRange_c (bk a) fr to _ (vk a) _ w1 (by omega) (H.set a ha);rw [if_neg (show ¬fr<to by omega)]at hx;rw [show (fun i=>if fr<=i/\i<to then _ else mOf (ls a) i)=mOf (ls a) from funext fun i=>if_neg (by omega)]at hx;exact hx
theorem imp_6(s:StD)(ls:Nat->List Bool)(ha:s.a<4)(hb:s.b<4)(hc:s.c<4)(hn:s.n<=2000)(h3:(ls s.a).length<=3000)(hop:s.op=6)(hlt:s.n<(ls s.a).length):StepOK s ls (upd ls s.a ((ls s.a).take s.n++false::(ls s.a).drop s.n)) ans0D:=by
 refine stepC s ls (Or.inl (by rw [hop];omega)) ha hb hc (lw6 _ _ hlt) fun w R G bk vk many h=>?_
 obtain ⟨op,a,b,c,fr,to,n,wd,ws⟩:=s
 simp only at hop;subst hop
 dsimp only at*
 exact mutOf (r:=_) (chg_6 a b c fr to n (bk a) (bk b) wd many _ _ w) fun w1 hf=>have H:=h.keep hf (fun _ _ h=>h) (fun _ _ h=>h);insertAt_c (bk a) n _ (vk a) _ w1 hlt (by omega) (H.set a ha)
theorem imp_7(s:StD)(ls:Nat->List Bool)(ha:s.a<4)(hb:s.b<4)(hc:s.c<4)(hn:s.n<=2000)(h3:(ls s.a).length<=3000)(hop:s.op=7)(hlt:s.n<(ls s.a).length):StepOK s ls (upd ls s.a ((ls s.a).take s.n++(ls s.a).drop (s.n+1))) ans0D:=by
 refine stepC s ls (Or.inl (by rw [hop];omega)) ha hb hc (lw7 _ _ hlt) fun w R G bk vk many h=>?_
 obtain ⟨op,a,b,c,fr,to,n,wd,ws⟩:=s
 simp only at hop;subst hop
 dsimp only at*
 exact mutOf (r:=_) (chg_7 a b c fr to n (bk a) (bk b) wd many _ _ w) fun w1 hf=>have H:=h.keep hf (fun _ _ h=>h) (fun _ _ h=>h);deleteAt_c (bk a) n _ (vk a) _ w1 hlt (H.set a ha)
theorem imp_8(s:StD)(ls:Nat->List Bool)(ha:s.a<4)(hb:s.b<4)(hc:s.c<4)(hn:s.n<=2000)(h3:(ls s.a).length<=3000)(hop:s.op=8)(hlt:s.n<(ls s.a).length):StepOK s ls (upd ls s.a ((ls s.a).take (s.n+1))) ans0D:=by
 refine stepC s ls (Or.inl (by rw [hop];omega)) ha hb hc (lw8 _ _ hlt) fun w R G bk vk many h=>?_
 obtain ⟨op,a,b,c,fr,to,n,wd,ws⟩:=s
 simp only at hop;subst hop
 dsimp only at*
 exact mutOf (r:=_) (chg_8 a b c fr to n (bk a) (bk b) wd many _ _ w) fun w1 hf=>have H:=h.keep hf (fun _ _ h=>h) (fun _ _ h=>h);shrink_in (bk a) n _ (vk a) _ w1 hlt (H.set a ha)
theorem imp_10(s:StD)(ls:Nat->List Bool)(ha:s.a<4)(hb:s.b<4)(hc:s.c<4)(hn:s.n<=2000)(h3:(ls s.a).length<=3000)(hop:s.op=10):StepOK s ls (upd ls s.a (List.replicate (ls s.a).length false)) ans0D:=by
 refine stepC s ls (Or.inl (by rw [hop];omega)) ha hb hc (lw10 _) fun w R G bk vk many h=>?_
 obtain ⟨op,a,b,c,fr,to,n,wd,ws⟩:=s
 simp only at hop;subst hop
 dsimp only at*
 exact mutOf (r:=_) (chg_10 a b c fr to n (bk a) (bk b) wd many _ _ w) fun w1 hf=>have H:=h.keep hf (fun _ _ h=>h) (fun _ _ h=>h);clearAll_c (bk a) _ (vk a) _ w1 (H.set a ha)
theorem imp_11(s:StD)(ls:Nat->List Bool)(ha:s.a<4)(hb:s.b<4)(hc:s.c<4)(hn:s.n<=2000)(h3:(ls s.a).length<=3000)(hop:s.op=11):StepOK s ls (upd ls s.a (joinL (ls s.a) (ls s.a) (fun _ _=>true) (ls s.a).length)) ans0D:=by
 refine stepC s ls (Or.inl (by rw [hop];omega)) ha hb hc (lwJ _ _ _ _ (below (ls s.a).length) (fun i=>by unfold below;split <;> simp_all)) fun w R G bk vk many h=>?_
 obtain ⟨op,a,b,c,fr,to,n,wd,ws⟩:=s
 simp only at hop;subst hop
 dsimp only at*
 exact mutOf (r:=_) (chg_11 a b c fr to n (bk a) (bk b) wd many _ _ w) fun w1 hf=>have H:=h.keep hf (fun _ _ h=>h) (fun _ _ h=>h);setAll_c (bk a) _ (vk a) _ w1 (H.set a ha)
theorem imp_12(s:StD)(ls:Nat->List Bool)(ha:s.a<4)(hb:s.b<4)(hc:s.c<4)(hn:s.n<=2000)(h3:(ls s.a).length<=3000)(hop:s.op=12):StepOK s ls (upd ls s.a (joinL (ls s.a) (ls s.b) (fun x y=>x||y) (max (ls s.a).length (ls s.b).length))) ans0D:=by
 refine stepC s ls (Or.inl (by rw [hop];omega)) ha hb hc (lwJ (ls s.a) (ls s.b) (fun x y=>x||y) (max (ls s.a).length (ls s.b).length) (fun i=>mOf (ls s.a) i||mOf (ls s.b) i) (fun i=>by split;exact rfl;rw [mOf_out (ls s.a) (by omega),mOf_out (ls s.b) (by omega)];rfl)) fun w R G bk vk many h=>?_
 obtain ⟨op,a,b,c,fr,to,n,wd,ws⟩:=s
 simp only at hop;subst hop
 dsimp only at*
 exact mutOf (r:=_) (chg_12 a b c fr to n (bk a) (bk b) wd many _ _ w) fun w1 hf=>have H:=h.keep hf (fun _ _ h=>h) (fun _ _ h=>h);ipUnion_c (bk a) (bk b) _ _ (vk a) (vk b) _ _ w1 (H.set a ha) (H.set b hb) (h.two ha hb)
theorem imp_13(s:StD)(ls:Nat->List Bool)(ha:s.a<4)(hb:s.b<4)(hc:s.c<4)(hn:s.n<=2000)(h3:(ls s.a).length<=3000)(hop:s.op=13):StepOK s ls (upd ls s.a (joinL (ls s.a) (ls s.b) (fun x y=>x&&y) (max (ls s.a).length (ls s.b).length))) ans0D:=by
 refine stepC s ls (Or.inl (by rw [hop];omega)) ha hb hc (lwJ (ls s.a) (ls s.b) (fun x y=>x&&y) (max (ls s.a).length (ls s.b).length) (fun i=>mOf (ls s.a) i&&mOf (ls s.b) i) (fun i=>by split;exact rfl;rw [mOf_out (ls s.a) (by omega),mOf_out (ls s.b) (by omega)];rfl)) fun w R G bk vk many h=>?_
 obtain ⟨op,a,b,c,fr,to,n,wd,ws⟩:=s
 simp only at hop;subst hop
 dsimp only at*
 exact mutOf (r:=_) (chg_13 a b c fr to n (bk a) (bk b) wd many _ _ w) fun w1 hf=>have H:=h.keep hf (fun _ _ h=>h) (fun _ _ h=>h);ipInt_c (bk a) (bk b) _ _ (vk a) (vk b) _ _ w1 (H.set a ha) (H.set b hb) (h.two ha hb)
theorem imp_14(s:StD)(ls:Nat->List Bool)(ha:s.a<4)(hb:s.b<4)(hc:s.c<4)(hn:s.n<=2000)(h3:(ls s.a).length<=3000)(hop:s.op=14):StepOK s ls (upd ls s.a (joinL (ls s.a) (ls s.b) (fun x y=>x&& !y) (ls s.a).length)) ans0D:=by
 refine stepC s ls (Or.inl (by rw [hop];omega)) ha hb hc (lwJ (ls s.a) (ls s.b) (fun x y=>x&& !y) (ls s.a).length (fun i=>mOf (ls s.a) i&& !mOf (ls s.b) i) (fun i=>by split;exact rfl;rw [mOf_out (ls s.a) (by omega)];rfl)) fun w R G bk vk many h=>?_
 obtain ⟨op,a,b,c,fr,to,n,wd,ws⟩:=s
 simp only at hop;subst hop
 dsimp only at*
 exact mutOf (r:=_) (chg_14 a b c fr to n (bk a) (bk b) wd many _ _ w) fun w1 hf=>have H:=h.keep hf (fun _ _ h=>h) (fun _ _ h=>h);ipDif_c (bk a) (bk b) _ _ (vk a) (vk b) _ _ w1 (H.set a ha) (H.set b hb) (h.two ha hb)
theorem imp_15(s:StD)(ls:Nat->List Bool)(ha:s.a<4)(hb:s.b<4)(hc:s.c<4)(hn:s.n<=2000)(h3:(ls s.a).length<=3000)(hop:s.op=15):StepOK s ls (upd ls s.a (joinL (ls s.a) (ls s.b) (fun x y=>x^^y) (max (ls s.a).length (ls s.b).length))) ans0D:=by
 refine stepC s ls (Or.inl (by rw [hop];omega)) ha hb hc (lwJ (ls s.a) (ls s.b) (fun x y=>x^^y) (max (ls s.a).length (ls s.b).length) (fun i=>mOf (ls s.a) i^^mOf (ls s.b) i) (fun i=>by split;exact rfl;rw [mOf_out (ls s.a) (by omega),mOf_out (ls s.b) (by omega)];rfl)) fun w R G bk vk many h=>?_
 obtain ⟨op,a,b,c,fr,to,n,wd,ws⟩:=s
 simp only at hop;subst hop
 dsimp only at*
 exact mutOf (r:=_) (chg_15 a b c fr to n (bk a) (bk b) wd many _ _ w) fun w1 hf=>have H:=h.keep hf (fun _ _ h=>h) (fun _ _ h=>h);ipSym_c (bk a) (bk b) _ _ (vk a) (vk b) _ _ w1 (H.set a ha) (H.set b hb) (h.two ha hb)
theorem imp_9(s:StD)(ls:Nat->List Bool)(ha:s.a<4)(hb:s.b<4)(hc:s.c<4)(hn:s.n<=2000)(h3:(ls s.a).length<=3000)(hop:s.op=9)(hlt:max 1 ((topN (mOf (ls s.a)) (ls s.a).length+63)/64)*64<(ls s.a).length):StepOK s ls (upd ls s.a ((ls s.a).take (max 1 ((topN (mOf (ls s.a)) (ls s.a).length+63)/64)*64))) ans0D:=by
 refine stepC s ls (Or.inl (by rw [hop];omega)) ha hb hc (lw9 _ _ hlt (by omega)) fun w R G bk vk many h=>?_
 obtain ⟨op,a,b,c,fr,to,n,wd,ws⟩:=s
 simp only at hop;subst hop
 dsimp only at*
 exact mutOf (r:=_) (chg_9 a b c fr to n (bk a) (bk b) wd many _ _ w) fun w1 hf=>have H:=h.keep hf (fun _ _ h=>h) (fun _ _ h=>h);(compact_c (bk a) _ (vk a) _ w1 (H.set a ha)).mono fun e w2 ⟨k,hk,hp⟩=>by have e1:=tops_k _ k hk;rw [<- e1];rw [<- e1]at hlt;rw [show min (ls a).length (64*max 1 k)=max 1 k*64 by omega]at hp;exact hp
theorem imp_9n(s:StD)(ls:Nat->List Bool)(ha:s.a<4)(hb:s.b<4)(hc:s.c<4)(hn:s.n<=2000)(h3:(ls s.a).length<=3000)(hop:s.op=9)(hge:(ls s.a).length<=max 1 ((topN (mOf (ls s.a)) (ls s.a).length+63)/64)*64):StepOK s ls (upd ls s.a (ls s.a)) ans0D:=by
 refine stepC s ls (Or.inl (by rw [hop];omega)) ha hb hc (⟨rfl,rfl⟩) fun w R G bk vk many h=>?_
 obtain ⟨op,a,b,c,fr,to,n,wd,ws⟩:=s
 simp only at hop;subst hop
 dsimp only at*
 exact mutOf (r:=_) (chg_9 a b c fr to n (bk a) (bk b) wd many _ _ w) fun w1 hf=>have H:=h.keep hf (fun _ _ h=>h) (fun _ _ h=>h);(compact_c (bk a) _ (vk a) _ w1 (H.set a ha)).mono fun e w2 ⟨k,hk,hp⟩=>by have e1:=tops_k _ k hk;rw [<- e1]at hge;rw [show min (ls a).length (64*max 1 k)=(ls a).length by omega]at hp;exact hp
theorem imp_25(s:StD)(ls:Nat->List Bool)(ha:s.a<4)(hb:s.b<4)(hc:s.c<4)(hn:s.n<=2000)(h3:(ls s.a).length<=3000)(hop:s.op=25):StepOK s ls (upd ls s.a ((List.range (ls s.a).length).map (fun i=>mOf (ls s.a) (i+s.n)))) ans0D:=by
 refine stepC s ls (Or.inr (Or.inr hop)) ha hb hc (lw25 _ _) fun w R G bk vk many h=>?_
 obtain ⟨op,a,b,c,fr,to,n,wd,ws⟩:=s
 simp only at hop;subst hop
 dsimp only at*
 exact mutOf (r:=_) (chg_25 a b c fr to n (bk a) (bk b) wd many _ _ w) fun w1 hf=>have H:=h.keep hf (fun _ _ h=>h) (fun _ _ h=>h);shiftRight_c (bk a) n _ (vk a) _ w1 (by omega) (H.set a ha)
theorem imp_24(s:StD)(ls:Nat->List Bool)(ha:s.a<4)(hb:s.b<4)(hc:s.c<4)(hn:s.n<=2000)(h3:(ls s.a).length<=3000)(hop:s.op=24)(h0:0<topN (mOf (ls s.a)) (ls s.a).length)(hn0:0<s.n):StepOK s ls (upd ls s.a ((List.range (max (ls s.a).length (topN (mOf (ls s.a)) (ls s.a).length+s.n))).map (shF (mOf (ls s.a)) s.n (ls s.a).length))) ans0D:=by
 refine stepC s ls (Or.inr (Or.inl hop)) ha hb hc (lw24 _ _ h0) fun w R G bk vk many h=>?_
 obtain ⟨op,a,b,c,fr,to,n,wd,ws⟩:=s
 simp only at hop;subst hop
 dsimp only at*
 exact mutOf (r:=_) (chg_24 a b c fr to n (bk a) (bk b) wd many _ _ w) fun w1 hf=>have H:=h.keep hf (fun _ _ h=>h) (fun _ _ h=>h);by have ht:=topN_at _ _ h0;exact shl_main (bk a) n _ (topN (mOf (ls a)) (ls a).length-1) (vk a) _ w1 (H.set a ha) hn0 (by omega) ht.1 (fun j hj=>topN_over _ j (by omega))
theorem imp_24t(s:StD)(ls:Nat->List Bool)(ha:s.a<4)(hb:s.b<4)(hc:s.c<4)(hn:s.n<=2000)(h3:(ls s.a).length<=3000)(hop:s.op=24)(h0:topN (mOf (ls s.a)) (ls s.a).length=0):StepOK s ls (upd ls s.a (ls s.a)) ans0D:=by
 refine stepC s ls (Or.inr (Or.inl hop)) ha hb hc (⟨rfl,rfl⟩) fun w R G bk vk many h=>?_
 obtain ⟨op,a,b,c,fr,to,n,wd,ws⟩:=s
 simp only at hop;subst hop
 dsimp only at*
 exact mutOf (r:=_) (chg_24 a b c fr to n (bk a) (bk b) wd many _ _ w) fun w1 hf=>have H:=h.keep hf (fun _ _ h=>h) (fun _ _ h=>h);by rcases Nat.eq_zero_or_pos n with rfl|hn0;exact shl_zero (bk a) _ (vk a) _ w1 (H.set a ha);exact shl_none (bk a) n _ (vk a) _ w1 (H.set a ha) (fun j=>topN_over _ j (by omega)) hn0
theorem imp_24n(s:StD)(ls:Nat->List Bool)(ha:s.a<4)(hb:s.b<4)(hc:s.c<4)(hn:s.n<=2000)(h3:(ls s.a).length<=3000)(hop:s.op=24)(h0:s.n=0):StepOK s ls (upd ls s.a (ls s.a)) ans0D:=by
 refine stepC s ls (Or.inr (Or.inl hop)) ha hb hc (⟨rfl,rfl⟩) fun w R G bk vk many h=>?_
 obtain ⟨op,a,b,c,fr,to,n,wd,ws⟩:=s
 simp only at hop;subst hop
 dsimp only at*
 exact mutOf (r:=_) (chg_24 a b c fr to n (bk a) (bk b) wd many _ _ w) fun w1 hf=>have H:=h.keep hf (fun _ _ h=>h) (fun _ _ h=>h);by subst h0;exact shl_zero (bk a) _ (vk a) _ w1 (H.set a ha)
theorem imp_23(s:StD)(ls:Nat->List Bool)(ha:s.a<4)(hb:s.b<4)(hc:s.c<4)(hop:s.op=23):StepOK s ls (upd ls s.c (ls s.a)) ans0D:=by
 intro w R G cR bk vk many h _
 obtain ⟨op,a,b,c,fr,to,n,wd,ws⟩:=s
 simp only at hop;subst hop
 exact (dim_23 a b c fr to n R cR wd many bk _ w ha hb hc h.row fun w1 hf _=>have H:=h.keep hf (fun _ _ h=>h) (fun _ _ h=>h);(copyFull_c (bk a) (bk c) _ _ (vk a) (vk c) _ _ w1 (H.set a ha) (H.set c hc) ((h.two ha hc).elim (fun e=> .inl e) (fun e=> .inr (fun r hr hr2=>e r hr2 hr)))).mono
  fun e w' ⟨he,v',hv,hk⟩=>⟨he,⟨v',hv,hk⟩,h.old hc hk⟩).mono fun e w' hd=>imp_c h hc rfl rfl hd
theorem imp_22(s:StD)(ls:Nat->List Bool)(ha:s.a<4)(hb:s.b<4)(hc:s.c<4)(hop:s.op=22):
  StepOK s ls (upd ls s.c (copL (ls s.a) (ls s.c) (min (((ls s.a).length+63)/64*64) (ls s.c).length))) { ans0D with n:=min (ls s.a).length (ls s.c).length }:=by
 intro w R G cR bk vk many h _
 obtain ⟨op,a,b,c,fr,to,n,wd,ws⟩:=s
 simp only at hop;subst hop
 have hl:=lw22 (ls a) (ls c)
 exact (dim_22 a b c fr to n R cR wd many bk _ w ha hb hc h.row fun w1 hf _=>have H:=h.keep hf (fun _ _ h=>h) (fun _ _ h=>h);(copy_c (bk a) (bk c) _ _ (vk a) (vk c) _ _ w1 (H.set a ha) (H.set c hc) ((h.two ha hc).elim (fun e=> .inl e) (fun e=> .inr (fun r hr hr2=>e r hr2 hr)))).mono
  fun e w' ⟨he,v',hv,hk⟩=>⟨_,he,⟨rfl,v',hv,hk⟩,h.old hc hk⟩).mono fun e w' hd=>imp_k h hc hl.1 hl.2 hd
theorem imp_16(s:StD)(ls:Nat->List Bool)(ha:s.a<4)(hb:s.b<4)(hc:s.c<4)(hn:s.n<=2000)(h3:(ls s.a).length<=3000)(h4:(ls s.b).length<=3000)(hop:s.op=16):StepOK s ls (upd ls s.c (joinL (ls s.a) (ls s.b) (fun x y=>x||y) (max (ls s.a).length (ls s.b).length))) { ans0D with is:=false }:=by
 refine stepN s ls false (Or.inl ⟨by rw [hop];omega,by rw [hop];omega,by rw [hop];omega,by rw [hop];omega,by rw [hop];omega,by rw [hop];omega,by rw [hop];omega,rfl⟩) ha hb hc (lwJ (ls s.a) (ls s.b) (fun x y=>x||y) (max (ls s.a).length (ls s.b).length) (fun i=>mOf (ls s.a) i||mOf (ls s.b) i) (fun i=>by split;exact rfl;rw [mOf_out (ls s.a) (by omega),mOf_out (ls s.b) (by omega)];rfl)) fun w R G bk vk many h hs=>?_
 obtain ⟨op,a,b,c,fr,to,n,wd,ws⟩:=s
 simp only at hop;subst hop
 dsimp only at*
 exact mde_16 a b c fr to n (bk a) (bk b) _ wd many _ w fun w1 hf=>have H:=h.keep hf (fun _ _ h=>h) (fun _ _ h=>h);union_c (bk a) (bk b) _ _ (vk a) (vk b) _ _ w1 (H.set a ha) (H.set b hb)
theorem imp_17(s:StD)(ls:Nat->List Bool)(ha:s.a<4)(hb:s.b<4)(hc:s.c<4)(hn:s.n<=2000)(h3:(ls s.a).length<=3000)(h4:(ls s.b).length<=3000)(hop:s.op=17):StepOK s ls (upd ls s.c (joinL (ls s.a) (ls s.b) (fun x y=>x&&y) (min (ls s.a).length (ls s.b).length))) { ans0D with is:=false }:=by
 refine stepN s ls false (Or.inl ⟨by rw [hop];omega,by rw [hop];omega,by rw [hop];omega,by rw [hop];omega,by rw [hop];omega,by rw [hop];omega,by rw [hop];omega,rfl⟩) ha hb hc (lwJ (ls s.a) (ls s.b) (fun x y=>x&&y) (min (ls s.a).length (ls s.b).length) (fun i=>mOf (ls s.a) i&&mOf (ls s.b) i) (fun i=>by split;exact rfl;by_cases hx:i<(ls s.a).length;rw [mOf_out (ls s.b) (by omega),Bool.and_false];rw [mOf_out (ls s.a) (by omega),Bool.false_and])) fun w R G bk vk many h hs=>?_
 obtain ⟨op,a,b,c,fr,to,n,wd,ws⟩:=s
 simp only at hop;subst hop
 dsimp only at*
 exact mde_17 a b c fr to n (bk a) (bk b) _ wd many _ w fun w1 hf=>have H:=h.keep hf (fun _ _ h=>h) (fun _ _ h=>h);inter_c (bk a) (bk b) _ _ (vk a) (vk b) _ _ w1 (H.set a ha) (H.set b hb)
theorem imp_18(s:StD)(ls:Nat->List Bool)(ha:s.a<4)(hb:s.b<4)(hc:s.c<4)(hn:s.n<=2000)(h3:(ls s.a).length<=3000)(h4:(ls s.b).length<=3000)(hop:s.op=18):StepOK s ls (upd ls s.c (joinL (ls s.a) (ls s.b) (fun x y=>x&& !y) (ls s.a).length)) { ans0D with is:=false }:=by
 refine stepN s ls false (Or.inl ⟨by rw [hop];omega,by rw [hop];omega,by rw [hop];omega,by rw [hop];omega,by rw [hop];omega,by rw [hop];omega,by rw [hop];omega,rfl⟩) ha hb hc (lwJ (ls s.a) (ls s.b) (fun x y=>x&& !y) (ls s.a).length (fun i=>mOf (ls s.a) i&& !mOf (ls s.b) i) (fun i=>by split;exact rfl;rw [mOf_out (ls s.a) (by omega)];rfl)) fun w R G bk vk many h hs=>?_
 obtain ⟨op,a,b,c,fr,to,n,wd,ws⟩:=s
 simp only at hop;subst hop
 dsimp only at*
 exact mde_18 a b c fr to n (bk a) (bk b) _ wd many _ w fun w1 hf=>have H:=h.keep hf (fun _ _ h=>h) (fun _ _ h=>h);mdif_c (bk a) (bk b) _ _ (vk a) (vk b) _ _ w1 (H.set a ha) (H.set b hb)
theorem imp_19(s:StD)(ls:Nat->List Bool)(ha:s.a<4)(hb:s.b<4)(hc:s.c<4)(hn:s.n<=2000)(h3:(ls s.a).length<=3000)(h4:(ls s.b).length<=3000)(hop:s.op=19):StepOK s ls (upd ls s.c (joinL (ls s.a) (ls s.b) (fun x y=>x^^y) (max (ls s.a).length (ls s.b).length))) { ans0D with is:=false }:=by
 refine stepN s ls false (Or.inl ⟨by rw [hop];omega,by rw [hop];omega,by rw [hop];omega,by rw [hop];omega,by rw [hop];omega,by rw [hop];omega,by rw [hop];omega,rfl⟩) ha hb hc (lwJ (ls s.a) (ls s.b) (fun x y=>x^^y) (max (ls s.a).length (ls s.b).length) (fun i=>mOf (ls s.a) i^^mOf (ls s.b) i) (fun i=>by split;exact rfl;rw [mOf_out (ls s.a) (by omega),mOf_out (ls s.b) (by omega)];rfl)) fun w R G bk vk many h hs=>?_
 obtain ⟨op,a,b,c,fr,to,n,wd,ws⟩:=s
 simp only at hop;subst hop
 dsimp only at*
 exact mde_19 a b c fr to n (bk a) (bk b) _ wd many _ w fun w1 hf=>have H:=h.keep hf (fun _ _ h=>h) (fun _ _ h=>h);symdif_c (bk a) (bk b) _ _ (vk a) (vk b) _ _ w1 (H.set a ha) (H.set b hb)
theorem imp_20(s:StD)(ls:Nat->List Bool)(ha:s.a<4)(hb:s.b<4)(hc:s.c<4)(hn:s.n<=2000)(h3:(ls s.a).length<=3000)(h4:(ls s.b).length<=3000)(hop:s.op=20):StepOK s ls (upd ls s.c (joinL (ls s.a) (ls s.a) (fun x _=>!x) (ls s.a).length)) { ans0D with is:=false }:=by
 refine stepN s ls false (Or.inl ⟨by rw [hop];omega,by rw [hop];omega,by rw [hop];omega,by rw [hop];omega,by rw [hop];omega,by rw [hop];omega,by rw [hop];omega,rfl⟩) ha hb hc (lwJ (ls s.a) (ls s.a) (fun x _=>!x) (ls s.a).length (fun i=>below (ls s.a).length i&& !mOf (ls s.a) i) (fun i=>by unfold below;split;rw [decide_eq_true (by assumption),Bool.true_and];rw [decide_eq_false (by assumption),Bool.false_and])) fun w R G bk vk many h hs=>?_
 obtain ⟨op,a,b,c,fr,to,n,wd,ws⟩:=s
 simp only at hop;subst hop
 dsimp only at*
 exact mde_20 a b c fr to n (bk a) (bk b) _ wd many _ w fun w1 hf=>have H:=h.keep hf (fun _ _ h=>h) (fun _ _ h=>h);complement_c (bk a) _ (vk a) _ w1 (H.set a ha)
theorem imp_21(s:StD)(ls:Nat->List Bool)(ha:s.a<4)(hb:s.b<4)(hc:s.c<4)(hn:s.n<=2000)(h3:(ls s.a).length<=3000)(h4:(ls s.b).length<=3000)(hop:s.op=21):StepOK s ls (upd ls s.c (ls s.a)) { ans0D with is:=false }:=by
 refine stepN s ls false (Or.inl ⟨by rw [hop];omega,by rw [hop];omega,by rw [hop];omega,by rw [hop];omega,by rw [hop];omega,by rw [hop];omega,by rw [hop];omega,rfl⟩) ha hb hc (⟨rfl,rfl⟩) fun w R G bk vk many h hs=>?_
 obtain ⟨op,a,b,c,fr,to,n,wd,ws⟩:=s
 simp only at hop;subst hop
 dsimp only at*
 exact mde_21 a b c fr to n (bk a) (bk b) _ wd many _ w fun w1 hf=>have H:=h.keep hf (fun _ _ h=>h) (fun _ _ h=>h);clone_c (bk a) _ (vk a) _ w1 (H.set a ha)
theorem imp_26(s:StD)(ls:Nat->List Bool)(ha:s.a<4)(hb:s.b<4)(hc:s.c<4)(hn:s.n<=2000)(h3:(ls s.a).length<=3000)(h4:(ls s.b).length<=3000)(hop:s.op=26):StepOK s ls (upd ls s.c ((numsN (mOf (ls s.b)) (ls s.b).length).map (mOf (ls s.a)))) { ans0D with is:=false }:=by
 refine stepN s ls false (Or.inl ⟨by rw [hop];omega,by rw [hop];omega,by rw [hop];omega,by rw [hop];omega,by rw [hop];omega,by rw [hop];omega,by rw [hop];omega,rfl⟩) ha hb hc (lw26 _ _) fun w R G bk vk many h hs=>?_
 obtain ⟨op,a,b,c,fr,to,n,wd,ws⟩:=s
 simp only at hop;subst hop
 dsimp only at*
 exact mde_26 a b c fr to n (bk a) (bk b) _ wd many _ w fun w1 hf=>have H:=h.keep hf (fun _ _ h=>h) (fun _ _ h=>h);extract_c (bk a) (bk b) _ _ (vk a) (vk b) _ _ w1 (H.set a ha) (H.set b hb)
theorem imp_27(s:StD)(ls:Nat->List Bool)(ha:s.a<4)(hb:s.b<4)(hc:s.c<4)(hn:s.n<=2000)(h3:(ls s.a).length<=3000)(h4:(ls s.b).length<=3000)(hop:s.op=27):StepOK s ls (upd ls s.c ((List.range (ls s.b).length).map (fun i=>mOf (ls s.b) i&&mOf (ls s.a) (cntN (mOf (ls s.b)) i)))) { ans0D with is:=false }:=by
 refine stepN s ls false (Or.inl ⟨by rw [hop];omega,by rw [hop];omega,by rw [hop];omega,by rw [hop];omega,by rw [hop];omega,by rw [hop];omega,by rw [hop];omega,rfl⟩) ha hb hc (lw27 _ _) fun w R G bk vk many h hs=>?_
 obtain ⟨op,a,b,c,fr,to,n,wd,ws⟩:=s
 simp only at hop;subst hop
 dsimp only at*
 exact mde_27 a b c fr to n (bk a) (bk b) _ wd many _ w fun w1 hf=>have H:=h.keep hf (fun _ _ h=>h) (fun _ _ h=>h);deposit_c (bk a) (bk b) _ _ (vk a) (vk b) _ _ w1 (H.set a ha) (H.set b hb)
theorem imp_30(s:StD)(ls:Nat->List Bool)(ha:s.a<4)(hb:s.b<4)(hc:s.c<4)(hn:s.n<=2000)(h3:(ls s.a).length<=3000)(h4:(ls s.b).length<=3000)(hop:s.op=30):StepOK s ls (upd ls s.c (List.replicate s.n false)) { ans0D with is:=false }:=by
 refine stepN s ls false (Or.inl ⟨by rw [hop];omega,by rw [hop];omega,by rw [hop];omega,by rw [hop];omega,by rw [hop];omega,by rw [hop];omega,by rw [hop];omega,rfl⟩) ha hb hc (lw10 _) fun w R G bk vk many h hs=>?_
 obtain ⟨op,a,b,c,fr,to,n,wd,ws⟩:=s
 simp only at hop;subst hop
 dsimp only at*
 exact mde_30 a b c fr to n (bk a) (bk b) _ wd many _ w fun w1 hf=>have H:=h.keep hf (fun _ _ h=>h) (fun _ _ h=>h);new_a n w1 (by omega)
theorem imp_28(s:StD)(ls:Nat->List Bool)(ha:s.a<4)(hb:s.b<4)(hc:s.c<4)(hn:s.n<=2000)(h3:(ls s.a).length<=3000)(h4:(ls s.b).length<=3000)(hop:s.op=28)(hM:s.ws.length<=20):StepOK s ls (upd ls s.c ((List.range (64*s.ws.length)).map (bitsOf s.ws))) { ans0D with is:=false }:=by
 refine stepN s ls false (Or.inl ⟨by rw [hop];omega,by rw [hop];omega,by rw [hop];omega,by rw [hop];omega,by rw [hop];omega,by rw [hop];omega,by rw [hop];omega,rfl⟩) ha hb hc (lw28 _ _ rfl) fun w R G bk vk many h hs=>?_
 obtain ⟨op,a,b,c,fr,to,n,wd,ws⟩:=s
 simp only at hop;subst hop
 dsimp only at*
 exact mde_28 a b c fr to n (bk a) (bk b) ws.length wd many ws w rfl (by omega) hs
theorem imp_29(s:StD)(ls:Nat->List Bool)(ha:s.a<4)(hb:s.b<4)(hc:s.c<4)(hn:s.n<=2000)(h3:(ls s.a).length<=3000)(h4:(ls s.b).length<=3000)(hop:s.op=29):StepOK s ls (upd ls s.c (ls s.a)) { ans0D with is:=true }:=by
 refine stepN s ls true (Or.inr ⟨hop,rfl⟩) ha hb hc (⟨rfl,rfl⟩) fun w R G bk vk many h hs=>?_
 obtain ⟨op,a,b,c,fr,to,n,wd,ws⟩:=s
 simp only at hop;subst hop
 dsimp only at*
 rcases Nat.mod_two_eq_zero_or_one n with hp|hp
 ·exact mde_29 a b c fr to n (bk a) (bk b) _ false wd many _ w (by simp;omega) fun w1 hf=>have H:=h.keep hf (fun _ _ h=>h) (fun _ _ h=>h);read_plain (bk a) _ (vk a) _ w1 (by omega) (H.set a ha)
 ·exact mde_29 a b c fr to n (bk a) (bk b) _ true wd many _ w (by simp;omega) fun w1 hf=>have H:=h.keep hf (fun _ _ h=>h) (fun _ _ h=>h);read_stream (bk a) _ (vk a) _ w1 (by omega) (H.set a ha)
abbrev ES:ByteArray:={ data:= #[] }
def QB(Q:Bool->Prop)(is:Bool)(n:Nat)(z:Int)(t:ByteArray)(xs bs:List Value):Prop:=Q is/\n=0/\z=0/\t=ES/\xs= []/\bs= []
def QN(Q:Nat->Prop)(is:Bool)(n:Nat)(z:Int)(t:ByteArray)(xs bs:List Value):Prop:=is=false/\Q n/\z=0/\t=ES/\xs= []/\bs= []
def QX(Q:Nat->Bool->Prop)(is:Bool)(n:Nat)(z:Int)(t:ByteArray)(xs bs:List Value):Prop:=Q n is/\z=0/\t=ES/\xs= []/\bs= []
theorem tlB{w w':World}{k:Int}{Q:Bool->Prop}{e:Ending}(h:TlB w k Q e w'):AskQ w k (QB Q) e w':=by
 obtain ⟨r,hq,ht⟩:=h;exact ⟨r,0,0,ES,[],[],⟨hq,rfl,rfl,rfl,rfl,rfl⟩,ht⟩
theorem tlN{w w':World}{k:Int}{Q:Nat->Prop}{e:Ending}(h:TlN w k Q e w'):AskQ w k (QN Q) e w':=by
 obtain ⟨r,hq,ht⟩:=h;exact ⟨false,r,0,ES,[],[],⟨rfl,hq,rfl,rfl,rfl,rfl⟩,ht⟩
theorem tlX{w w':World}{k:Int}{Q:Nat->Bool->Prop}{e:Ending}(h:TlX w k Q e w'):AskQ w k (QX Q) e w':=by
 obtain ⟨i,r,hq,ht⟩:=h;exact ⟨r,i,0,ES,[],[],⟨hq,rfl,rfl,rfl,rfl⟩,ht⟩
theorem hqB{op:Int}{Q:Bool->Prop}{r0:Bool}(h:∀r,Q r->r=r0):∀is n z t xs bs,QB Q is n z t xs bs->is=r0/\(r0=true\/op<53\/56<op->n=0)/\z=wn 0/\t=ES/\xs= []/\bs= []:=by
 rintro is n z t xs bs ⟨hq,rfl,rfl,rfl,rfl,rfl⟩;exact ⟨h _ hq,fun _=>rfl,rfl,rfl,rfl,rfl⟩
theorem hqN{op:Int}{Q:Nat->Prop}{n0:Nat}(h:∀n,Q n->n=n0):∀is n z t xs bs,QN Q is n z t xs bs->is=false/\(false=true\/op<53\/56<op->n=n0)/\z=wn 0/\t=ES/\xs= []/\bs= []:=by
 rintro is n z t xs bs ⟨rfl,hq,rfl,rfl,rfl,rfl⟩;exact ⟨rfl,fun _=>h _ hq,rfl,rfl,rfl,rfl⟩
theorem hqX{op:Int}(ho:53<=op/\op<=56){Q:Nat->Bool->Prop}{n0:Nat}{r0:Bool}(h:∀n r,Q n r->r=r0/\(r0=true->n=n0)):∀is n z t xs bs,QX Q is n z t xs bs->is=r0/\(r0=true\/op<53\/56<op->n=n0)/\z=wn 0/\t=ES/\xs= []/\bs= []:=by
 rintro is n z t xs bs ⟨hq,rfl,rfl,rfl,rfl⟩;exact ⟨(h _ _ hq).1,fun hh=>(h _ _ hq).2 (by rcases hh with h1|h1|h1;exact h1;omega;omega),rfl,rfl,rfl,rfl⟩
theorem frW{w w':World}(h:w'=w):Fr (fun _=>False) w w':=by rw [h];exact Fr.refl _ _
theorem frD{w w':World}(h:∃q,w'=w.drewN q):Fr (fun _=>False) w w':=by obtain ⟨q,rfl⟩:=h;exact (Fr.refl _ _).drewN q
theorem bool_of{r r0:Bool}(h:r=true↔r0=true):r=r0:=Bool.eq_iff_iff.2 h
theorem eqN(a b:Nat):(((a:Int)==(b:Int))=true)↔a=b:=by rw [beq_iff_eq];exact Int.ofNat_inj
theorem cnt_zero(l:List Bool):(∀i,mOf l i=false)↔cntN (mOf l) l.length=0:=by
 rw [cntN_zero]
 exact ⟨fun h i _=>h i,fun h i=>by by_cases hi:i<l.length;exact h i hi;exact mOf_out l (by omega)⟩
theorem shar_sup(a b:List Bool):shar a b=cntN (mOf b) b.length↔∀i,mOf b i=true->mOf a i=true:=by
 rw [shar_eq,<- cntN_both (fun i hi=>mOf_out a hi) (fun i hi=>mOf_out b hi) b.length (Nat.min_le_right _ _)]
 rw [cntN_eq_sub b.length (fun i _ h=>by simp at h;exact h.2)]
 constructor
 ·intro h i hb
  by_cases hi:i<b.length
  ·have:=h i hi;rw [hb,Bool.and_true]at this;exact this
  ·rw [mOf_out b (by omega)]at hb;cases hb
 ·intro h i _
  cases e:mOf b i
  ·rw [Bool.and_false]
  ·rw [h i e];rfl
theorem shar_sup'(a b:List Bool):shar a b=cntN (mOf a) a.length↔∀i,mOf a i=true->mOf b i=true:=by
 have h:=shar_sup b a
 rw [show shar a b=shar b a by rw [shar_eq,shar_eq,Nat.min_comm];exact cntN_ext _ fun i _=>Bool.and_comm _ _]
 exact h
theorem eql_iff(a b:List Bool):(a.length=b.length/\∀i,mOf a i=mOf b i)↔(a.length=b.length/\shar a b=cntN (mOf a) a.length)/\shar a b=cntN (mOf b) b.length:=by
 rw [shar_sup,shar_sup']
 constructor
 ·rintro ⟨h1,h2⟩;exact ⟨⟨h1,fun i h=>by rw [<- h2];exact h⟩,fun i h=>by rw [h2];exact h⟩
 ·rintro ⟨⟨h1,h2⟩,h3⟩;exact ⟨h1,fun i=>bool_of ⟨h2 i,h3 i⟩⟩
theorem imp_40(s:StD)(ls:Nat->List Bool)(ha:s.a<4)(hb:s.b<4)(hc:s.c<4)(hn:s.n<=2000)(h3:(ls s.a).length<=3000)(h4:(ls s.b).length<=3000)(hop:s.op=40):StepOK s ls ls ⟨(mOf (ls s.a) s.n),0,0,ES,[],[]⟩:=by
 have hQ:∀r:Bool,r=mOf (ls s.a) s.n->r=(mOf (ls s.a) s.n):=fun r h=>h
 have hcall:∀(w:World) (R G:Nat) (bk:Nat->Nat) (vk:Nat->Value) (many:Value),Imp w R G bk vk ls->Calls Tryz.prog 37 #[s.v many,.pointer (some ⟨bk s.a,0,none⟩)] w (AskQ w s.op (QB (fun r=>r=mOf (ls s.a) s.n))):=fun w R G bk vk many h=>by
  obtain ⟨op,a,b,c,fr,to,n,wd,ws⟩:=s
  simp only at hop;subst hop
  dsimp only at*
  exact (tls_40 a b c fr to n (bk a) wd many (fun r=>r=mOf (ls a) n) w fun w1 hf=>have H:=h.keep hf (fun _ _ h=>h) (fun _ _ h=>h);(test_c (bk a) n _ (vk a) _ w1 (by omega) (H.set a ha)).mono fun e w2 ⟨he,hw⟩=>⟨⟨_,he,rfl⟩,frD hw⟩).mono fun _ _ h=>tlB h
 exact stepQ s ls _ _ ha hb hc (hqB hQ) (Or.inl ⟨by rw [hop];omega,hcall⟩)
theorem imp_41(s:StD)(ls:Nat->List Bool)(ha:s.a<4)(hb:s.b<4)(hc:s.c<4)(hn:s.n<=2000)(h3:(ls s.a).length<=3000)(h4:(ls s.b).length<=3000)(hop:s.op=41):StepOK s ls ls ⟨false,(cntN (mOf (ls s.a)) (ls s.a).length),0,ES,[],[]⟩:=by
 have hQ:∀r:Nat,r=cntN (mOf (ls s.a)) (ls s.a).length->r=(cntN (mOf (ls s.a)) (ls s.a).length):=fun r h=>h
 have hcall:∀(w:World) (R G:Nat) (bk:Nat->Nat) (vk:Nat->Value) (many:Value),Imp w R G bk vk ls->Calls Tryz.prog 37 #[s.v many,.pointer (some ⟨bk s.a,0,none⟩)] w (AskQ w s.op (QN (fun r=>r=cntN (mOf (ls s.a)) (ls s.a).length))):=fun w R G bk vk many h=>by
  obtain ⟨op,a,b,c,fr,to,n,wd,ws⟩:=s
  simp only at hop;subst hop
  dsimp only at*
  exact (tls_41 a b c fr to n (bk a) wd many (fun r=>r=cntN (mOf (ls a)) (ls a).length) w fun w1 hf=>have H:=h.keep hf (fun _ _ h=>h) (fun _ _ h=>h);(count_c (bk a) _ (vk a) _ w1 (H.set a ha)).mono fun e w2 ⟨he,hw⟩=>⟨⟨_,he,rfl⟩,frW hw⟩).mono fun _ _ h=>tlN h
 exact stepQ s ls _ _ ha hb hc (hqN hQ) (Or.inl ⟨by rw [hop];omega,hcall⟩)
theorem imp_42(s:StD)(ls:Nat->List Bool)(ha:s.a<4)(hb:s.b<4)(hc:s.c<4)(hn:s.n<=2000)(h3:(ls s.a).length<=3000)(h4:(ls s.b).length<=3000)(hop:s.op=42):StepOK s ls ls ⟨false,((ls s.a).length),0,ES,[],[]⟩:=by
 have hQ:∀r:Nat,r=(ls s.a).length->r=((ls s.a).length):=fun r h=>h
 have hcall:∀(w:World) (R G:Nat) (bk:Nat->Nat) (vk:Nat->Value) (many:Value),Imp w R G bk vk ls->Calls Tryz.prog 37 #[s.v many,.pointer (some ⟨bk s.a,0,none⟩)] w (AskQ w s.op (QN (fun r=>r=(ls s.a).length))):=fun w R G bk vk many h=>by
  obtain ⟨op,a,b,c,fr,to,n,wd,ws⟩:=s
  simp only at hop;subst hop
  dsimp only at*
  exact (tls_42 a b c fr to n (bk a) wd many (fun r=>r=(ls a).length) w fun w1 hf=>have H:=h.keep hf (fun _ _ h=>h) (fun _ _ h=>h);(len_c (bk a) _ w1 (hp_cell (H.set a ha).2.blk 0 rfl)).mono fun e w2 ⟨he,hw⟩=>⟨⟨_,he,rfl⟩,frW hw⟩).mono fun _ _ h=>tlN h
 exact stepQ s ls _ _ ha hb hc (hqN hQ) (Or.inl ⟨by rw [hop];omega,hcall⟩)
theorem imp_43(s:StD)(ls:Nat->List Bool)(ha:s.a<4)(hb:s.b<4)(hc:s.c<4)(hn:s.n<=2000)(h3:(ls s.a).length<=3000)(h4:(ls s.b).length<=3000)(hop:s.op=43):StepOK s ls ls ⟨(decide (0<cntN (mOf (ls s.a)) (ls s.a).length)),0,0,ES,[],[]⟩:=by
 have hQ:∀r:Bool,(r=false↔∀i,mOf (ls s.a) i=false)->r=(decide (0<cntN (mOf (ls s.a)) (ls s.a).length)):=fun r h=>by
  rw [cnt_zero]at h
  cases r
  ·exact (decide_eq_false (by have:=h.1 rfl;omega)).symm
  ·exact (decide_eq_true (by apply Classical.byContradiction;intro hn;have:=h.2 (by omega);cases this)).symm
 have hcall:∀(w:World) (R G:Nat) (bk:Nat->Nat) (vk:Nat->Value) (many:Value),Imp w R G bk vk ls->Calls Tryz.prog 37 #[s.v many,.pointer (some ⟨bk s.a,0,none⟩)] w (AskQ w s.op (QB (fun r=>(r=false↔∀i,mOf (ls s.a) i=false)))):=fun w R G bk vk many h=>by
  obtain ⟨op,a,b,c,fr,to,n,wd,ws⟩:=s
  simp only at hop;subst hop
  dsimp only at*
  exact (tls_43 a b c fr to n (bk a) wd many (fun r=>(r=false↔∀i,mOf (ls a) i=false)) w fun w1 hf=>have H:=h.keep hf (fun _ _ h=>h) (fun _ _ h=>h);(any_c (bk a) _ (vk a) _ w1 (H.set a ha)).mono fun e w2 ⟨⟨r,he,hr⟩,hw⟩=>⟨⟨r,he,hr⟩,frW hw⟩).mono fun _ _ h=>tlB h
 exact stepQ s ls _ _ ha hb hc (hqB hQ) (Or.inl ⟨by rw [hop];omega,hcall⟩)
theorem imp_44(s:StD)(ls:Nat->List Bool)(ha:s.a<4)(hb:s.b<4)(hc:s.c<4)(hn:s.n<=2000)(h3:(ls s.a).length<=3000)(h4:(ls s.b).length<=3000)(hop:s.op=44):StepOK s ls ls ⟨(((cntN (mOf (ls s.a)) (ls s.a).length:Nat):Int)==0),0,0,ES,[],[]⟩:=by
 have hQ:∀r:Bool,(r=true↔∀i,mOf (ls s.a) i=false)->r=(((cntN (mOf (ls s.a)) (ls s.a).length:Nat):Int)==0):=fun r h=>bool_of (by rw [cnt_zero]at h;rw [h];exact (eqN _ 0).symm)
 have hcall:∀(w:World) (R G:Nat) (bk:Nat->Nat) (vk:Nat->Value) (many:Value),Imp w R G bk vk ls->Calls Tryz.prog 37 #[s.v many,.pointer (some ⟨bk s.a,0,none⟩)] w (AskQ w s.op (QB (fun r=>(r=true↔∀i,mOf (ls s.a) i=false)))):=fun w R G bk vk many h=>by
  obtain ⟨op,a,b,c,fr,to,n,wd,ws⟩:=s
  simp only at hop;subst hop
  dsimp only at*
  exact (tls_44 a b c fr to n (bk a) wd many (fun r=>(r=true↔∀i,mOf (ls a) i=false)) w fun w1 hf=>have H:=h.keep hf (fun _ _ h=>h) (fun _ _ h=>h);(none_c (bk a) _ (vk a) _ w1 (H.set a ha)).mono fun e w2 ⟨⟨r,he,hr⟩,hw⟩=>⟨⟨r,he,hr⟩,frW hw⟩).mono fun _ _ h=>tlB h
 exact stepQ s ls _ _ ha hb hc (hqB hQ) (Or.inl ⟨by rw [hop];omega,hcall⟩)
theorem imp_45(s:StD)(ls:Nat->List Bool)(ha:s.a<4)(hb:s.b<4)(hc:s.c<4)(hn:s.n<=2000)(h3:(ls s.a).length<=3000)(h4:(ls s.b).length<=3000)(hop:s.op=45):StepOK s ls ls ⟨(((cntN (mOf (ls s.a)) (ls s.a).length:Nat):Int)==((ls s.a).length:Int)),0,0,ES,[],[]⟩:=by
 have hQ:∀r:Bool,r=decide (cntN (mOf (ls s.a)) (ls s.a).length=(ls s.a).length)->r=(((cntN (mOf (ls s.a)) (ls s.a).length:Nat):Int)==((ls s.a).length:Int)):=fun r h=>bool_of (by rw [h,eqN];simp)
 have hcall:∀(w:World) (R G:Nat) (bk:Nat->Nat) (vk:Nat->Value) (many:Value),Imp w R G bk vk ls->Calls Tryz.prog 37 #[s.v many,.pointer (some ⟨bk s.a,0,none⟩)] w (AskQ w s.op (QB (fun r=>r=decide (cntN (mOf (ls s.a)) (ls s.a).length=(ls s.a).length)))):=fun w R G bk vk many h=>by
  obtain ⟨op,a,b,c,fr,to,n,wd,ws⟩:=s
  simp only at hop;subst hop
  dsimp only at*
  exact (tls_45 a b c fr to n (bk a) wd many (fun r=>r=decide (cntN (mOf (ls a)) (ls a).length=(ls a).length)) w fun w1 hf=>have H:=h.keep hf (fun _ _ h=>h) (fun _ _ h=>h);(all_c (bk a) _ (vk a) _ w1 (H.set a ha)).mono fun e w2 ⟨he,hw⟩=>⟨⟨_,he,rfl⟩,frD hw⟩).mono fun _ _ h=>tlB h
 exact stepQ s ls _ _ ha hb hc (hqB hQ) (Or.inl ⟨by rw [hop];omega,hcall⟩)
theorem imp_46(s:StD)(ls:Nat->List Bool)(ha:s.a<4)(hb:s.b<4)(hc:s.c<4)(hn:s.n<=2000)(h3:(ls s.a).length<=3000)(h4:(ls s.b).length<=3000)(hop:s.op=46):StepOK s ls ls ⟨((((ls s.a).length:Nat):Int)==(((ls s.b).length:Nat):Int)&&((shar (ls s.a) (ls s.b):Nat):Int)==((cntN (mOf (ls s.a)) (ls s.a).length:Nat):Int)&&((shar (ls s.a) (ls s.b):Nat):Int)==((cntN (mOf (ls s.b)) (ls s.b).length:Nat):Int)),0,0,ES,[],[]⟩:=by
 have hQ:∀r:Bool,(r=true↔(ls s.a).length=(ls s.b).length/\∀i,mOf (ls s.a) i=mOf (ls s.b) i)->r=((((ls s.a).length:Nat):Int)==(((ls s.b).length:Nat):Int)&&((shar (ls s.a) (ls s.b):Nat):Int)==((cntN (mOf (ls s.a)) (ls s.a).length:Nat):Int)&&((shar (ls s.a) (ls s.b):Nat):Int)==((cntN (mOf (ls s.b)) (ls s.b).length:Nat):Int)):=fun r h=>bool_of (by rw [h,eql_iff,Bool.and_eq_true,Bool.and_eq_true,eqN,eqN,eqN])
 have hcall:∀(w:World) (R G:Nat) (bk:Nat->Nat) (vk:Nat->Value) (many:Value),Imp w R G bk vk ls->Calls Tryz.prog 38 #[s.v many,.pointer (some ⟨bk s.a,0,none⟩),.pointer (some ⟨bk s.b,0,none⟩)] w (AskQ w s.op (QB (fun r=>(r=true↔(ls s.a).length=(ls s.b).length/\∀i,mOf (ls s.a) i=mOf (ls s.b) i)))):=fun w R G bk vk many h=>by
  obtain ⟨op,a,b,c,fr,to,n,wd,ws⟩:=s
  simp only at hop;subst hop
  dsimp only at*
  exact (tls_46 a b c fr to n (bk a) (bk b) wd many (fun r=>(r=true↔(ls a).length=(ls b).length/\∀i,mOf (ls a) i=mOf (ls b) i)) w fun w1 hf=>have H:=h.keep hf (fun _ _ h=>h) (fun _ _ h=>h);(equal_c (bk a) (bk b) _ _ (vk a) (vk b) _ _ w1 (H.set a ha) (H.set b hb)).mono fun e w2 ⟨⟨r,he,hr⟩,hw⟩=>⟨⟨r,he,hr⟩,frD hw⟩).mono fun _ _ h=>tlB h
 exact stepQ s ls _ _ ha hb hc (hqB hQ) (Or.inr (Or.inl ⟨by rw [hop];omega,hcall⟩))
theorem imp_47(s:StD)(ls:Nat->List Bool)(ha:s.a<4)(hb:s.b<4)(hc:s.c<4)(hn:s.n<=2000)(h3:(ls s.a).length<=3000)(h4:(ls s.b).length<=3000)(hop:s.op=47):StepOK s ls ls ⟨(((shar (ls s.a) (ls s.b):Nat):Int)==((cntN (mOf (ls s.b)) (ls s.b).length:Nat):Int)),0,0,ES,[],[]⟩:=by
 have hQ:∀r:Bool,(r=true↔∀i,mOf (ls s.b) i=true->mOf (ls s.a) i=true)->r=(((shar (ls s.a) (ls s.b):Nat):Int)==((cntN (mOf (ls s.b)) (ls s.b).length:Nat):Int)):=fun r h=>bool_of (by rw [h,eqN,shar_sup])
 have hcall:∀(w:World) (R G:Nat) (bk:Nat->Nat) (vk:Nat->Value) (many:Value),Imp w R G bk vk ls->Calls Tryz.prog 38 #[s.v many,.pointer (some ⟨bk s.a,0,none⟩),.pointer (some ⟨bk s.b,0,none⟩)] w (AskQ w s.op (QB (fun r=>(r=true↔∀i,mOf (ls s.b) i=true->mOf (ls s.a) i=true)))):=fun w R G bk vk many h=>by
  obtain ⟨op,a,b,c,fr,to,n,wd,ws⟩:=s
  simp only at hop;subst hop
  dsimp only at*
  exact (tls_47 a b c fr to n (bk a) (bk b) wd many (fun r=>(r=true↔∀i,mOf (ls b) i=true->mOf (ls a) i=true)) w fun w1 hf=>have H:=h.keep hf (fun _ _ h=>h) (fun _ _ h=>h);(super_c (bk a) (bk b) _ _ (vk a) (vk b) _ _ w1 (H.set a ha) (H.set b hb)).mono fun e w2 ⟨⟨r,he,hr⟩,hw⟩=>⟨⟨r,he,hr⟩,frW hw⟩).mono fun _ _ h=>tlB h
 exact stepQ s ls _ _ ha hb hc (hqB hQ) (Or.inr (Or.inl ⟨by rw [hop];omega,hcall⟩))
theorem imp_48(s:StD)(ls:Nat->List Bool)(ha:s.a<4)(hb:s.b<4)(hc:s.c<4)(hn:s.n<=2000)(h3:(ls s.a).length<=3000)(h4:(ls s.b).length<=3000)(hop:s.op=48):StepOK s ls ls ⟨(((shar (ls s.a) (ls s.b):Nat):Int)==((cntN (mOf (ls s.b)) (ls s.b).length:Nat):Int)&&decide (shar (ls s.a) (ls s.b)<cntN (mOf (ls s.a)) (ls s.a).length)),0,0,ES,[],[]⟩:=by
 have hQ:∀r:Bool,(r=true↔cntN (mOf (ls s.b)) (ls s.b).length<cntN (mOf (ls s.a)) (ls s.a).length/\∀i,mOf (ls s.b) i=true->mOf (ls s.a) i=true)->r=(((shar (ls s.a) (ls s.b):Nat):Int)==((cntN (mOf (ls s.b)) (ls s.b).length:Nat):Int)&&decide (shar (ls s.a) (ls s.b)<cntN (mOf (ls s.a)) (ls s.a).length)):=fun r h=>bool_of (by
  rw [h,Bool.and_eq_true,eqN,decide_eq_true_iff,<- shar_sup]
  constructor
  ·rintro ⟨h1,h2⟩;exact ⟨h2,by omega⟩
  ·rintro ⟨h1,h2⟩;exact ⟨by omega,h1⟩)
 have hcall:∀(w:World) (R G:Nat) (bk:Nat->Nat) (vk:Nat->Value) (many:Value),Imp w R G bk vk ls->Calls Tryz.prog 38 #[s.v many,.pointer (some ⟨bk s.a,0,none⟩),.pointer (some ⟨bk s.b,0,none⟩)] w (AskQ w s.op (QB (fun r=>(r=true↔cntN (mOf (ls s.b)) (ls s.b).length<cntN (mOf (ls s.a)) (ls s.a).length/\∀i,mOf (ls s.b) i=true->mOf (ls s.a) i=true)))):=fun w R G bk vk many h=>by
  obtain ⟨op,a,b,c,fr,to,n,wd,ws⟩:=s
  simp only at hop;subst hop
  dsimp only at*
  exact (tls_48 a b c fr to n (bk a) (bk b) wd many (fun r=>(r=true↔cntN (mOf (ls b)) (ls b).length<cntN (mOf (ls a)) (ls a).length/\∀i,mOf (ls b) i=true->mOf (ls a) i=true)) w fun w1 hf=>have H:=h.keep hf (fun _ _ h=>h) (fun _ _ h=>h);(strict_c (bk a) (bk b) _ _ (vk a) (vk b) _ _ w1 (H.set a ha) (H.set b hb)).mono fun e w2 ⟨⟨r,he,hr⟩,hw⟩=>⟨⟨r,he,hr⟩,frW hw⟩).mono fun _ _ h=>tlB h
 exact stepQ s ls _ _ ha hb hc (hqB hQ) (Or.inr (Or.inl ⟨by rw [hop];omega,hcall⟩))
theorem imp_49(s:StD)(ls:Nat->List Bool)(ha:s.a<4)(hb:s.b<4)(hc:s.c<4)(hn:s.n<=2000)(h3:(ls s.a).length<=3000)(h4:(ls s.b).length<=3000)(hop:s.op=49):StepOK s ls ls ⟨false,(cntN (mOf (ls s.a)) (ls s.a).length+cntN (mOf (ls s.b)) (ls s.b).length-shar (ls s.a) (ls s.b)),0,ES,[],[]⟩:=by
 have hQ:∀r:Nat,r=cntN (fun i=>mOf (ls s.a) i||mOf (ls s.b) i) (max (ls s.a).length (ls s.b).length)->r=(cntN (mOf (ls s.a)) (ls s.a).length+cntN (mOf (ls s.b)) (ls s.b).length-shar (ls s.a) (ls s.b)):=fun r h=>by
  have e0:=cntN_both (fun i hi=>mOf_out (ls s.a) hi) (fun i hi=>mOf_out (ls s.b) hi) (max (ls s.a).length (ls s.b).length) (by omega)
  have e1:=cntN_or (mOf (ls s.a)) (mOf (ls s.b)) (max (ls s.a).length (ls s.b).length)
  have e2:cntN (mOf (ls s.a)) (max (ls s.a).length (ls s.b).length)=cntN (mOf (ls s.a)) (ls s.a).length:=cntN_past (fun i hi=>mOf_out (ls s.a) hi) (n:=max (ls s.a).length (ls s.b).length) (by omega)
  have e3:cntN (mOf (ls s.b)) (max (ls s.a).length (ls s.b).length)=cntN (mOf (ls s.b)) (ls s.b).length:=cntN_past (fun i hi=>mOf_out (ls s.b) hi) (n:=max (ls s.a).length (ls s.b).length) (by omega)
  rw [shar_eq,h];omega
 have hcall:∀(w:World) (R G:Nat) (bk:Nat->Nat) (vk:Nat->Value) (many:Value),Imp w R G bk vk ls->Calls Tryz.prog 38 #[s.v many,.pointer (some ⟨bk s.a,0,none⟩),.pointer (some ⟨bk s.b,0,none⟩)] w (AskQ w s.op (QN (fun r=>r=cntN (fun i=>mOf (ls s.a) i||mOf (ls s.b) i) (max (ls s.a).length (ls s.b).length)))):=fun w R G bk vk many h=>by
  obtain ⟨op,a,b,c,fr,to,n,wd,ws⟩:=s
  simp only at hop;subst hop
  dsimp only at*
  exact (tls_49 a b c fr to n (bk a) (bk b) wd many (fun r=>r=cntN (fun i=>mOf (ls a) i||mOf (ls b) i) (max (ls a).length (ls b).length)) w fun w1 hf=>have H:=h.keep hf (fun _ _ h=>h) (fun _ _ h=>h);(ucard_c (bk a) (bk b) _ _ (vk a) (vk b) _ _ w1 (H.set a ha) (H.set b hb)).mono fun e w2 ⟨he,hw⟩=>⟨⟨_,he,rfl⟩,frD hw⟩).mono fun _ _ h=>tlN h
 exact stepQ s ls _ _ ha hb hc (hqN hQ) (Or.inr (Or.inl ⟨by rw [hop];omega,hcall⟩))
theorem imp_50(s:StD)(ls:Nat->List Bool)(ha:s.a<4)(hb:s.b<4)(hc:s.c<4)(hn:s.n<=2000)(h3:(ls s.a).length<=3000)(h4:(ls s.b).length<=3000)(hop:s.op=50):StepOK s ls ls ⟨false,(shar (ls s.a) (ls s.b)),0,ES,[],[]⟩:=by
 have hQ:∀r:Nat,r=cntN (fun i=>mOf (ls s.a) i&&mOf (ls s.b) i) (min (ls s.a).length (ls s.b).length)->r=(shar (ls s.a) (ls s.b)):=fun r h=>by rw [shar_eq,h]
 have hcall:∀(w:World) (R G:Nat) (bk:Nat->Nat) (vk:Nat->Value) (many:Value),Imp w R G bk vk ls->Calls Tryz.prog 38 #[s.v many,.pointer (some ⟨bk s.a,0,none⟩),.pointer (some ⟨bk s.b,0,none⟩)] w (AskQ w s.op (QN (fun r=>r=cntN (fun i=>mOf (ls s.a) i&&mOf (ls s.b) i) (min (ls s.a).length (ls s.b).length)))):=fun w R G bk vk many h=>by
  obtain ⟨op,a,b,c,fr,to,n,wd,ws⟩:=s
  simp only at hop;subst hop
  dsimp only at*
  exact (tls_50 a b c fr to n (bk a) (bk b) wd many (fun r=>r=cntN (fun i=>mOf (ls a) i&&mOf (ls b) i) (min (ls a).length (ls b).length)) w fun w1 hf=>have H:=h.keep hf (fun _ _ h=>h) (fun _ _ h=>h);(icard_c (bk a) (bk b) _ _ (vk a) (vk b) _ _ w1 (H.set a ha) (H.set b hb)).mono fun e w2 ⟨he,hw⟩=>⟨⟨_,he,rfl⟩,frD hw⟩).mono fun _ _ h=>tlN h
 exact stepQ s ls _ _ ha hb hc (hqN hQ) (Or.inr (Or.inl ⟨by rw [hop];omega,hcall⟩))
theorem imp_51(s:StD)(ls:Nat->List Bool)(ha:s.a<4)(hb:s.b<4)(hc:s.c<4)(hn:s.n<=2000)(h3:(ls s.a).length<=3000)(h4:(ls s.b).length<=3000)(hop:s.op=51):StepOK s ls ls ⟨false,(cntN (mOf (ls s.a)) (ls s.a).length-shar (ls s.a) (ls s.b)),0,ES,[],[]⟩:=by
 have hQ:∀r:Nat,r=cntN (fun i=>mOf (ls s.a) i&& !mOf (ls s.b) i) (ls s.a).length->r=(cntN (mOf (ls s.a)) (ls s.a).length-shar (ls s.a) (ls s.b)):=fun r h=>by
  have e0:=cntN_both (fun i hi=>mOf_out (ls s.a) hi) (fun i hi=>mOf_out (ls s.b) hi) (ls s.a).length (by omega)
  have e1:=cntN_dif (mOf (ls s.a)) (mOf (ls s.b)) (ls s.a).length
  rw [shar_eq,h];omega
 have hcall:∀(w:World) (R G:Nat) (bk:Nat->Nat) (vk:Nat->Value) (many:Value),Imp w R G bk vk ls->Calls Tryz.prog 38 #[s.v many,.pointer (some ⟨bk s.a,0,none⟩),.pointer (some ⟨bk s.b,0,none⟩)] w (AskQ w s.op (QN (fun r=>r=cntN (fun i=>mOf (ls s.a) i&& !mOf (ls s.b) i) (ls s.a).length))):=fun w R G bk vk many h=>by
  obtain ⟨op,a,b,c,fr,to,n,wd,ws⟩:=s
  simp only at hop;subst hop
  dsimp only at*
  exact (tls_51 a b c fr to n (bk a) (bk b) wd many (fun r=>r=cntN (fun i=>mOf (ls a) i&& !mOf (ls b) i) (ls a).length) w fun w1 hf=>have H:=h.keep hf (fun _ _ h=>h) (fun _ _ h=>h);(dcard_c (bk a) (bk b) _ _ (vk a) (vk b) _ _ w1 (H.set a ha) (H.set b hb)).mono fun e w2 ⟨he,hw⟩=>⟨⟨_,he,rfl⟩,frD hw⟩).mono fun _ _ h=>tlN h
 exact stepQ s ls _ _ ha hb hc (hqN hQ) (Or.inr (Or.inl ⟨by rw [hop];omega,hcall⟩))
theorem imp_52(s:StD)(ls:Nat->List Bool)(ha:s.a<4)(hb:s.b<4)(hc:s.c<4)(hn:s.n<=2000)(h3:(ls s.a).length<=3000)(h4:(ls s.b).length<=3000)(hop:s.op=52):StepOK s ls ls ⟨false,(cntN (mOf (ls s.a)) (ls s.a).length+cntN (mOf (ls s.b)) (ls s.b).length-2*shar (ls s.a) (ls s.b)),0,ES,[],[]⟩:=by
 have hQ:∀r:Nat,r=cntN (fun i=>mOf (ls s.a) i^^mOf (ls s.b) i) (max (ls s.a).length (ls s.b).length)->r=(cntN (mOf (ls s.a)) (ls s.a).length+cntN (mOf (ls s.b)) (ls s.b).length-2*shar (ls s.a) (ls s.b)):=fun r h=>by
  have e0:=cntN_both (fun i hi=>mOf_out (ls s.a) hi) (fun i hi=>mOf_out (ls s.b) hi) (max (ls s.a).length (ls s.b).length) (by omega)
  have e1:=cntN_xor (mOf (ls s.a)) (mOf (ls s.b)) (max (ls s.a).length (ls s.b).length)
  have e2:cntN (mOf (ls s.a)) (max (ls s.a).length (ls s.b).length)=cntN (mOf (ls s.a)) (ls s.a).length:=cntN_past (fun i hi=>mOf_out (ls s.a) hi) (n:=max (ls s.a).length (ls s.b).length) (by omega)
  have e3:cntN (mOf (ls s.b)) (max (ls s.a).length (ls s.b).length)=cntN (mOf (ls s.b)) (ls s.b).length:=cntN_past (fun i hi=>mOf_out (ls s.b) hi) (n:=max (ls s.a).length (ls s.b).length) (by omega)
  rw [shar_eq,h];omega
 have hcall:∀(w:World) (R G:Nat) (bk:Nat->Nat) (vk:Nat->Value) (many:Value),Imp w R G bk vk ls->Calls Tryz.prog 38 #[s.v many,.pointer (some ⟨bk s.a,0,none⟩),.pointer (some ⟨bk s.b,0,none⟩)] w (AskQ w s.op (QN (fun r=>r=cntN (fun i=>mOf (ls s.a) i^^mOf (ls s.b) i) (max (ls s.a).length (ls s.b).length)))):=fun w R G bk vk many h=>by
  obtain ⟨op,a,b,c,fr,to,n,wd,ws⟩:=s
  simp only at hop;subst hop
  dsimp only at*
  exact (tls_52 a b c fr to n (bk a) (bk b) wd many (fun r=>r=cntN (fun i=>mOf (ls a) i^^mOf (ls b) i) (max (ls a).length (ls b).length)) w fun w1 hf=>have H:=h.keep hf (fun _ _ h=>h) (fun _ _ h=>h);(xcard_c (bk a) (bk b) _ _ (vk a) (vk b) _ _ w1 (H.set a ha) (H.set b hb)).mono fun e w2 ⟨he,hw⟩=>⟨⟨_,he,rfl⟩,frD hw⟩).mono fun _ _ h=>tlN h
 exact stepQ s ls _ _ ha hb hc (hqN hQ) (Or.inr (Or.inl ⟨by rw [hop];omega,hcall⟩))
theorem imp_58(s:StD)(ls:Nat->List Bool)(ha:s.a<4)(hb:s.b<4)(hc:s.c<4)(hn:s.n<=2000)(h3:(ls s.a).length<=3000)(h4:(ls s.b).length<=3000)(hop:s.op=58):StepOK s ls ls ⟨false,(cntN (mOf (ls s.a)) (min (ls s.a).length (s.n+1))),0,ES,[],[]⟩:=by
 have hQ:∀r:Nat,r=cntN (mOf (ls s.a)) (s.n+1)->r=(cntN (mOf (ls s.a)) (min (ls s.a).length (s.n+1))):=fun r h=>by
  rw [h]
  by_cases hx:(ls s.a).length<=s.n+1
  ·rw [Nat.min_eq_left hx];exact cntN_past (fun i hi=>mOf_out (ls s.a) hi) hx
  ·rw [Nat.min_eq_right (by omega)]
 have hcall:∀(w:World) (R G:Nat) (bk:Nat->Nat) (vk:Nat->Value) (many:Value),Imp w R G bk vk ls->Calls Tryz.prog 39 #[s.v many,.pointer (some ⟨bk s.a,0,none⟩)] w (AskQ w s.op (QN (fun r=>r=cntN (mOf (ls s.a)) (s.n+1)))):=fun w R G bk vk many h=>by
  obtain ⟨op,a,b,c,fr,to,n,wd,ws⟩:=s
  simp only at hop;subst hop
  dsimp only at*
  exact (tls_58 a b c fr to n (bk a) wd many (fun r=>r=cntN (mOf (ls a)) (n+1)) w fun w1 hf=>have H:=h.keep hf (fun _ _ h=>h) (fun _ _ h=>h);(rank_c (bk a) n _ (vk a) _ w1 (by omega) (H.set a ha)).mono fun e w2 ⟨he,hw⟩=>⟨⟨_,he,rfl⟩,frW hw⟩).mono fun _ _ h=>tlN h
 exact stepQ s ls _ _ ha hb hc (hqN hQ) (Or.inr (Or.inr ⟨by rw [hop];omega,hcall⟩))
theorem imp_60(s:StD)(ls:Nat->List Bool)(ha:s.a<4)(hb:s.b<4)(hc:s.c<4)(hn:s.n<=2000)(h3:(ls s.a).length<=3000)(h4:(ls s.b).length<=3000)(hop:s.op=60)(hfr:s.fr<=2000)(hto:s.to<=2000):StepOK s ls ls ⟨false,(cntN (win (mOf (ls s.a)) s.fr s.to) (ls s.a).length),0,ES,[],[]⟩:=by
 have hQ:∀r:Nat,r=cntN (win (mOf (ls s.a)) s.fr s.to) (ls s.a).length->r=(cntN (win (mOf (ls s.a)) s.fr s.to) (ls s.a).length):=fun r h=>h
 have hcall:∀(w:World) (R G:Nat) (bk:Nat->Nat) (vk:Nat->Value) (many:Value),Imp w R G bk vk ls->Calls Tryz.prog 39 #[s.v many,.pointer (some ⟨bk s.a,0,none⟩)] w (AskQ w s.op (QN (fun r=>r=cntN (win (mOf (ls s.a)) s.fr s.to) (ls s.a).length))):=fun w R G bk vk many h=>by
  obtain ⟨op,a,b,c,fr,to,n,wd,ws⟩:=s
  simp only at hop;subst hop
  dsimp only at*
  exact (tls_60 a b c fr to n (bk a) wd many (fun r=>r=cntN (win (mOf (ls a)) fr to) (ls a).length) w fun w1 hf=>have H:=h.keep hf (fun _ _ h=>h) (fun _ _ h=>h);(ones_between (bk a) fr to _ (vk a) _ w1 (by omega) (by omega) (H.set a ha)).mono fun e w2 ⟨he,hw⟩=>⟨⟨_,he,rfl⟩,frW hw⟩).mono fun _ _ h=>tlN h
 exact stepQ s ls _ _ ha hb hc (hqN hQ) (Or.inr (Or.inr ⟨by rw [hop];omega,hcall⟩))
structure RawD where
 op:Int
 a:Int
 b:Int
 c:Int
 fr:Nat
 to:Nat
 n:Nat
 wd:BitVec 64
 ws:List (BitVec 64)
 o:Option Addr
 cap:Nat
def rawV(op a b c:Int)(fr to n:Nat)(wd:BitVec 64)(many:Value):Value:= .agg #[.int .i64 op,.int .i64 a,.int .i64 b,.int .i64 c,.int .u64 (fr:Int),.int .u64 (to:Int),.int .u64 (n:Int),WV wd,many]
def RawD.many(s:RawD):Value:= .slice s.o s.ws.length s.cap
structure Nine(w:World)(sb x:Nat)(op a b c:Int)(fr to n:Nat)(wd:BitVec 64)(many:Value):Prop where
 c0:w.cell? ⟨sb,x,none⟩=some (.int .i64 op)
 c1:w.cell? ⟨sb,x+1,none⟩=some (.int .i64 a)
 c2:w.cell? ⟨sb,x+2,none⟩=some (.int .i64 b)
 c3:w.cell? ⟨sb,x+3,none⟩=some (.int .i64 c)
 c4:w.cell? ⟨sb,x+4,none⟩=some (.int .u64 (fr:Int))
 c5:w.cell? ⟨sb,x+5,none⟩=some (.int .u64 (to:Int))
 c6:w.cell? ⟨sb,x+6,none⟩=some (.int .u64 (n:Int))
 c7:w.cell? ⟨sb,x+7,none⟩=some (WV wd)
 c8:w.cell? ⟨sb,x+8,none⟩=some many
theorem Nine.keep{w w':World}{T:Nat->Prop}{sb x:Nat}{op a b c:Int}{fr to n:Nat}{wd:BitVec 64}{many:Value}(h:Nine w sb x op a b c fr to n wd many)(k:Fr T w w')(hT:¬T sb):Nine w' sb x op a b c fr to n wd many:=by
 have hl:=block_lt_of_cell h.c0
 have f:∀ {j:Nat} {v:Value},w.cell? ⟨sb,j,none⟩=some v->w'.cell? ⟨sb,j,none⟩=some v:=fun {j v} hh=>(k.cell (a:=⟨sb,j,none⟩) hl hT).trans hh
 exact ⟨f h.c0,f h.c1,f h.c2,f h.c3,f h.c4,f h.c5,f h.c6,f h.c7,f h.c8⟩
abbrev RawD.at(s:RawD)(w:World)(sb x:Nat):Prop:=Nine w sb x s.op s.a s.b s.c s.fr s.to s.n s.wd s.many
structure StpR(w:World)(A:Option Addr)(N:Nat)(ss:Nat->RawD):Prop where
 at_:0<N->∃sb so,A=some ⟨sb,so,none⟩/\∀i,i<N->(ss i).at w sb (so+i*9)
 ws:∀i,i<N->Src w 1 (ss i).many (ss i).ws.length ((ss i).ws.map WV)
theorem zz2_c(op a b c:Int)(fr to n M cM:Nat)(o:Option Addr)(wd:BitVec 64)(w:World):
  Calls Tryz.prog 14 #[rawV op a b c fr to n wd (.slice o M cM)] w fun e w'=>(∃r,e= .returned (.bool r))/\Fr (fun _=>False) w w':=by
 unfold rawV
 by_cases h:M<=2147483647
 ·have d:decide (2147483647<(M:Int))=false:=by simp;omega
  go_enter Tryz.func14,Tryz.ntmps14
  go_wp2
  go_ret
  exact ⟨⟨_,rfl⟩,(Fr.refl _ w).alloc _⟩
 ·have d:decide (2147483647<(M:Int))=true:=by simp;omega
  go_enter Tryz.func14,Tryz.ntmps14
  go_wp2
  go_ret
  exact ⟨⟨_,rfl⟩,(Fr.refl _ w).alloc _⟩
theorem zz1_c(A:Option Addr)(N cN:Nat)(ss:Nat->RawD)(w:World)(hs:StpR w A N ss):
  Calls Tryz.prog 4 #[.slice A N cN] w fun e w'=>(∃r,e= .returned (.bool r))/\Fr (fun _=>False) w w':=by
 by_cases hN:N<=2147483647
 ·have dn:decide (2147483647<(N:Int))=false:=by simp;omega
  have HS:=Lib.hid hs;clear hs
  go_enter Tryz.func4,Tryz.ntmps4
  go_wp2
  go_loopw [10] (fun i wr=>∃(k:Nat),k<=N/\i= .int .i64 (k:Int)/\Fr (fun _=>False) w wr) (fun i _=>N-(intOf i).toNat)
  case atStart=>exact ⟨0,by omega,rfl,Fr.refl _ _⟩
  case round=>
   obtain ⟨k,hk,rfl,hf⟩:=hrel
   by_cases hlt:k<N
   ·obtain ⟨sb,so,rfl,hc⟩:=HS.out.at_ (by omega)
    have h9:=(hc k hlt).keep hf (fun h=>h)
    obtain ⟨c0,c1,c2,c3,c4,c5,c6,c7,c8⟩:=h9
    generalize (ss k).op=op at*
    generalize (ss k).a=a at*
    generalize (ss k).b=b at*
    generalize (ss k).c=c at*
    generalize (ss k).fr=fr at*
    generalize (ss k).to=to at*
    generalize (ss k).n=n at*
    generalize (ss k).wd=wd at*
    unfold RawD.many at c8
    generalize (ss k).ws.length=M at*
    generalize (ss k).o=o at*
    generalize (ss k).cap=cM at*
    have HC:=Lib.hid (fun w'=>zz2_c op a b c fr to n M cM o wd w')
    have HF:=Lib.hid hf
    unfold rawV at HC
    clear hc hf
    go_wp2_with (go_at_call 14;refine (HC.out _).mono ?_;rintro e w2 ⟨⟨r,rfl⟩,hf2⟩;refine Hid.out ?_)
    refine Lib.hid ?_
    have HF2:=Lib.hid hf2;clear hf2 c0 c1 c2 c3 c4 c5 c6 c7 c8
    cases r
    ·go_wp2
     go_ret
     exact ⟨⟨_,rfl⟩,(HF.out.alloc _).trans HF2.out⟩
    ·go_wp2
     go_roundw
     case rel=>exact ⟨k+1,by omega,by go_num,(HF.out.alloc _).trans HF2.out⟩
     case measure=>simp [intOf];omega
   ·have hkk:k=N:=by omega
    subst hkk
    have HF:=Lib.hid hf;clear hf
    go_wp2
    go_ret
    exact ⟨⟨_,rfl⟩,HF.out⟩
 ·have dn:decide (2147483647<(N:Int))=true:=by simp;omega
  clear hs
  go_enter Tryz.func4,Tryz.ntmps4
  go_wp2
  go_ret
  exact ⟨⟨_,rfl⟩,Fr.refl _ w⟩
end Go.Proofs.YtobdfhlmipcjbaaGreatDoor
namespace Go.Proofs.YtobdfhlmipcjbaaGreatDoor
open Go.RowKit Go.ChangeShapes Go.WideShapes Go.Deep
section
variable {H:Type} {enc:TypeId×Value->H} {w:World} {base:Nat} {spare:Nat->Bool} {held:Bool}
set_option maxRecDepth 100000
theorem cells32:Tryz.prog.cellsOf 32=9:=by kernel_rfl
theorem cells30:Tryz.prog.cellsOf 30=1:=by kernel_rfl
theorem cells28:Tryz.prog.cellsOf 28=1:=by kernel_rfl
theorem cells29:Tryz.prog.cellsOf 29=1:=by kernel_rfl
theorem cells3:Tryz.prog.cellsOf 3=1:=by kernel_rfl
theorem u64_word{n:Int}(h:(Lit.int .u64 n).wf=true):Value.int .u64 n=WV (BitVec.ofNat 64 n.toNat)/\((n.toNat:Nat):Int)=n:=by
 have hb:=bounds_u64 h
 refine ⟨?_,by omega⟩
 unfold WV wn
 rw [BitVec.toNat_ofNat,Nat.mod_eq_of_lt (by omega),Int.toNat_of_nonneg hb.1]
theorem words_in{fuel:Nat}{cs:List Value}{x:DataW H×List MemPlace}(h:DataW.trod enc Tryz.prog w base spare held fuel 30 cs=some x):
  ∃(o:Option Addr) (ws:List (BitVec 64)) (c:Nat),cs= [.slice o ws.length c]/\Src w 1 (.slice o ws.length c) ws.length (ws.map WV):=by
 rcases open_ints Tryz.underlying30 Tryz.underlying28 cells28 h with ⟨rfl,_⟩|⟨a,len,cap,zs,rfl,_,hlc,_,hlen,_,hc,hwf⟩
 ·exact ⟨none,[],0,rfl,_,_,rfl,rfl,fun h=>absurd h (by simp)⟩
 ·have hle:len<=zs.length:=by rw [hlen];split <;> omega
  refine ⟨some a,(zs.take len).map (fun z=>BitVec.ofNat 64 z.toNat),cap,?_,?_⟩
  ·simp [Nat.min_eq_left hle]
  ·have hl:((zs.take len).map (fun z=>BitVec.ofNat 64 z.toNat)).length=len:=by simp [Nat.min_eq_left hle]
   rw [hl]
   refine ⟨_,_,rfl,by simp [Nat.min_eq_left hle],fun _=>⟨a,rfl,fun j y hy=>?_⟩⟩
   rw [List.map_map,List.getElem?_map]at hy
   have hj:j<len:=by
    rcases Nat.lt_or_ge j len with h|h
    ·exact h
    ·rw [List.getElem?_eq_none (by simp;omega)]at hy;cases hy
   rw [List.getElem?_take,if_pos hj,List.getElem?_eq_getElem (by omega)]at hy
   cases hy
   rw [hc j (by omega),List.getD_eq_getElem?_getD,List.getElem?_eq_getElem (by omega),Option.getD_some,(u64_word (hwf _ (List.getElem_mem _))).1]
   rfl
theorem step_in{fuel sb x:Nat}{cs:List Value}{y:DataW H×List MemPlace}(hc:w.cells? base ⟨sb,x,none⟩ 9=some cs)(h:DataW.trod enc Tryz.prog w base spare held fuel 32 cs=some y):
  ∃r:RawD,r.at w sb x/\Src w 1 r.many r.ws.length (r.ws.map WV):=by
 obtain ⟨xs,n,_,_,_,hxl,hf⟩:=DataW.trod_struct Tryz.underlying32 h
 obtain ⟨_,hl,hcell⟩:=World.cells?_some hc
 match cs,hl with
 | [v0,v1,v2,v3,v4,v5,v6,v7,v8],_=>
  have hget:∀j,j<9->∃z,xs[j]? =some z:=fun j hj=>⟨_,List.getElem?_eq_getElem (by rw [hxl];exact hj)⟩
  obtain ⟨z0,e0⟩:=hget 0 (by decide)
  obtain ⟨z1,e1⟩:=hget 1 (by decide)
  obtain ⟨z2,e2⟩:=hget 2 (by decide)
  obtain ⟨z3,e3⟩:=hget 3 (by decide)
  obtain ⟨z4,e4⟩:=hget 4 (by decide)
  obtain ⟨z5,e5⟩:=hget 5 (by decide)
  obtain ⟨z6,e6⟩:=hget 6 (by decide)
  obtain ⟨z7,e7⟩:=hget 7 (by decide)
  obtain ⟨z8,e8⟩:=hget 8 (by decide)
  have f0:=(hf 0 ⟨ "Op",3,0,false, "", "",0⟩ rfl).trans e0
  have f1:=(hf 1 ⟨ "A",3,1,false, "", "",8⟩ rfl).trans e1
  have f2:=(hf 2 ⟨ "B",3,2,false, "", "",16⟩ rfl).trans e2
  have f3:=(hf 3 ⟨ "C",3,3,false, "", "",24⟩ rfl).trans e3
  have f4:=(hf 4 ⟨ "From",28,4,false, "", "",32⟩ rfl).trans e4
  have f5:=(hf 5 ⟨ "To",28,5,false, "", "",40⟩ rfl).trans e5
  have f6:=(hf 6 ⟨ "N",28,6,false, "", "",48⟩ rfl).trans e6
  have f7:=(hf 7 ⟨ "W",29,7,false, "", "",56⟩ rfl).trans e7
  have f8:=(hf 8 ⟨ "Many",30,8,false, "", "",64⟩ rfl).trans e8
  simp only [cells3,cells28,cells29,cells30,List.drop_succ_cons,List.drop_zero,List.take_succ_cons,List.take_zero]at f0 f1 f2 f3 f4 f5 f6 f7 f8
  obtain ⟨op,g0,_,_⟩:=DataW.trod_int Tryz.underlying3 f0
  obtain ⟨a,g1,_,_⟩:=DataW.trod_int Tryz.underlying3 f1
  obtain ⟨b,g2,_,_⟩:=DataW.trod_int Tryz.underlying3 f2
  obtain ⟨c,g3,_,_⟩:=DataW.trod_int Tryz.underlying3 f3
  obtain ⟨fr,g4,_,w4⟩:=DataW.trod_int Tryz.underlying28 f4
  obtain ⟨to,g5,_,w5⟩:=DataW.trod_int Tryz.underlying28 f5
  obtain ⟨nn,g6,_,w6⟩:=DataW.trod_int Tryz.underlying28 f6
  obtain ⟨wd,g7,_,w7⟩:=DataW.trod_int Tryz.underlying29 f7
  obtain ⟨o,ws,cp,g8,hsrc⟩:=words_in f8
  injection g0 with g0;injection g1 with g1;injection g2 with g2;injection g3 with g3;injection g4 with g4;injection g5 with g5;injection g6 with g6;injection g7 with g7;injection g8 with g8
  subst g0 g1 g2 g3 g4 g5 g6 g7 g8
  have cc:∀j v,[Value.int .i64 op,.int .i64 a,.int .i64 b,.int .i64 c,.int .u64 fr,.int .u64 to,.int .u64 nn,.int .u64 wd,.slice o ws.length cp][j]? =some v->j<9->w.cell? ⟨sb,x+j,none⟩=some v:=fun j v hv hj=>by
   have:=hcell j hj
   rw [add_at]at this
   rw [this,hv]
  refine ⟨⟨op,a,b,c,fr.toNat,to.toNat,nn.toNat,BitVec.ofNat 64 wd.toNat,ws,o,cp⟩,?_,hsrc⟩
  refine ⟨cc 0 _ rfl (by decide),cc 1 _ rfl (by decide),cc 2 _ rfl (by decide),cc 3 _ rfl (by decide),?_,?_,?_,?_,cc 8 _ rfl (by decide)⟩
  ·show _=some (Value.int .u64 ((fr.toNat:Nat):Int));rw [(u64_word w4).2];exact cc 4 _ rfl (by decide)
  ·show _=some (Value.int .u64 ((to.toNat:Nat):Int));rw [(u64_word w5).2];exact cc 5 _ rfl (by decide)
  ·show _=some (Value.int .u64 ((nn.toNat:Nat):Int));rw [(u64_word w6).2];exact cc 6 _ rfl (by decide)
  ·show _=some (WV (BitVec.ofNat 64 wd.toNat));rw [<- (u64_word w7).1];exact cc 7 _ rfl (by decide)
instance:Inhabited RawD:=⟨⟨0,0,0,0,0,0,0,0,[],none,0⟩⟩
theorem steps_in{fuel:Nat}{v:Value}{y:DataW H×List MemPlace}(h:DataW.trod enc Tryz.prog w base spare held fuel 22 [v]=some y):
  ∃(A:Option Addr) (N c:Nat) (ss:Nat->RawD),v= .slice A N c/\StpR w A N ss:=by
 rcases open_slice Tryz.underlying22 h with ⟨e,_⟩|⟨a,len,cap,m,n,D,Pl,e,_,hlc,_,hm,_,hx⟩
 ·injection e with e
  exact ⟨none,0,0,fun _=>⟨0,0,0,0,0,0,0,0,[],none,0⟩,e,fun h=>absurd h (by omega),fun i hi=>absurd hi (by omega)⟩
 ·injection e with e
  have hle:len<=m:=by rw [hm];split <;> omega
  rw [cells32]at hx
  by_cases h0:len=0
  ·subst h0
   exact ⟨some a,0,cap,fun _=>⟨0,0,0,0,0,0,0,0,[],none,0⟩,e,fun h=>absurd h (by omega),fun i hi=>absurd hi (by omega)⟩
  ·obtain ⟨sb,so,sp⟩:=a
   have hsp:sp=none:=by
    obtain ⟨cs',hc,_⟩:=hx 0 (by omega)
    obtain ⟨_,hl,hcell⟩:=World.cells?_some hc
    have h1:=hcell 0 (by omega)
    rw [List.getElem?_eq_getElem (by omega)]at h1
    simpa [Addr.add] using World.cell?_spot h1
   subst hsp
   obtain ⟨ss,hss⟩:=choose_lt (α:=RawD) (p:=fun i r=>r.at w sb (so+i*9)/\Src w 1 r.many r.ws.length (r.ws.map WV)) (n:=len) (fun i hi=>by
    obtain ⟨cs',hc,ht⟩:=hx i (by omega)
    rw [add_at]at hc
    exact step_in hc ht)
   exact ⟨_,len,cap,ss,e,fun _=>⟨sb,so,rfl,fun i hi=>(hss i hi).1⟩,fun i hi=>(hss i hi).2⟩
end
end Go.Proofs.YtobdfhlmipcjbaaGreatDoor
namespace Go.Proofs.YtobdfhlmipcjbaaGreatDoor
open Go.RowKit
theorem first_one{m:Nat->Bool}{i L n n':Nat}{r r' t:Bool}(hL:t=true->∀j,L<=j->m j=false)(h:FirstP m t i L r n)
  (k:(r'=true/\i<=n'/\(t=false->n'<L)/\m n'=t/\∀j,i<=j->j<n'->m j= !t)\/(r'=false/\∀j,i<=j->j<L->m j= !t)):r'=r/\(r=true->n'=n):=by
 rcases h with ⟨rfl,h1,h2,h3,h4⟩|⟨rfl,rfl,h4⟩ <;> rcases k with ⟨rfl,k1,k2,k3,k4⟩|⟨rfl,k4⟩
 ·refine ⟨rfl,fun _=>?_⟩
  rcases Nat.lt_trichotomy n' n with h|h|h
  ·have:=h4 n' k1 h;rw [k3]at this;cases t <;> cases this
  ·exact h
  ·have:=k4 n h1 h;rw [h3]at this;cases t <;> cases this
 ·have:=k4 n h1 h2;rw [h3]at this;cases t <;> cases this
 ·have:n'<L:=by
   cases t
   ·exact k2 rfl
   ·apply Classical.byContradiction;intro hn;have:=hL rfl n' (by omega);rw [k3]at this;cases this
  have:=h4 n' k1 this;rw [k3]at this;cases t <;> cases this
 ·exact ⟨rfl,fun h=>by cases h⟩
theorem last_one{m:Nat->Bool}{i n n':Nat}{r r' t:Bool}(h:LastP m t i r n)
  (k:(r'=true/\n'<=i/\m n'=t/\∀j,n'<j->j<=i->m j= !t)\/(r'=false/\∀j,j<=i->m j= !t)):r'=r/\(r=true->n'=n):=by
 rcases h with ⟨rfl,h1,h3,h4⟩|⟨rfl,rfl,h4⟩ <;> rcases k with ⟨rfl,k1,k3,k4⟩|⟨rfl,k4⟩
 ·refine ⟨rfl,fun _=>?_⟩
  rcases Nat.lt_trichotomy n' n with h|h|h
  ·have:=k4 n h h1;rw [h3]at this;cases t <;> cases this
  ·exact h
  ·have:=h4 n' h k1;rw [k3]at this;cases t <;> cases this
 ·have:=k4 n h1;rw [h3]at this;cases t <;> cases this
 ·have:=h4 n' k1;rw [k3]at this;cases t <;> cases this
 ·exact ⟨rfl,fun h=>by cases h⟩
theorem cntN_next(m:Nat->Bool)(r:Nat)(h:m r=true):cntN m (r+1)=cntN m r+1:=by
 show cntN m r+(if m r then 1 else 0)=_;rw [h];rfl
theorem numsN_at(m:Nat->Bool)(L r:Nat)(hr:r<L)(hm:m r=true):(numsN m L).getD (cntN m r) 0=r:=by
 induction L with
 |zero=>omega
 |succ L ih=>
  unfold numsN
  have hl:=numsN_length m L
  by_cases e:r=L
  ·subst e
   rw [List.getD,List.getElem?_append_right (by omega),hl,Nat.sub_self,hm];rfl
  ·have hlt:cntN m r<cntN m L:=by
    have h1:=cntN_grow m (n:=r+1) (k:=L) (by omega)
    rw [cntN_next m r hm]at h1;omega
   rw [List.getD,List.getElem?_append_left (by omega)]
   exact ih (by omega)
theorem numsN_pre(m:Nat->Bool)(t d:Nat):∃x,numsN m (t+d)=numsN m t++x:=by
 induction d with
 |zero=>exact ⟨[],by simp⟩
 |succ d ih=>obtain ⟨x,hx⟩:=ih;exact ⟨x++(if m (t+d) then [t+d] else []),by rw [<- Nat.add_assoc];show numsN m (t+d)++_=_;rw [hx,List.append_assoc]⟩
theorem m57_le{m:Nat->Bool}{i t u:Nat}(htu:t<=u)(hu:(numsN (frm m i) u).length<=20)(h:((numsN (frm m i) t).length=20/\∃r,t=r+1/\i<=r/\m r=true)\/∀j,t<=j->m j=false):numsN (frm m i) u=numsN (frm m i) t:=by
 obtain ⟨d,rfl⟩:=Nat.exists_eq_add_of_le htu
 rcases h with ⟨h,_⟩|h
 ·obtain ⟨x,hx⟩:=numsN_pre (frm m i) t d
  rw [hx,List.length_append,h]at hu
  have:x= []:=List.length_eq_zero_iff.1 (by omega)
  rw [hx,this,List.append_nil]
 ·exact numsN_gap _ t d (fun j h1 h2=>by simp [frm,h j h1])
def QV(r0:BitVec 64)(is:Bool)(n:Nat)(z:Int)(t:ByteArray)(xs bs:List Value):Prop:=is=false/\n=0/\z=wn r0/\t=ES/\xs= []/\bs= []
def QS(r0:ByteArray)(is:Bool)(n:Nat)(z:Int)(t:ByteArray)(xs bs:List Value):Prop:=is=false/\n=0/\z=0/\t=r0/\xs= []/\bs= []
def QA(A:AnsD)(is:Bool)(n:Nat)(z:Int)(t:ByteArray)(xs bs:List Value):Prop:=is=A.is/\n=A.n/\z=wn A.wd/\t=A.s/\xs=A.xs/\bs=A.bs
theorem hqA{op:Int}{A:AnsD} :∀is n z t xs bs,QA A is n z t xs bs->is=A.is/\(A.is=true\/op<53\/56<op->n=A.n)/\z=wn A.wd/\t=A.s/\xs=A.xs/\bs=A.bs:=fun _ _ _ _ _ _ ⟨h1,h2,h3⟩=>⟨h1,fun _=>h2,h3⟩
theorem tlV{w w':World}{k:Int}{r0:BitVec 64}{e:Ending}(h:TlV w k (· =r0) e w'):AskQ w k (QA ⟨false,0,r0,ES,[],[]⟩) e w':=by
 obtain ⟨r,rfl,ht⟩:=h;exact ⟨false,0,wn r,ES,[],[],⟨rfl,rfl,rfl,rfl,rfl,rfl⟩,ht⟩
theorem tlS{w w':World}{k:Int}{r0:ByteArray}{e:Ending}(h:TlS w k (· =r0) e w'):AskQ w k (QA ⟨false,0,0,r0,[],[]⟩) e w':=by
 obtain ⟨r,rfl,ht⟩:=h;exact ⟨false,0,0,r,[],[],⟨rfl,rfl,rfl,rfl,rfl,rfl⟩,ht⟩
theorem tlT{w w':World}{k:Int}{is:Bool}{n:Nat}{s:ByteArray}{xs bs:List Value}{e:Ending}(h:TellP w k is n (.int .u64 0) s xs bs e w'):AskQ w k (QA ⟨is,n,0,s,xs,bs⟩) e w':=
 ⟨is,n,0,s,xs,bs,⟨rfl,rfl,rfl,rfl,rfl,rfl⟩,h⟩
theorem imp_53(s:StD)(ls:Nat->List Bool)(ha:s.a<4)(hb:s.b<4)(hc:s.c<4)(hn:s.n<=2000)(h3:(ls s.a).length<=3000)(hop:s.op=53)(is:Bool)(nn:Nat)(hf:FirstP (mOf (ls s.a)) true s.n (ls s.a).length is nn):StepOK s ls ls ⟨is,nn,0,ES,[],[]⟩:=by
 have hcall:∀(w:World) (R G:Nat) (bk:Nat->Nat) (vk:Nat->Value) (many:Value),Imp w R G bk vk ls->Calls Tryz.prog 39 #[s.v many,.pointer (some ⟨bk s.a,0,none⟩)] w (AskQ w s.op (QX (fun i r=>(r=true/\s.n<=i/\mOf (ls s.a) i=true/\∀j,s.n<=j->j<i->mOf (ls s.a) j=false)\/(r=false/\∀j,s.n<=j->mOf (ls s.a) j=false)))):=fun w R G bk vk many h=>by
  obtain ⟨op,a,b,c,fr,to,n,wd,ws⟩:=s
  simp only at hop;subst hop
  dsimp only at*
  exact (tls_53 a b c fr to n (bk a) wd many (fun i r=>(r=true/\n<=i/\mOf (ls a) i=true/\∀j,n<=j->j<i->mOf (ls a) j=false)\/(r=false/\∀j,n<=j->mOf (ls a) j=false)) w fun w1 hf=>have H:=h.keep hf (fun _ _ h=>h) (fun _ _ h=>h);(next_c (bk a) n _ (vk a) _ w1 H.tab (by omega) (H.set a ha)).mono fun e w2 ⟨⟨i,r,he,hr⟩,hw⟩=>⟨⟨i,r,he,hr⟩,frD hw⟩).mono fun _ _ h=>tlX h
 exact stepQ s ls _ _ ha hb hc (hqX (by rw [hop];omega) (fun i r hr=>first_one (fun _ j hj=>mOf_out _ hj) hf (hr.elim (fun ⟨a1,a2,a3,a4⟩=> .inl ⟨a1,a2,(fun h=>by cases h),a3,a4⟩) (fun ⟨a1,a2⟩=> .inr ⟨a1,fun j h _=>a2 j h⟩)))) (Or.inr (Or.inr ⟨by rw [hop];omega,hcall⟩))
theorem imp_54(s:StD)(ls:Nat->List Bool)(ha:s.a<4)(hb:s.b<4)(hc:s.c<4)(hn:s.n<=2000)(h3:(ls s.a).length<=3000)(hop:s.op=54)(is:Bool)(nn:Nat)(hlt:s.n<(ls s.a).length)(hf:FirstP (mOf (ls s.a)) false s.n (ls s.a).length is nn):StepOK s ls ls ⟨is,nn,0,ES,[],[]⟩:=by
 have hcall:∀(w:World) (R G:Nat) (bk:Nat->Nat) (vk:Nat->Value) (many:Value),Imp w R G bk vk ls->Calls Tryz.prog 39 #[s.v many,.pointer (some ⟨bk s.a,0,none⟩)] w (AskQ w s.op (QX (fun i r=>(r=true/\s.n<=i/\i<(ls s.a).length/\mOf (ls s.a) i=false/\∀j,s.n<=j->j<i->mOf (ls s.a) j=true)\/(r=false/\∀j,s.n<=j->j<(ls s.a).length->mOf (ls s.a) j=true)))):=fun w R G bk vk many h=>by
  obtain ⟨op,a,b,c,fr,to,n,wd,ws⟩:=s
  simp only at hop;subst hop
  dsimp only at*
  exact (tls_54 a b c fr to n (bk a) wd many (fun i r=>(r=true/\n<=i/\i<(ls a).length/\mOf (ls a) i=false/\∀j,n<=j->j<i->mOf (ls a) j=true)\/(r=false/\∀j,n<=j->j<(ls a).length->mOf (ls a) j=true)) w fun w1 hf=>have H:=h.keep hf (fun _ _ h=>h) (fun _ _ h=>h);(nextClear_c (bk a) n _ (vk a) _ w1 H.tab hlt (H.set a ha)).mono fun e w2 ⟨⟨i,r,he,hr⟩,hw⟩=>⟨⟨i,r,he,hr⟩,frW hw⟩).mono fun _ _ h=>tlX h
 exact stepQ s ls _ _ ha hb hc (hqX (by rw [hop];omega) (fun i r hr=>first_one (fun h=>by cases h) hf (hr.elim (fun ⟨a1,a2,a5,a3,a4⟩=> .inl ⟨a1,a2,fun _=>a5,a3,a4⟩) (fun ⟨a1,a2⟩=> .inr ⟨a1,a2⟩)))) (Or.inr (Or.inr ⟨by rw [hop];omega,hcall⟩))
theorem imp_55(s:StD)(ls:Nat->List Bool)(ha:s.a<4)(hb:s.b<4)(hc:s.c<4)(hn:s.n<=2000)(h3:(ls s.a).length<=3000)(hop:s.op=55)(is:Bool)(nn:Nat)(hlt:s.n<(ls s.a).length)(hf:LastP (mOf (ls s.a)) true s.n is nn):StepOK s ls ls ⟨is,nn,0,ES,[],[]⟩:=by
 have hcall:∀(w:World) (R G:Nat) (bk:Nat->Nat) (vk:Nat->Value) (many:Value),Imp w R G bk vk ls->Calls Tryz.prog 39 #[s.v many,.pointer (some ⟨bk s.a,0,none⟩)] w (AskQ w s.op (QX (fun i r=>(r=true/\i<=s.n/\mOf (ls s.a) i=true/\∀j,i<j->j<=s.n->mOf (ls s.a) j=false)\/(r=false/\∀j,j<=s.n->mOf (ls s.a) j=false)))):=fun w R G bk vk many h=>by
  obtain ⟨op,a,b,c,fr,to,n,wd,ws⟩:=s
  simp only at hop;subst hop
  dsimp only at*
  exact (tls_55 a b c fr to n (bk a) wd many (fun i r=>(r=true/\i<=n/\mOf (ls a) i=true/\∀j,i<j->j<=n->mOf (ls a) j=false)\/(r=false/\∀j,j<=n->mOf (ls a) j=false)) w fun w1 hf=>have H:=h.keep hf (fun _ _ h=>h) (fun _ _ h=>h);(prevSet_c (bk a) n _ (vk a) _ w1 hlt (H.set a ha)).mono fun e w2 ⟨⟨i,r,he,hr⟩,hw⟩=>⟨⟨i,r,he,hr⟩,frW hw⟩).mono fun _ _ h=>tlX h
 exact stepQ s ls _ _ ha hb hc (hqX (by rw [hop];omega) (fun i r hr=>last_one hf hr)) (Or.inr (Or.inr ⟨by rw [hop];omega,hcall⟩))
theorem imp_56(s:StD)(ls:Nat->List Bool)(ha:s.a<4)(hb:s.b<4)(hc:s.c<4)(hn:s.n<=2000)(h3:(ls s.a).length<=3000)(hop:s.op=56)(is:Bool)(nn:Nat)(hlt:s.n<(ls s.a).length)(hf:LastP (mOf (ls s.a)) false s.n is nn):StepOK s ls ls ⟨is,nn,0,ES,[],[]⟩:=by
 have hcall:∀(w:World) (R G:Nat) (bk:Nat->Nat) (vk:Nat->Value) (many:Value),Imp w R G bk vk ls->Calls Tryz.prog 39 #[s.v many,.pointer (some ⟨bk s.a,0,none⟩)] w (AskQ w s.op (QX (fun i r=>(r=true/\i<=s.n/\(!mOf (ls s.a) i)=true/\∀j,i<j->j<=s.n->(!mOf (ls s.a) j)=false)\/(r=false/\∀j,j<=s.n->(!mOf (ls s.a) j)=false)))):=fun w R G bk vk many h=>by
  obtain ⟨op,a,b,c,fr,to,n,wd,ws⟩:=s
  simp only at hop;subst hop
  dsimp only at*
  exact (tls_56 a b c fr to n (bk a) wd many (fun i r=>(r=true/\i<=n/\(!mOf (ls a) i)=true/\∀j,i<j->j<=n->(!mOf (ls a) j)=false)\/(r=false/\∀j,j<=n->(!mOf (ls a) j)=false)) w fun w1 hf=>have H:=h.keep hf (fun _ _ h=>h) (fun _ _ h=>h);(prevClear_c (bk a) n _ (vk a) _ w1 hlt (H.set a ha)).mono fun e w2 ⟨⟨i,r,he,hr⟩,hw⟩=>⟨⟨i,r,he,hr⟩,frW hw⟩).mono fun _ _ h=>tlX h
 exact stepQ s ls _ _ ha hb hc (hqX (by rw [hop];omega) (fun i r hr=>last_one hf (hr.elim (fun ⟨a1,a2,a3,a4⟩=> .inl ⟨a1,a2,by simpa using a3,fun j h1 h2=>by simpa using a4 j h1 h2⟩) (fun ⟨a1,a2⟩=> .inr ⟨a1,fun j h=>by simpa using a2 j h⟩)))) (Or.inr (Or.inr ⟨by rw [hop];omega,hcall⟩))
def Q57(m:Nat->Bool)(i:Nat)(is:Bool)(n:Nat)(z:Int)(t:ByteArray)(xs bs:List Value):Prop:=is=false/\M57 m i xs n/\z=0/\t=ES/\bs= []
theorem imp_57(s:StD)(ls:Nat->List Bool)(ha:s.a<4)(hb:s.b<4)(hc:s.c<4)(hn:s.n<=2000)(h3:(ls s.a).length<=3000)(hop:s.op=57)(t:Nat)(hle:(numsN (frm (mOf (ls s.a)) s.n) t).length<=20)(ht:((numsN (frm (mOf (ls s.a)) s.n) t).length=20/\∃r,t=r+1/\s.n<=r/\mOf (ls s.a) r=true)\/∀j,t<=j->mOf (ls s.a) j=false):StepOK s ls ls ⟨false,lastN (numsN (frm (mOf (ls s.a)) s.n) t),0,ES,(numsN (frm (mOf (ls s.a)) s.n) t).map numV,[]⟩:=by
 have hcall:∀(w:World) (R G:Nat) (bk:Nat->Nat) (vk:Nat->Value) (many:Value),Imp w R G bk vk ls->Calls Tryz.prog 39 #[s.v many,.pointer (some ⟨bk s.a,0,none⟩)] w (AskQ w s.op (Q57 (mOf (ls s.a)) s.n)):=fun w R G bk vk many h=>by
  obtain ⟨op,a,b,c,fr,to,n,wd,ws⟩:=s
  simp only at hop;subst hop
  dsimp only at*
  exact (tls_57 a b c fr to n (bk a) _ (vk a) _ wd many w h.tab (by omega) (h.set a ha)).mono fun e w' ⟨ys,z,hq,ht⟩=>⟨false,z,0,ES,ys,[],⟨rfl,hq,rfl,rfl,rfl⟩,ht⟩
 exact stepQ s ls _ _ ha hb hc (by
  rintro is k z tt xs bs ⟨rfl,⟨u,_,hul,hu,rfl,rfl⟩,rfl,rfl,rfl⟩
  have e:numsN (frm (mOf (ls s.a)) s.n) u=numsN (frm (mOf (ls s.a)) s.n) t:=by
   rcases Nat.le_total t u with h|h
   ·exact m57_le h hul ht
   ·exact (m57_le h hle hu).symm
  rw [e]
  exact ⟨rfl,fun _=>rfl,rfl,rfl,rfl,rfl⟩) (Or.inr (Or.inr ⟨by rw [hop];omega,hcall⟩))
theorem imp_59o(s:StD)(ls:Nat->List Bool)(ha:s.a<4)(hb:s.b<4)(hc:s.c<4)(hn:s.n<=2000)(h3:(ls s.a).length<=3000)(hop:s.op=59)(hge:cntN (mOf (ls s.a)) (ls s.a).length<=s.n):StepOK s ls ls ⟨false,(ls s.a).length,0,ES,[],[]⟩:=by
 have hcall:∀(w:World) (R G:Nat) (bk:Nat->Nat) (vk:Nat->Value) (many:Value),Imp w R G bk vk ls->Calls Tryz.prog 39 #[s.v many,.pointer (some ⟨bk s.a,0,none⟩)] w (AskQ w s.op (QN (fun r=>(r<(ls s.a).length/\mOf (ls s.a) r=true/\cntN (mOf (ls s.a)) r=s.n)\/(cntN (mOf (ls s.a)) (ls s.a).length<=s.n/\r=(ls s.a).length)))):=fun w R G bk vk many h=>by
  obtain ⟨op,a,b,c,fr,to,n,wd,ws⟩:=s
  simp only at hop;subst hop
  dsimp only at*
  exact (tls_59 a b c fr to n (bk a) wd many _ w fun w1 hf=>have H:=h.keep hf (fun _ _ h=>h) (fun _ _ h=>h);(select_c (bk a) n _ (vk a) _ w1 (by omega) (H.set a ha)).mono fun e w2 ⟨⟨r,he,hr⟩,hw⟩=>⟨⟨r,he,hr⟩,frW hw⟩).mono fun _ _ h=>tlN h
 exact stepQ s ls _ _ ha hb hc (hqN (fun r hr=>by
  rcases hr with ⟨h1,h2,h3⟩|⟨_,h⟩
  ·have h5:=cntN_grow (mOf (ls s.a)) (n:=r+1) (k:=(ls s.a).length) (by omega)
   rw [cntN_next _ r h2]at h5;omega
  ·exact h)) (Or.inr (Or.inr ⟨by rw [hop];omega,hcall⟩))
theorem imp_59i(s:StD)(ls:Nat->List Bool)(ha:s.a<4)(hb:s.b<4)(hc:s.c<4)(hn:s.n<=2000)(h3:(ls s.a).length<=3000)(hop:s.op=59)(hlt:s.n<cntN (mOf (ls s.a)) (ls s.a).length):StepOK s ls ls ⟨false,(numsN (mOf (ls s.a)) (ls s.a).length).getD s.n 0,0,ES,[],[]⟩:=by
 have hcall:∀(w:World) (R G:Nat) (bk:Nat->Nat) (vk:Nat->Value) (many:Value),Imp w R G bk vk ls->Calls Tryz.prog 39 #[s.v many,.pointer (some ⟨bk s.a,0,none⟩)] w (AskQ w s.op (QN (fun r=>(r<(ls s.a).length/\mOf (ls s.a) r=true/\cntN (mOf (ls s.a)) r=s.n)\/(cntN (mOf (ls s.a)) (ls s.a).length<=s.n/\r=(ls s.a).length)))):=fun w R G bk vk many h=>by
  obtain ⟨op,a,b,c,fr,to,n,wd,ws⟩:=s
  simp only at hop;subst hop
  dsimp only at*
  exact (tls_59 a b c fr to n (bk a) wd many _ w fun w1 hf=>have H:=h.keep hf (fun _ _ h=>h) (fun _ _ h=>h);(select_c (bk a) n _ (vk a) _ w1 (by omega) (H.set a ha)).mono fun e w2 ⟨⟨r,he,hr⟩,hw⟩=>⟨⟨r,he,hr⟩,frW hw⟩).mono fun _ _ h=>tlN h
 exact stepQ s ls _ _ ha hb hc (hqN (fun r hr=>by
  rcases hr with ⟨h1,h2,h3⟩|⟨h,_⟩
  ·rw [<- h3];exact (numsN_at _ _ _ h1 h2).symm
  ·omega)) (Or.inr (Or.inr ⟨by rw [hop];omega,hcall⟩))
theorem imp_61(s:StD)(ls:Nat->List Bool)(ha:s.a<4)(hb:s.b<4)(hc:s.c<4)(hn:s.n<=2000)(h3:(ls s.a).length<=3000)(hop:s.op=61):StepOK s ls ls ⟨false,0,pkAt (mOf (ls s.a)) s.n,ES,[],[]⟩:=by
 have hcall:∀(w:World) (R G:Nat) (bk:Nat->Nat) (vk:Nat->Value) (many:Value),Imp w R G bk vk ls->Calls Tryz.prog 39 #[s.v many,.pointer (some ⟨bk s.a,0,none⟩)] w (AskQ w s.op (QA ⟨false,0,pkAt (mOf (ls s.a)) s.n,ES,[],[]⟩)):=fun w R G bk vk many h=>by
  obtain ⟨op,a,b,c,fr,to,n,wd,ws⟩:=s
  simp only at hop;subst hop
  dsimp only at*
  exact (tls_61 a b c fr to n (bk a) wd many (· =pkAt (mOf (ls a)) n) w fun w1 hf=>have H:=h.keep hf (fun _ _ h=>h) (fun _ _ h=>h);(word64_c (bk a) n _ (vk a) _ w1 (by omega) (H.set a ha)).mono fun e w2 ⟨he,hw⟩=>⟨⟨_,he,rfl⟩,frW hw⟩).mono fun _ _ h=>tlV h
 exact stepQ s ls _ _ ha hb hc (hqA) (Or.inr (Or.inr ⟨by rw [hop];omega,hcall⟩))
theorem imp_62(s:StD)(ls:Nat->List Bool)(ha:s.a<4)(hb:s.b<4)(hc:s.c<4)(hn:s.n<=2000)(h3:(ls s.a).length<=3000)(hop:s.op=62):StepOK s ls ls ⟨false,0,0,setT (mOf (ls s.a)) (ls s.a).length,[],[]⟩:=by
 have hcall:∀(w:World) (R G:Nat) (bk:Nat->Nat) (vk:Nat->Value) (many:Value),Imp w R G bk vk ls->Calls Tryz.prog 37 #[s.v many,.pointer (some ⟨bk s.a,0,none⟩)] w (AskQ w s.op (QA ⟨false,0,0,setT (mOf (ls s.a)) (ls s.a).length,[],[]⟩)):=fun w R G bk vk many h=>by
  obtain ⟨op,a,b,c,fr,to,n,wd,ws⟩:=s
  simp only at hop;subst hop
  dsimp only at*
  exact (tls_62 a b c fr to n (bk a) wd many (· =setT (mOf (ls a)) (ls a).length) w fun w1 hf=>have H:=h.keep hf (fun _ _ h=>h) (fun _ _ h=>h);(string_c (bk a) _ (vk a) _ w1 H.tab H.pow (by omega) (H.set a ha)).mono fun e w2 ⟨he,hw⟩=>⟨⟨_,he,rfl⟩,hw⟩).mono fun _ _ h=>tlS h
 exact stepQ s ls _ _ ha hb hc (hqA) (Or.inl ⟨by rw [hop];omega,hcall⟩)
theorem imp_63(s:StD)(ls:Nat->List Bool)(ha:s.a<4)(hb:s.b<4)(hc:s.c<4)(hn:s.n<=2000)(h3:(ls s.a).length<=3000)(hop:s.op=63):StepOK s ls ls ⟨true,0,0,ES,[],setB (mOf (ls s.a)) (ls s.a).length⟩:=by
 have hcall:∀(w:World) (R G:Nat) (bk:Nat->Nat) (vk:Nat->Value) (many:Value),Imp w R G bk vk ls->Calls Tryz.prog 37 #[s.v many,.pointer (some ⟨bk s.a,0,none⟩)] w (AskQ w s.op (QA ⟨true,0,0,ES,[],setB (mOf (ls s.a)) (ls s.a).length⟩)):=fun w R G bk vk many h=>by
  obtain ⟨op,a,b,c,fr,to,n,wd,ws⟩:=s
  simp only at hop;subst hop
  dsimp only at*
  exact (tls_63 a b c fr to n (bk a) _ (vk a) _ wd many w (by omega) (h.set a ha)).mono fun _ _ h=>tlT h
 exact stepQ s ls _ _ ha hb hc (hqA) (Or.inl ⟨by rw [hop];omega,hcall⟩)
theorem imp_64(s:StD)(ls:Nat->List Bool)(ha:s.a<4)(hb:s.b<4)(hc:s.c<4)(hn:s.n<=2000)(h3:(ls s.a).length<=3000)(hop:s.op=64):StepOK s ls ls ⟨false,0,0,ES,((List.range (nw (ls s.a).length)).map (pk (mOf (ls s.a)))).map WV,[]⟩:=by
 have hcall:∀(w:World) (R G:Nat) (bk:Nat->Nat) (vk:Nat->Value) (many:Value),Imp w R G bk vk ls->Calls Tryz.prog 37 #[s.v many,.pointer (some ⟨bk s.a,0,none⟩)] w (AskQ w s.op (QA ⟨false,0,0,ES,((List.range (nw (ls s.a).length)).map (pk (mOf (ls s.a)))).map WV,[]⟩)):=fun w R G bk vk many h=>by
  obtain ⟨op,a,b,c,fr,to,n,wd,ws⟩:=s
  simp only at hop;subst hop
  dsimp only at*
  exact (tls_64 a b c fr to n (bk a) _ (vk a) _ wd many w (by omega) (h.set a ha)).mono fun _ _ h=>tlT h
 exact stepQ s ls _ _ ha hb hc (hqA) (Or.inl ⟨by rw [hop];omega,hcall⟩)
end Go.Proofs.YtobdfhlmipcjbaaGreatDoor
