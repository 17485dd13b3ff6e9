/- Two sets held against each other: what one has alone, alike, a part of the other. No condition beyond the sets' own. -/
import Derived.Test.YtobdfhlmipcjbaaGreatDoorG04
import Derived.Test.YtobdfhlmipcjbaaGreatDoorG06
set_option linter.unusedVariables false
set_option linter.unusedSimpArgs false
set_option maxHeartbeats 8000000
set_option maxRecDepth 100000
namespace Go.Proofs.YtobdfhlmipcjbaaGreatDoor
open Go.RowKit Pop
theorem dcard_raw(x y n n2 l c c2 s s2:Nat)(A B:Option Addr)(f g:Nat->BitVec 64)(w:World)(hn:n<=1000)(hn2:n2<=1000)(hl:l=min n n2)
  (x0:Calls Tryz.prog 101 #[.pointer (some ⟨x,0,none⟩)] w fun e w'=>e= .returned (.int .i64 (n:Int))/\w'=w) (y0:Calls Tryz.prog 101 #[.pointer (some ⟨y,0,none⟩)] w fun e w'=>e= .returned (.int .i64 (n2:Int))/\w'=w)
  (x1:w.cell? ⟨x,1,none⟩=some (.slice A n c)) (hc:n<=c) (hA:(A=none/\n=0/\c=0)\/A=some ⟨s,0,none⟩) (hf:∀i,i<n->w.cell? ⟨s,i,none⟩=some (WV (f i)))
  (y1:w.cell? ⟨y,1,none⟩=some (.slice B n2 c2)) (hc2:n2<=c2) (hB:(B=none/\n2=0/\c2=0)\/B=some ⟨s2,0,none⟩) (hg:∀i,i<n2->w.cell? ⟨s2,i,none⟩=some (WV (g i))):
  Calls Tryz.prog 86 #[.pointer (some ⟨x,0,none⟩),.pointer (some ⟨y,0,none⟩)] w fun e w'=>e= .returned (.int .u64 ((cntW (fun i=>f i&&& ~~~ g i) l+cntW (fun i=>f (l+i)) (n-l):Nat):Int))/\∃q,w'=w.drewN q:=by
 have hb1:=cntW_le (fun i=>f i&&& ~~~ g i) l
 have hb2:=cntW_le (fun i=>f (l+i)) (n-l)
 obtain ⟨r1,hr1⟩:∃r1,r1=cntW (fun i=>f i&&& ~~~ g i) l:=⟨_,rfl⟩
 obtain ⟨r2,hr2⟩:∃r2,r2=cntW (fun i=>f (l+i)) (n-l):=⟨_,rfl⟩
 rw [<- hr1]at hb1 ⊢
 rw [<- hr2]at hb2 ⊢
 have hb3:r1<=64000:=by omega
 have hb4:r2<=64000:=by omega
 have hln:l<=n:=by omega
 have hln2:l<=n2:=by omega
 have hP:∀w',(∀i,i<n->w'.cell? ⟨s,i,none⟩=some (WV (f i)))->∀A' d,(l<n->A'=some ⟨s,l,none⟩)->Calls Tryz.prog 115 #[.slice A' (n-l) d] w' fun e w''=>e= .returned (.int .u64 (r2:Int))/\w''=w':=fun w' hw A' d hA'=>by
  have h:=popcnt_tail A' s n l d f w' hA' (by omega) hw
  rwa [<- hr2]at h
 have hQ:0<l->∀q d d2,Calls Tryz.prog 122 #[.slice (some ⟨s,0,none⟩) l d,.slice (some ⟨s2,0,none⟩) l d2] (w.drewN q) fun e w'=>e= .returned (.int .u64 (r1:Int))/\∃m,w'=(w.drewN q).drewN m:=fun h0 q d d2=>by
  have h:=pcdif_c s s2 l d l d2 f g (w.drewN q) h0 (by omega) (Nat.le_refl _) (fun i hi=>hf i (by omega)) (fun i hi=>hg i (by omega))
  rwa [<- hr1]at h
 have h10:l=0->r1=0:=fun h=>by rw [hr1,h];rfl
 have r20:n-l=0->r2=0:=fun h=>by rw [hr2,h];rfl
 have R20:=Lib.hid r20;clear r20
 have HX0:=Lib.hid x0;have HY0:=Lib.hid y0;have HF:=Lib.hid hf;have HP:=Lib.hid hP;have HQ:=Lib.hid hQ;have H10:=Lib.hid h10
 clear x0 y0 hf hg hP hQ h10 hr1 hr2 hb1 hb2
 rcases Nat.lt_trichotomy n n2 with hcs|hcs|hcs
 ·have hl2:l=n:=by omega
  subst hl2
  clear hl
  have hd:decide ((l:Int)<(n2:Int))=true:=by simp;omega
  have hr2z:r2=0:=R20.out (by omega)
  subst hr2z
  rcases Nat.eq_zero_or_pos l with h0|h0
  ·have hr0:=H10.out h0
   subst hr0
   subst h0
   rcases hA with ⟨rfl,_,rfl⟩|rfl
   ·skip
    go_enter Tryz.func86,Tryz.ntmps86
    go_wp2_with (first|(go_at_call 103;refine (panicIfNull_c _ _).mono ?_;rintro e w' ⟨rfl,rfl⟩)|(go_at_call 101;first|(refine HY0.out.mono ?_;rintro e w' ⟨rfl,rfl⟩)|(refine HX0.out.mono ?_;rintro e w' ⟨rfl,rfl⟩))|(go_at_call 115;refine (popcnt_zero _ _ _).mono ?_;rintro e w' ⟨rfl,rfl⟩))
    go_ret
    exact ⟨by first|rfl|go_num|simp,0,rfl⟩
   ·rcases Nat.eq_zero_or_pos c with hcc|hcc
    ·subst hcc
     go_enter Tryz.func86,Tryz.ntmps86
     go_wp2_with (first|(go_at_call 103;refine (panicIfNull_c _ _).mono ?_;rintro e w' ⟨rfl,rfl⟩)|(go_at_call 101;first|(refine HY0.out.mono ?_;rintro e w' ⟨rfl,rfl⟩)|(refine HX0.out.mono ?_;rintro e w' ⟨rfl,rfl⟩))|(go_at_call 115;refine (popcnt_zero _ _ _).mono ?_;rintro e w' ⟨rfl,rfl⟩))
     go_ret
     exact ⟨by first|rfl|go_num|simp,0,rfl⟩
    ·have hne:¬0=c:=by omega
     go_enter Tryz.func86,Tryz.ntmps86
     go_wp2_with (first|(go_at_call 103;refine (panicIfNull_c _ _).mono ?_;rintro e w' ⟨rfl,rfl⟩)|(go_at_call 101;first|(refine HY0.out.mono ?_;rintro e w' ⟨rfl,rfl⟩)|(refine HX0.out.mono ?_;rintro e w' ⟨rfl,rfl⟩))|(go_at_call 115;refine (popcnt_zero _ _ _).mono ?_;rintro e w' ⟨rfl,rfl⟩))
     go_ret
     exact ⟨by first|rfl|go_num|simp,0,rfl⟩
  ·skip
   have hA':A=some ⟨s,0,none⟩:=hA.resolve_left (fun h=>by omega)
   have hB':B=some ⟨s2,0,none⟩:=hB.resolve_left (fun h=>by omega)
   subst hA' hB'
   have hQ:=HQ.out h0
   have HQ':=Lib.hid hQ;clear hQ hA hB
   have hg0:decide ((0:Int)<(l:Int))=true:=by simp;omega
   have b1:(0:Int)<=(l:Int)/\(l:Int)<=c:=by omega
   have b2:(0:Int)<=(l:Int)/\(l:Int)<=c2:=by omega
   go_enter Tryz.func86,Tryz.ntmps86
   go_wp2_with (first|(go_at_call 103;refine (panicIfNull_c _ _).mono ?_;rintro e w' ⟨rfl,rfl⟩)|(go_at_call 101;first|(refine HY0.out.mono ?_;rintro e w' ⟨rfl,rfl⟩)|(refine HX0.out.mono ?_;rintro e w' ⟨rfl,rfl⟩)))
   go_quiet ((go_at_call 122;exact Calls.quiet_of (HQ'.out _ _ _)))
   generalize hw3:World.drewN _ nq=w3
   have HW3:=Lib.hid hw3
   have hf3:∀i,i<l->w3.cell? ⟨s,i,none⟩=some (WV (f i)):=fun i hi=>by rw [<- hw3];exact HF.out i hi
   have x1':w3.cell? ⟨x,1,none⟩=some (.slice (some ⟨s,0,none⟩) l c):=by rw [<- hw3];exact x1
   have HF3:=Lib.hid hf3;clear hw3 hf3 x1 y1
   rcases Nat.lt_or_eq_of_le hc with hcc|hcc
   ·have hne:¬l=c:=by omega
    go_wp2_with (go_at_call 115;refine (popcnt_zero _ _ _).mono ?_;rintro e w' ⟨rfl,rfl⟩)
    go_ret
    exact ⟨by first|rfl|go_num|simp,_,HW3.out.symm⟩
   ·subst hcc
    go_wp2_with (go_at_call 115;refine (popcnt_zero _ _ _).mono ?_;rintro e w' ⟨rfl,rfl⟩)
    go_ret
    exact ⟨by first|rfl|go_num|simp,_,HW3.out.symm⟩
 ·have hl2:l=n:=by omega
  subst hcs
  subst hl2
  clear hl
  have hr2z:r2=0:=R20.out (by omega)
  subst hr2z
  rcases Nat.eq_zero_or_pos l with h0|h0
  ·have hr0:=H10.out h0
   subst hr0
   subst h0
   rcases hA with ⟨rfl,_,rfl⟩|rfl
   ·skip
    go_enter Tryz.func86,Tryz.ntmps86
    go_wp2_with (first|(go_at_call 103;refine (panicIfNull_c _ _).mono ?_;rintro e w' ⟨rfl,rfl⟩)|(go_at_call 101;first|(refine HY0.out.mono ?_;rintro e w' ⟨rfl,rfl⟩)|(refine HX0.out.mono ?_;rintro e w' ⟨rfl,rfl⟩))|(go_at_call 115;refine (popcnt_zero _ _ _).mono ?_;rintro e w' ⟨rfl,rfl⟩))
    go_ret
    exact ⟨by first|rfl|go_num|simp,0,rfl⟩
   ·rcases Nat.eq_zero_or_pos c with hcc|hcc
    ·subst hcc
     go_enter Tryz.func86,Tryz.ntmps86
     go_wp2_with (first|(go_at_call 103;refine (panicIfNull_c _ _).mono ?_;rintro e w' ⟨rfl,rfl⟩)|(go_at_call 101;first|(refine HY0.out.mono ?_;rintro e w' ⟨rfl,rfl⟩)|(refine HX0.out.mono ?_;rintro e w' ⟨rfl,rfl⟩))|(go_at_call 115;refine (popcnt_zero _ _ _).mono ?_;rintro e w' ⟨rfl,rfl⟩))
     go_ret
     exact ⟨by first|rfl|go_num|simp,0,rfl⟩
    ·have hne:¬0=c:=by omega
     go_enter Tryz.func86,Tryz.ntmps86
     go_wp2_with (first|(go_at_call 103;refine (panicIfNull_c _ _).mono ?_;rintro e w' ⟨rfl,rfl⟩)|(go_at_call 101;first|(refine HY0.out.mono ?_;rintro e w' ⟨rfl,rfl⟩)|(refine HX0.out.mono ?_;rintro e w' ⟨rfl,rfl⟩))|(go_at_call 115;refine (popcnt_zero _ _ _).mono ?_;rintro e w' ⟨rfl,rfl⟩))
     go_ret
     exact ⟨by first|rfl|go_num|simp,0,rfl⟩
  ·skip
   have hA':A=some ⟨s,0,none⟩:=hA.resolve_left (fun h=>by omega)
   have hB':B=some ⟨s2,0,none⟩:=hB.resolve_left (fun h=>by omega)
   subst hA' hB'
   have hQ:=HQ.out h0
   have HQ':=Lib.hid hQ;clear hQ hA hB
   have hg0:decide ((0:Int)<(l:Int))=true:=by simp;omega
   have b1:(0:Int)<=(l:Int)/\(l:Int)<=c:=by omega
   have b2:(0:Int)<=(l:Int)/\(l:Int)<=c2:=by omega
   go_enter Tryz.func86,Tryz.ntmps86
   go_wp2_with (first|(go_at_call 103;refine (panicIfNull_c _ _).mono ?_;rintro e w' ⟨rfl,rfl⟩)|(go_at_call 101;first|(refine HY0.out.mono ?_;rintro e w' ⟨rfl,rfl⟩)|(refine HX0.out.mono ?_;rintro e w' ⟨rfl,rfl⟩)))
   go_quiet ((go_at_call 122;exact Calls.quiet_of (HQ'.out _ _ _)))
   generalize hw3:World.drewN _ nq=w3
   have HW3:=Lib.hid hw3
   have hf3:∀i,i<l->w3.cell? ⟨s,i,none⟩=some (WV (f i)):=fun i hi=>by rw [<- hw3];exact HF.out i hi
   have x1':w3.cell? ⟨x,1,none⟩=some (.slice (some ⟨s,0,none⟩) l c):=by rw [<- hw3];exact x1
   have HF3:=Lib.hid hf3;clear hw3 hf3 x1 y1
   rcases Nat.lt_or_eq_of_le hc with hcc|hcc
   ·have hne:¬l=c:=by omega
    go_wp2_with (go_at_call 115;refine (popcnt_zero _ _ _).mono ?_;rintro e w' ⟨rfl,rfl⟩)
    go_ret
    exact ⟨by first|rfl|go_num|simp,_,HW3.out.symm⟩
   ·subst hcc
    go_wp2_with (go_at_call 115;refine (popcnt_zero _ _ _).mono ?_;rintro e w' ⟨rfl,rfl⟩)
    go_ret
    exact ⟨by first|rfl|go_num|simp,_,HW3.out.symm⟩
 ·have hl2:l=n2:=by omega
  subst hl2
  clear hl R20
  have hd:decide ((n:Int)<(l:Int))=false:=by simp;omega
  have hne:¬l=c:=by omega
  rcases Nat.eq_zero_or_pos l with h0|h0
  ·have hr0:=H10.out h0
   subst hr0
   subst h0
   have hA':A=some ⟨s,0,none⟩:=hA.resolve_left (fun h=>by omega)
   subst hA'
   go_enter Tryz.func86,Tryz.ntmps86
   go_wp2_with (first|(go_at_call 103;refine (panicIfNull_c _ _).mono ?_;rintro e w' ⟨rfl,rfl⟩)|(go_at_call 101;first|(refine HY0.out.mono ?_;rintro e w' ⟨rfl,rfl⟩)|(refine HX0.out.mono ?_;rintro e w' ⟨rfl,rfl⟩))|(go_at_call 115;refine (HP.out _ HF.out _ _ (fun _=>rfl)).mono ?_;rintro e w' ⟨rfl,rfl⟩))
   go_ret
   exact ⟨by first|rfl|go_num|simp,0,rfl⟩
  ·skip
   have hA':A=some ⟨s,0,none⟩:=hA.resolve_left (fun h=>by omega)
   have hB':B=some ⟨s2,0,none⟩:=hB.resolve_left (fun h=>by omega)
   subst hA' hB'
   have hQ:=HQ.out h0
   have HQ':=Lib.hid hQ;clear hQ hA hB
   have hg0:decide ((0:Int)<(l:Int))=true:=by simp;omega
   have b1:(0:Int)<=(l:Int)/\(l:Int)<=c:=by omega
   have b2:(0:Int)<=(l:Int)/\(l:Int)<=c2:=by omega
   go_enter Tryz.func86,Tryz.ntmps86
   go_wp2_with (first|(go_at_call 103;refine (panicIfNull_c _ _).mono ?_;rintro e w' ⟨rfl,rfl⟩)|(go_at_call 101;first|(refine HY0.out.mono ?_;rintro e w' ⟨rfl,rfl⟩)|(refine HX0.out.mono ?_;rintro e w' ⟨rfl,rfl⟩)))
   go_quiet ((go_at_call 122;exact Calls.quiet_of (HQ'.out _ _ _)))
   generalize hw3:World.drewN _ nq=w3
   have HW3:=Lib.hid hw3
   have hf3:∀i,i<n->w3.cell? ⟨s,i,none⟩=some (WV (f i)):=fun i hi=>by rw [<- hw3];exact HF.out i hi
   have x1':w3.cell? ⟨x,1,none⟩=some (.slice (some ⟨s,0,none⟩) n c):=by rw [<- hw3];exact x1
   have HF3:=Lib.hid hf3;clear hw3 hf3 x1 y1
   go_wp2_with (go_at_call 115;refine (HP.out _ HF3.out _ _ (fun _=>rfl)).mono ?_;rintro e w' ⟨rfl,rfl⟩)
   go_ret
   exact ⟨by first|rfl|go_num|simp,_,HW3.out.symm⟩
theorem dcard_c(p q L M:Nat)(v u:Value)(m k:Nat->Bool)(w:World)(hx:BA w p v L m)(hy:BA w q u M k):
  Calls Tryz.prog 86 #[.pointer (some ⟨p,0,none⟩),.pointer (some ⟨q,0,none⟩)] w fun e w'=>e= .returned (.int .u64 ((cntN (fun i=>m i&& !k i) L:Nat):Int))/\∃q,w'=w.drewN q:=by
 obtain ⟨x0,hlx,hmx,_⟩:=hx.view
 obtain ⟨y0,hly,hmy,_⟩:=hy.view
 obtain ⟨A,s,c,x1,hc,hA,hf⟩:=hx.view3
 obtain ⟨B,s2,c2,y1,hc2,hB,hg⟩:=hy.view3
 have h:=dcard_raw p q (nw L) (nw M) (min (nw L) (nw M)) c c2 s s2 A B (pk m) (pk k) w (nw_bound hlx) (nw_bound hly) rfl (wordCount_n p L w _ rfl hlx x0) (wordCount_n q M w _ rfl hly y0) x1 hc hA hf y1 hc2 hB hg
 have hout:∀i,L<=i->(fun i=>m i&& !k i) i=false:=fun i hi=>by simp [hmx i hi]
 have htl:∀i,min (nw L) (nw M)<=i->i<nw L->pk (fun i=>m i&& !k i) i=pk m i:=fun i hi hi2=>pk_same (fun j _=>by
  show (m (64*i+j)&& !k (64*i+j))=m (64*i+j)
  rw [hmy _ (by unfold nw at hi hi2;omega)];simp)
 rw [show (fun i=>pk m i&&& ~~~ pk k i)=pk (fun i=>m i&& !k i) from funext (fun i=>pk_dif m k i),cntW_two _ _ _ _ (Nat.min_le_left _ _) htl,cntW_set hout]at h
 exact h
end Go.Proofs.YtobdfhlmipcjbaaGreatDoor
