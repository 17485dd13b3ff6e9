/- Union, SymmetricDifference, Intersection, Difference: joins made anew. No condition beyond the sets' own (they may be one). WriteTo a bytes.Buffer, MarshalBinary. Conditions: fewer than 128 words. Copy: the words of one set copied to another, as many as both have. Conditions: the two sets are one or share no block. Union, SymmetricDifference, Intersection, Difference: joins made anew. No condition beyond the sets' own (they may be one). Difference: made anew. No condition beyond the sets' own (they may be one). -/
import Derived.Deep.QuietTactic
import Derived.Deep.RegionHeld3
import Derived.Test.YtobdfhlmipcjbaaGreatDoorG03
import Derived.Test.YtobdfhlmipcjbaaGreatDoorG30
import Derived.Test.YtobdfhlmipcjbaaGreatDoorG32
set_option linter.unusedVariables false
set_option linter.unusedSimpArgs false
set_option maxHeartbeats 2000000
set_option maxRecDepth 100000
namespace Go.Proofs.YtobdfhlmipcjbaaGreatDoor
open Go.RowKit
theorem BA.zeroLen{w:World}{b:Nat}{v:Value}{m:Nat->Bool}(h:BA w b v 0 m):∃a c,v= .slice a 0 c:=by
 rcases h.2.arr with ⟨_,rfl⟩|⟨s,c,rfl,_⟩
 ·exact ⟨_,_,rfl⟩
 ·exact ⟨_,_,rfl⟩
theorem union_le(x y Lx Ly:Nat)(vx vy:Value)(mx my:Nat->Bool)(w:World)(hle:Lx<=Ly)(hx:BA w x vx Lx mx)(hy:BA w y vy Ly my):
  Calls Tryz.prog 60 #[.pointer (some ⟨x,0,none⟩),.pointer (some ⟨y,0,none⟩)] w (MadeA w Ly (fun i=>mx i||my i)):=by
 have hlx:=hx.2.lim
 have hly:=hy.2.lim
 have x0:=hp_cell hx.2.blk 0 (v:= .int .u64 Lx) rfl
 have x1:=hp_cell hx.2.blk 1 (v:=vx) rfl
 have y0:=hp_cell hy.2.blk 0 (v:= .int .u64 Ly) rfl
 have y1:=hp_cell hy.2.blk 1 (v:=vy) rfl
 have xb:=hp_lt hx.2.blk
 have yb:=hp_lt hy.2.blk
 have mxo:=hx.1
 have myo:=hy.1
 have hsort:=fun w=>sort_le x y Lx Ly w hle
 have HSO:=Lib.hid hsort;have X0:=Lib.hid x0;have Y0:=Lib.hid y0
 have MX:=Lib.hid mxo;have MY:=Lib.hid myo
 clear hsort mxo myo
 by_cases hz:Lx=0
 ·subst hz
  obtain ⟨a2,c2,rfl⟩:=hx.zeroLen
  have HY:=Lib.hid hy;clear hx hy
  go_enter Tryz.func60,Tryz.ntmps60
  go_wp2_with (first|(go_at_call 103;refine (panicIfNull_c _ _).mono ?_;rintro e w' ⟨rfl,rfl⟩)|(go_at_call 105;refine (HSO.out _ X0.out Y0.out).mono ?_;rintro e w' ⟨rfl,nq,rfl⟩)|(go_at_call 65;refine (clone_r y Ly _ my _ (HY.out.drewN _)).mono ?_;rintro e w1 ⟨b1,s1,c1,g1,rfl,r1,hg1,hfr,hb1,hs1⟩;refine Hid.out ?_))
  refine Lib.hid ?_
  have q1:=(hfr.cell (a:=⟨x,1,none⟩) xb (fun h=>h)).trans x1
  have HR:=Lib.hid r1;have HF:=Lib.hid hfr;have HG1:=Lib.hid hg1
  clear r1 hg1 hfr x0 x1 y0 y1
  go_wp2
  refine wp_loop_once ?_
  go_wp2
  go_ret
  refine MadeR.ma ⟨b1,s1,c1,g1,rfl,HR.out,fun i hi=>?_,((Fr.refl _ _).drewN nq).trans HF.out,hb1,hs1⟩ (fun i hi=>?_)
  ·rw [HG1.out i hi];exact congrArg (fun m=>pk m i) (by funext i;rw [MX.out i (by omega)];simp)
  ·rw [MX.out i (by omega),MY.out i (by omega)];rfl
 ·obtain ⟨s,c,g,rfl,r,hg,_⟩:=hx.rs (by omega)
  obtain ⟨s2,c2,g2,rfl,r2,hg2,_⟩:=hy.rs (by omega)
  obtain ⟨n,hnL⟩:∃n,n=nw Lx:=⟨_,rfl⟩
  obtain ⟨n2,hnL2⟩:∃n,n=nw Ly:=⟨_,rfl⟩
  have hnn:n<=n2:=by subst hnL hnL2;unfold nw;omega
  have hnb:n2<=1000:=by subst hnL2;unfold nw;omega
  rw [<- hnL]at x1
  rw [<- hnL2]at y1
  have HX:=Lib.hid hx;have HY:=Lib.hid hy;have RX:=Lib.hid r;have RY:=Lib.hid r2;have GX:=Lib.hid hg;have GY:=Lib.hid hg2
  have HN:=Lib.hid hnL;have HN2:=Lib.hid hnL2
  clear hx hy r r2 hg hg2 hnL hnL2
  go_enter Tryz.func60,Tryz.ntmps60
  go_wp2_with (first|(go_at_call 103;refine (panicIfNull_c _ _).mono ?_;rintro e w' ⟨rfl,rfl⟩)|(go_at_call 105;refine (HSO.out _ X0.out Y0.out).mono ?_;rintro e w' ⟨rfl,nq,rfl⟩)|(go_at_call 65;refine (clone_r y Ly _ my _ (HY.out.drewN _)).mono ?_;rintro e w1 ⟨b1,s1,c1,g1,rfl,r1,hg1,hfr,hb1,hs1⟩;refine Hid.out ?_))
  refine Lib.hid ?_
  have q1:=(hfr.cell (a:=⟨x,1,none⟩) xb (fun h=>h)).trans x1
  have q2:=(hfr.cell (a:=⟨y,1,none⟩) yb (fun h=>h)).trans y1
  have rx:=(RX.out.drewN nq).keep hfr (fun h=>h) (fun h=>h)
  have ry:=(RY.out.drewN nq).keep hfr (fun h=>h) (fun h=>h)
  have RX1:=Lib.hid rx;have RY1:=Lib.hid ry
  have HR:=Lib.hid r1;have HF:=Lib.hid hfr;have HG1:=Lib.hid hg1
  have xs:=RX.out.hs.lt
  have ys:=RY.out.hs.lt
  have hrb:=hp_lt r1.hb
  clear r1 hg1 hfr x0 x1 y0 y1 rx ry
  go_wp2
  go_loopw [24] (fun i wr=>∃k:Nat,k<=n/\i= .int .i64 (k:Int)/\RS wr b1 s1 Ly c1 (fun j=>if j<k then g j|||g2 j else g1 j)/\∃nd,Fr (· =s1) (w1.drewN nd) wr) (fun i _=>n-(intOf i).toNat)
  case atStart=>exact ⟨0,by omega,rfl,HR.out.congr (fun j _=>by simp),0,Fr.refl _ _⟩
  case round=>
   obtain ⟨k,hk,rfl,hr,nd,hfr⟩:=hrel
   have HFr:=Lib.hid hfr
   have HRr:=Lib.hid hr
   have z1:=hr.h1
   have q3:=(hfr.cell (a:=⟨y,1,none⟩) (Nat.lt_of_lt_of_le yb HF.out.size) (by show ¬y=s1;intro e;subst e;exact absurd yb (Nat.not_lt.2 hs1))).trans q2
   by_cases hlt:k<n
   ·have hkr:k<nw Ly:=by have:=HN.out;have:=HN2.out;omega
    have c0:=hr.at hkr
    have f0:=hr.fr k
    have cx:=(hfr.cell (a:=⟨s,k,none⟩) RX1.out.hs.lt (by show ¬s=s1;intro e;subst e;exact absurd xs (Nat.not_lt.2 hs1))).trans ((RX1.out.drewN nd).at (i:=k) (by rw [<- HN.out];exact hlt))
    have cy:=(hfr.cell (a:=⟨s2,k,none⟩) RY1.out.hs.lt (by show ¬s2=s1;intro e;subst e;exact absurd ys (Nat.not_lt.2 hs1))).trans ((RY1.out.drewN nd).at (i:=k) (by rw [<- HN2.out];omega))
    obtain ⟨nr,hnr⟩:∃nr,nr=nw Ly:=⟨_,rfl⟩
    rw [<- hnr]at z1 hkr
    have k2:k<n2:=by omega
    clear hr hfr hnr
    go_wp2
    refine wp_region_quiet_tail 14 (by kernel_rfl) (by kernel_rfl) ?_
    simp only [List.take_succ_cons,List.take_zero,List.drop_succ_cons,List.drop_zero]
    repeat (go_big_quiet_step (fail))
    refine wpQuiet_nil ?_
    intro _ ⟨nq2,hw'⟩
    subst hw'
    go_wp2
    go_roundw
    case rel=>
     refine ⟨k+1,by omega,by go_num,?_,nd,(HFr.out.drewN nq2).setCell (.inl rfl) _⟩
     rw [wn_or]
     refine ((HRr.out.drewN nq2).set k _).congr (fun j _=>?_)
     by_cases e:j=k
     ·rw [if_pos e,if_pos (show j<k+1 by omega),e]
     ·rw [if_neg e]
      by_cases e2:j<k
      ·rw [if_pos e2,if_pos (show j<k+1 by omega)]
      ·rw [if_neg e2,if_neg (show ¬j<k+1 by omega)]
    case measure=>simp [intOf];omega
   ·have hkn:k=n:=by omega
    subst hkn
    clear hr hfr
    go_wp2
    go_ret
    refine MadeR.ma ⟨b1,s1,c1,_,rfl,HRr.out,fun i hi=>?_,(((Fr.refl _ _).drewN nq).trans HF.out).trans' (((Fr.refl (· =s1) _).drewN nd).trans HFr.out) (fun r hr=> .inr (by subst hr;exact hs1)),hb1,hs1⟩ (fun i hi=>?_)
    ·by_cases e:i<k
     ·rw [if_pos e,GX.out i (by rw [<- HN.out];exact e),GY.out i (by rw [<- HN2.out];omega),pk_or]
     ·rw [if_neg e,HG1.out i hi];refine pk_same (fun j hj=>?_) |>.symm;rw [MX.out _ (by have:=HN.out;unfold nw at this;omega)];simp
    ·rw [MX.out i (by omega),MY.out i (by omega)];rfl
theorem union_gt(x y Lx Ly:Nat)(vx vy:Value)(mx my:Nat->Bool)(w:World)(hle:Lx<Ly)(hx:BA w x vx Lx mx)(hy:BA w y vy Ly my):
  Calls Tryz.prog 60 #[.pointer (some ⟨y,0,none⟩),.pointer (some ⟨x,0,none⟩)] w (MadeA w Ly (fun i=>my i||mx i)):=by
 have hlx:=hx.2.lim
 have hly:=hy.2.lim
 have x0:=hp_cell hx.2.blk 0 (v:= .int .u64 Lx) rfl
 have x1:=hp_cell hx.2.blk 1 (v:=vx) rfl
 have y0:=hp_cell hy.2.blk 0 (v:= .int .u64 Ly) rfl
 have y1:=hp_cell hy.2.blk 1 (v:=vy) rfl
 have xb:=hp_lt hx.2.blk
 have yb:=hp_lt hy.2.blk
 have mxo:=hx.1
 have myo:=hy.1
 have hsort:=fun w=>sort_gt y x Ly Lx w hle
 have HSO:=Lib.hid hsort;have X0:=Lib.hid x0;have Y0:=Lib.hid y0
 have MX:=Lib.hid mxo;have MY:=Lib.hid myo
 clear hsort mxo myo
 by_cases hz:Lx=0
 ·subst hz
  obtain ⟨a2,c2,rfl⟩:=hx.zeroLen
  have HY:=Lib.hid hy;clear hx hy
  go_enter Tryz.func60,Tryz.ntmps60
  go_wp2_with (first|(go_at_call 103;refine (panicIfNull_c _ _).mono ?_;rintro e w' ⟨rfl,rfl⟩)|(go_at_call 105;refine (HSO.out _ Y0.out X0.out).mono ?_;rintro e w' ⟨rfl,nq,rfl⟩)|(go_at_call 65;refine (clone_r y Ly _ my _ (HY.out.drewN _)).mono ?_;rintro e w1 ⟨b1,s1,c1,g1,rfl,r1,hg1,hfr,hb1,hs1⟩;refine Hid.out ?_))
  refine Lib.hid ?_
  have q1:=(hfr.cell (a:=⟨x,1,none⟩) xb (fun h=>h)).trans x1
  have HR:=Lib.hid r1;have HF:=Lib.hid hfr;have HG1:=Lib.hid hg1
  clear r1 hg1 hfr x0 x1 y0 y1
  go_wp2
  refine wp_loop_once ?_
  go_wp2
  go_ret
  refine MadeR.ma ⟨b1,s1,c1,g1,rfl,HR.out,fun i hi=>?_,((Fr.refl _ _).drewN nq).trans HF.out,hb1,hs1⟩ (fun i hi=>?_)
  ·rw [HG1.out i hi];exact congrArg (fun m=>pk m i) (by funext i;rw [MX.out i (by omega)];simp)
  ·rw [MX.out i (by omega),MY.out i (by omega)];rfl
 ·obtain ⟨s,c,g,rfl,r,hg,_⟩:=hx.rs (by omega)
  obtain ⟨s2,c2,g2,rfl,r2,hg2,_⟩:=hy.rs (by omega)
  obtain ⟨n,hnL⟩:∃n,n=nw Lx:=⟨_,rfl⟩
  obtain ⟨n2,hnL2⟩:∃n,n=nw Ly:=⟨_,rfl⟩
  have hnn:n<=n2:=by subst hnL hnL2;unfold nw;omega
  have hnb:n2<=1000:=by subst hnL2;unfold nw;omega
  rw [<- hnL]at x1
  rw [<- hnL2]at y1
  have HX:=Lib.hid hx;have HY:=Lib.hid hy;have RX:=Lib.hid r;have RY:=Lib.hid r2;have GX:=Lib.hid hg;have GY:=Lib.hid hg2
  have HN:=Lib.hid hnL;have HN2:=Lib.hid hnL2
  clear hx hy r r2 hg hg2 hnL hnL2
  go_enter Tryz.func60,Tryz.ntmps60
  go_wp2_with (first|(go_at_call 103;refine (panicIfNull_c _ _).mono ?_;rintro e w' ⟨rfl,rfl⟩)|(go_at_call 105;refine (HSO.out _ Y0.out X0.out).mono ?_;rintro e w' ⟨rfl,nq,rfl⟩)|(go_at_call 65;refine (clone_r y Ly _ my _ (HY.out.drewN _)).mono ?_;rintro e w1 ⟨b1,s1,c1,g1,rfl,r1,hg1,hfr,hb1,hs1⟩;refine Hid.out ?_))
  refine Lib.hid ?_
  have q1:=(hfr.cell (a:=⟨x,1,none⟩) xb (fun h=>h)).trans x1
  have q2:=(hfr.cell (a:=⟨y,1,none⟩) yb (fun h=>h)).trans y1
  have rx:=(RX.out.drewN nq).keep hfr (fun h=>h) (fun h=>h)
  have ry:=(RY.out.drewN nq).keep hfr (fun h=>h) (fun h=>h)
  have RX1:=Lib.hid rx;have RY1:=Lib.hid ry
  have HR:=Lib.hid r1;have HF:=Lib.hid hfr;have HG1:=Lib.hid hg1
  have xs:=RX.out.hs.lt
  have ys:=RY.out.hs.lt
  have hrb:=hp_lt r1.hb
  clear r1 hg1 hfr x0 x1 y0 y1 rx ry
  go_wp2
  go_loopw [24] (fun i wr=>∃k:Nat,k<=n/\i= .int .i64 (k:Int)/\RS wr b1 s1 Ly c1 (fun j=>if j<k then g j|||g2 j else g1 j)/\∃nd,Fr (· =s1) (w1.drewN nd) wr) (fun i _=>n-(intOf i).toNat)
  case atStart=>exact ⟨0,by omega,rfl,HR.out.congr (fun j _=>by simp),0,Fr.refl _ _⟩
  case round=>
   obtain ⟨k,hk,rfl,hr,nd,hfr⟩:=hrel
   have HFr:=Lib.hid hfr
   have HRr:=Lib.hid hr
   have z1:=hr.h1
   have q3:=(hfr.cell (a:=⟨y,1,none⟩) (Nat.lt_of_lt_of_le yb HF.out.size) (by show ¬y=s1;intro e;subst e;exact absurd yb (Nat.not_lt.2 hs1))).trans q2
   by_cases hlt:k<n
   ·have hkr:k<nw Ly:=by have:=HN.out;have:=HN2.out;omega
    have c0:=hr.at hkr
    have f0:=hr.fr k
    have cx:=(hfr.cell (a:=⟨s,k,none⟩) RX1.out.hs.lt (by show ¬s=s1;intro e;subst e;exact absurd xs (Nat.not_lt.2 hs1))).trans ((RX1.out.drewN nd).at (i:=k) (by rw [<- HN.out];exact hlt))
    have cy:=(hfr.cell (a:=⟨s2,k,none⟩) RY1.out.hs.lt (by show ¬s2=s1;intro e;subst e;exact absurd ys (Nat.not_lt.2 hs1))).trans ((RY1.out.drewN nd).at (i:=k) (by rw [<- HN2.out];omega))
    obtain ⟨nr,hnr⟩:∃nr,nr=nw Ly:=⟨_,rfl⟩
    rw [<- hnr]at z1 hkr
    have k2:k<n2:=by omega
    clear hr hfr hnr
    go_wp2
    refine wp_region_quiet_tail 14 (by kernel_rfl) (by kernel_rfl) ?_
    simp only [List.take_succ_cons,List.take_zero,List.drop_succ_cons,List.drop_zero]
    repeat (go_big_quiet_step (fail))
    refine wpQuiet_nil ?_
    intro _ ⟨nq2,hw'⟩
    subst hw'
    go_wp2
    go_roundw
    case rel=>
     refine ⟨k+1,by omega,by go_num,?_,nd,(HFr.out.drewN nq2).setCell (.inl rfl) _⟩
     rw [wn_or]
     refine ((HRr.out.drewN nq2).set k _).congr (fun j _=>?_)
     by_cases e:j=k
     ·rw [if_pos e,if_pos (show j<k+1 by omega),e]
     ·rw [if_neg e]
      by_cases e2:j<k
      ·rw [if_pos e2,if_pos (show j<k+1 by omega)]
      ·rw [if_neg e2,if_neg (show ¬j<k+1 by omega)]
    case measure=>simp [intOf];omega
   ·have hkn:k=n:=by omega
    subst hkn
    clear hr hfr
    go_wp2
    go_ret
    refine MadeR.ma ⟨b1,s1,c1,_,rfl,HRr.out,fun i hi=>?_,(((Fr.refl _ _).drewN nq).trans HF.out).trans' (((Fr.refl (· =s1) _).drewN nd).trans HFr.out) (fun r hr=> .inr (by subst hr;exact hs1)),hb1,hs1⟩ (fun i hi=>?_)
    ·by_cases e:i<k
     ·rw [if_pos e,GX.out i (by rw [<- HN.out];exact e),GY.out i (by rw [<- HN2.out];omega),pk_or]
      congr 1;funext i;exact Bool.or_comm _ _
     ·rw [if_neg e,HG1.out i hi];refine pk_same (fun j hj=>?_) |>.symm;rw [MX.out _ (by have:=HN.out;unfold nw at this;omega)];simp
    ·rw [MX.out i (by omega),MY.out i (by omega)];rfl
theorem union_c(b b2 L L2:Nat)(v v2:Value)(m m2:Nat->Bool)(w:World)(h:BA w b v L m)(k:BA w b2 v2 L2 m2):
  Calls Tryz.prog 60 #[.pointer (some ⟨b,0,none⟩),.pointer (some ⟨b2,0,none⟩)] w (MadeA w (max L L2) (fun i=>m i||m2 i)):=by
 by_cases e:L<=L2
 ·rw [Nat.max_eq_right e];exact union_le b b2 L L2 v v2 m m2 w e h k
 ·rw [Nat.max_eq_left (by omega)];exact union_gt b2 b L2 L v2 v m2 m w (by omega) k h
@[go_sem] theorem meth_value (first cap:Array Value) (w:World):(Instr.makeFunc (.method "Write") first cap).run Tryz.prog w= .ok (.func (.method "Write") first cap) w:=rfl
@[go_sem] theorem nil_write (b:Nat) (w:World):(nilAhead 289 124 (.pointer (some ⟨b,0,none⟩)) "Write").run Tryz.prog w= .ok (some false) w:=by kernel_rfl
def setB(m:Nat->Bool)(L:Nat):List Value:=Lib.byteCells (Lib.beBytes 8 L)++flatW (pk m) (nw L)
theorem setB_one(m:Nat->Bool)(L:Nat):∀v∈setB m L,v.oneCell'=true:=by
 intro v hv
 rcases List.mem_append.1 hv with h|h
 ·exact byteCells_one _ v h
 ·exact flatW_one _ _ v h
theorem setB_length(m:Nat->Bool)(L:Nat):(setB m L).length=8+8*nw L:=by
 unfold setB
 rw [List.length_append,Lib.byteCells_length,Lib.beBytes_length,flatW_length]
def WtP(w:World)(b L:Nat)(m:Nat->Bool)(e:Ending)(w':World):Prop:=
 (∃z,e= .returned (.tuple #[z,.nilIface]))/\Lib.IsBuffer 121 5 b b (setB m L) w'/\Fr (fun r=>b<=r) w w'
theorem writeTo_c(p b L:Nat)(v:Value)(m:Nat->Bool)(w:World)(hL:L<=8000)(h:BA w p v L m)(hb:Lib.IsBuffer 121 5 b b [] w)(ho:∀r,Own p v r->r<b):
  Calls Tryz.prog 109 #[.pointer (some ⟨p,0,none⟩),.iface 124 (.pointer (some ⟨b,0,none⟩))] w (WtP w b L m):=by
 obtain ⟨h0,hl,hm,A,s,c,h1,hc,hA,hw⟩:=h.view2
 have hlt:=hb.lt
 have hp:p<b:=ho p (.inl rfl)
 obtain ⟨n,hn⟩:∃n,n=nw L:=⟨_,rfl⟩
 have hnb:n<128:=by rw [hn];unfold nw;omega
 rw [<- hn]at h1 hc hA hw
 have hs:0<n->s<b:=fun h2=>by
  have hL0:0<L:=by rw [hn]at h2;unfold nw at h2;omega
  obtain ⟨s2,c2,g2,rfl,_⟩:=h.openAt hL0
  have h5:=hA h2
  have h6:=hp_cell h.2.blk 1 rfl
  rw [h6]at h1
  have:s2=s:=by
   rw [h5]at h1
   simp at h1
   exact h1.1
  subst this
  exact ho s2 (.inr rfl)
 have i1:(0:Int)<=(n:Int)/\(n:Int)<=c:=by omega
 have HB:=Lib.hid hb;have HA:=Lib.hid hA;have HW:=Lib.hid hw;have HN:=Lib.hid hn;have HS:=Lib.hid hs;have H0:=Lib.hid h0;have H1:=Lib.hid h1
 clear hb hA hw hn hs h
 go_enter Tryz.func109,Tryz.ntmps109
 go_wp2
 have hr1:(w.alloc (.cells #[.int .u8 0,.int .u8 0,.int .u8 0,.int .u8 0,.int .u8 0,.int .u8 0,.int .u8 0,.int .u8 0] 141)).rowIs w.heap.size 141 8 (fun _=> .int .u8 0):=
  ⟨_,hp_new w _,rfl,fun i hi=>by rcases(by omega:i=0\/i=1\/i=2\/i=3\/i=4\/i=5\/i=6\/i=7) with rfl|rfl|rfl|rfl|rfl|rfl|rfl|rfl <;> rfl⟩
 have hf1:Fr (fun _=>False) w (w.alloc (.cells #[.int .u8 0,.int .u8 0,.int .u8 0,.int .u8 0,.int .u8 0,.int .u8 0,.int .u8 0,.int .u8 0] 141)):=(Fr.refl _ w).alloc _
 have HR1:=Lib.hid hr1;have HF1:=Lib.hid hf1
 clear hr1 hf1 h0 h1
 obtain ⟨g,hg⟩:∃g,g=w.heap.size:=⟨_,rfl⟩
 rw [<- hg]at HR1 ⊢
 have HG:=Lib.hid hg;clear hg
 generalize w.alloc (.cells #[.int .u8 0,.int .u8 0,.int .u8 0,.int .u8 0,.int .u8 0,.int .u8 0,.int .u8 0,.int .u8 0] 141)=w1 at*
 refine wp_region_quiet_tail 3 (by kernel_rfl) (by kernel_rfl) ?_
 simp only [List.take_succ_cons,List.take_zero,List.drop_succ_cons,List.drop_zero]
 repeat (go_big_quiet_step (fail))
 refine wpQuiet_nil ?_
 intro _ ⟨nq,hw'⟩
 subst hw'
 have ce:∀j,j<8->(w1.drewN nq).cell? ⟨g,0+j,none⟩=some (.int .u8 0):=fun j hj=>by rw [Nat.zero_add];exact HR1.out.cell hj
 have cf:∀j,(w1.drewN nq).frozen? ⟨g,j,none⟩=false:=fun j=>HR1.out.frozen j
 have CP:=Tryz.binary_BE_PutUint64 g 0 8 8 L (by omega) _ _ _ _ _ _ _ _ (w1.drewN nq) (by omega) (ce 0 (by omega)) (ce 1 (by omega)) (ce 2 (by omega)) (ce 3 (by omega)) (ce 4 (by omega)) (ce 5 (by omega)) (ce 6 (by omega)) (ce 7 (by omega)) (cf _) (cf _) (cf _) (cf _) (cf _) (cf _) (cf _) (cf _)
 have HCP:=Lib.hid CP;clear CP ce cf
 go_wp2_with (go_at_call 131;refine HCP.out.mono ?_;rintro e w2 ⟨rfl,hw2⟩;have HW2:=Lib.hid hw2;clear hw2;refine Hid.out ?_)
 refine Lib.hid ?_
 have hw2:=HW2.out
 have hr2:w2.rowIs g 141 8 (fun j=>if 0<=j/\j<0+(Lib.byteCells (Lib.beBytes 8 L)).length then (Lib.byteCells (Lib.beBytes 8 L))[j-0]?.getD default else .int .u8 0):=by
  rw [hw2]
  exact Go.rowIs_setCells _ 0 _ _ ((rowIs_drewN HR1.out nq).alloc _)
 have hf2:Fr (fun _=>False) w w2:=by
  rw [hw2]
  exact Fr.setCells (.inr (by rw [HG.out];exact Nat.le_refl _)) _ _ _ ((HF1.out.drewN nq).alloc _)
 have HR2:=Lib.hid hr2;have HF2:=Lib.hid hf2
 clear hr2 hf2 hw2
 go_wp2
 have CW:∀w',Fr (fun _=>False) w2 w'->Calls Tryz.prog 116 #[.pointer (some ⟨b,0,none⟩),.slice (some ⟨g,0,none⟩) 8 8] w' (fun e w3=>e= .returned (.tuple #[.int .i64 8,.nilIface])/\Lib.IsBuffer 121 5 b b (Lib.byteCells (Lib.beBytes 8 L)) w3/\Fr (fun r=>b<=r) w w3):=fun w' hfw=>by
  have C:=Tryz.Buffer_Write_any b b [] (Lib.byteCells (Lib.beBytes 8 L)) ⟨g,0,none⟩ 8 8 w' (bufKeep HB.out (HF2.out.trans hfw)) (by have:=(HF2.out.trans hfw).size;omega) (by simp) (by rw [Lib.byteCells_length,Lib.beBytes_length]) (by have:=HG.out;simp;omega) (fun j y hj=>by
   have h9:=(List.getElem?_eq_some_iff.1 hj).1
   rw [Lib.byteCells_length,Lib.beBytes_length]at h9
   rw [add_at,Nat.zero_add]
   have h10:=(HR2.out.cell (i:=j) h9)
   rw [if_pos (by rw [Lib.byteCells_length,Lib.beBytes_length];omega),Nat.sub_zero,hj]at h10
   exact (hfw.cell (block_lt_of_cell h10) (fun h=>h)).trans h10) (byteCells_one _) (by rw [List.length_nil];omega)
  rw [List.nil_append]at C
  exact C.mono fun e w3 h=>⟨h.1,h.2.1,((HF2.out.trans hfw).mono (fun r (h:False)=>h.elim)).trans (Fr.ofB h.2.2.1)⟩
 have HCW:=Lib.hid CW;clear CW
 go_region_held3 (fun w'=>True) (trivial) (first
  |(go_at_call 116;refine (HCW.out _ (by repeat (first|exact Fr.refl _ _|apply Fr.drew|apply Fr.drewN|apply Fr.alloc))).mono ?_;rintro e w3 ⟨rfl,hb3,hf3⟩;have HF3:=Lib.hid hf3;have HB3:=Lib.hid hb3;clear hb3 hf3)
  |fail)
 have h0:=(HF3.out.cell (a:=⟨p,0,none⟩) (by show p<_;omega) (by show ¬b<=p;omega)).trans H0.out
 have h1:=(HF3.out.cell (a:=⟨p,1,none⟩) (by show p<_;omega) (by show ¬b<=p;omega)).trans H1.out
 have hwc:∀k,Calls Tryz.prog 101 #[.pointer (some ⟨p,0,none⟩)] (w3.drewN k) fun e w'=>e= .returned (.int .i64 (n:Int))/\w'=w3.drewN k:=fun k=>by
  have:=wordCount_c p L (w3.drewN k) (by omega) h0
  rw [show (L+63)/64=n from HN.out.symm]at this
  exact this
 have HWC:=Lib.hid hwc;clear hwc
 go_wp2
 refine wp_region_quiet_tail 8 (by kernel_rfl) (by kernel_rfl) ?_
 simp only [List.take_succ_cons,List.take_zero,List.drop_succ_cons,List.drop_zero]
 repeat (go_big_quiet_step ((go_at_call 101;exact Calls.quiet_of_same (HWC.out _))))
 refine wpQuiet_nil ?_
 intro _ ⟨nq3,hw'⟩
 subst hw'
 have CU:=wU_c b s n c A (pk m) _ (w3.drewN nq3) hnb hc HA.out (fun i hi=>(HF3.out.cell (a:=⟨s,i,none⟩) (by show s<_;have:=HS.out (by omega);omega) (by show ¬b<=s;have:=HS.out (by omega);omega)).trans (HW.out i hi)) HB3.out (byteCells_one _) (by rw [Lib.byteCells_length,Lib.beBytes_length];omega)
 have HCU:=Lib.hid CU;clear CU
 go_wp2_with (go_at_call 132;refine HCU.out.mono ?_;rintro e w4 ⟨rfl,hb4,hf4⟩;refine Hid.out ?_)
 refine Lib.hid ?_
 have HF4:=Lib.hid ((HF3.out.drewN nq3).trans hf4)
 have HB4:=Lib.hid hb4
 clear hb4 hf4 h0 h1
 have hbz:=bsz_c p L w4 (by omega) ((HF4.out.cell (a:=⟨p,0,none⟩) (by show p<_;omega) (by show ¬b<=p;omega)).trans H0.out)
 have HBZ:=Lib.hid hbz;clear hbz
 go_wp2_with (go_at_call 133;refine HBZ.out.mono ?_;rintro e w5 ⟨rfl,hw⟩;obtain rfl:=hw.symm)
 go_ret2
 exact ⟨⟨_,rfl⟩,by rw [setB,<- HN.out];exact HB4.out,HF4.out⟩
theorem ownsRow_lst{w:World}{B n:Nat}{v:Value}{xs:List Value}(h:w.ownsRow B 5 1 v n xs):Lst w 5 1 v n xs/\∀r,v.ownBlock=some r->B<=r:=by
 obtain ⟨hl,h⟩:=h
 rcases h with ⟨rfl,rfl⟩|⟨g,cap,cur,rfl,hb,hg,h⟩
 ·exact ⟨⟨hl,.inl ⟨rfl,rfl⟩⟩,fun r hr=>by cases hr⟩
 ·exact ⟨⟨hl,.inr ⟨g,cap,cur,rfl,Nat.zero_le _,hg,h⟩⟩,fun r hr=>by cases hr;exact hb⟩
def MarP(w:World)(L:Nat)(m:Nat->Bool)(e:Ending)(w':World):Prop:=
 ∃v,e= .returned (.tuple #[v,.nilIface])/\Lst w' 5 1 v (setB m L).length (setB m L)/\Fr (fun _=>False) w w'/\∀r,v.ownBlock=some r->w.heap.size<=r
theorem marshal_c(p L:Nat)(v:Value)(m:Nat->Bool)(w:World)(hL:L<=8000)(h:BA w p v L m):Calls Tryz.prog 78 #[.pointer (some ⟨p,0,none⟩)] w (MarP w L m):=by
 have ho:=h.2.own_lt
 have HH:=Lib.hid h;have HO:=Lib.hid ho
 clear h ho
 go_enter Tryz.func78,Tryz.ntmps78
 go_wp2_with (go_at_call 109;refine Hid.out ?_)
 refine Lib.hid ?_
 have hf1:Fr (fun _=>False) w (w.alloc (.cells #[.slice none 0 0,.int .i64 0,.int .i8 0] 121)):=(Fr.refl _ w).alloc _
 have hb1:=Lib.fresh_isBuffer 121 5 w
 have hB1:BA (w.alloc (.cells #[.slice none 0 0,.int .i64 0,.int .i8 0] 121)) p v L m:=⟨HH.out.1,HH.out.2.keep hf1 (fun _ _ h=>h)⟩
 refine (writeTo_c p w.heap.size L v m _ hL hB1 hb1 (fun r hr=>HO.out r hr)).mono ?_
 rintro e w2 ⟨⟨z,rfl⟩,hb2,hf2⟩
 have HF:=Lib.hid ((hf1.mono (fun r (h:False)=>h.elim)).trans hf2:Fr (fun r=>w.heap.size<=r) w w2)
 have HB:=Lib.hid hb2
 clear hf1 hb1 hB1 hb2 hf2
 go_wp2_with (go_at_call 112;refine (Tryz.Buffer_Bytes w.heap.size w.heap.size _ w2 HB.out).mono ?_;rintro e w3 ⟨v3,rfl,hv3,q,rfl⟩;refine Hid.out ?_)
 refine Lib.hid ?_
 have HV:=Lib.hid (ownsRow_lst hv3)
 clear hv3
 go_wp2
 go_ret2
 have hf:=HF.out
 exact ⟨v3,rfl,HV.out.1,⟨hf.os,hf.tape,hf.output,hf.size,fun r hr _=>hf.keep r hr (by omega)⟩,HV.out.2⟩
def cpyB(La Lc:Nat)(ma mc:Nat->Bool)(i:Nat):Bool:=if i<64*nw La then ma i&&below Lc i else mc i
def CopyPost(w:World)(c:Nat)(vc:Value)(La Lc:Nat)(ma mc:Nat->Bool)(e:Ending)(w':World):Prop:=
 MutA w c vc Lc (cpyB La Lc ma mc) (.int .u64 ((min La Lc:Nat):Int)) e w'
theorem cpy_word(La Lc k:Nat)(ma mc:Nat->Bool)(hmc:∀i,Lc<=i->mc i=false)(x:BitVec 64)(hx:x=if k<nw La then pk ma k else pk mc k):x&&&pk (below Lc) k=pk (cpyB La Lc ma mc) k:=by
 rw [hx]
 refine pk_ext fun j hj=>?_
 rw [BitVec.getLsbD_and,getLsbD_pk]
 unfold cpyB
 by_cases e:k<nw La
 ·rw [if_pos e,if_pos (show 64*k+j<64*nw La by omega),getLsbD_pk];simp [hj]
 ·rw [if_neg e,if_neg (show ¬64*k+j<64*nw La by omega),getLsbD_pk]
  by_cases e2:64*k+j<Lc
  ·simp [below,hj,e2]
  ·rw [hmc _ (by omega)];simp
theorem copy_x(a c La Lc:Nat)(va vc:Value)(ma mc:Nat->Bool)(w:World)(ha:BA w a va La ma)(hc:BA w c vc Lc mc)(hs:(c=a/\mc=ma)\/Sep c vc a va)(hLa:0<La)(hLc:0<Lc):
  Calls Tryz.prog 33 #[.pointer (some ⟨a,0,none⟩),.pointer (some ⟨c,0,none⟩)] w (CopyPost w c vc La Lc ma mc):=by
 obtain ⟨s,cs,g,rfl,r,hg,hm⟩:=ha.rs hLa
 obtain ⟨s2,c2,g2,rfl,r2,hg2,hm2⟩:=hc.rs hLc
 have hbs:s2≠a:=by
  rcases hs with ⟨rfl,_⟩|hs
  ·exact r2.ne
  ·intro e;subst e;exact hs s2 (.inr rfl) (.inl rfl)
 have hl:=r.hl
 have hl2:=r2.hl
 have a0:=r.h0
 have a1:=r.h1
 have c0:=r2.h0
 have c1:=r2.h1
 have hab:=hp_lt r.hb
 obtain ⟨n,hn⟩:∃n,n=nw La:=⟨_,rfl⟩
 obtain ⟨n2,hn2⟩:∃n,n=nw Lc:=⟨_,rfl⟩
 rw [<- hn]at a1
 rw [<- hn2]at c1
 have hcn:=r.hn
 have hcn2:=r2.hn
 rw [<- hn]at hcn
 rw [<- hn2]at hcn2
 have R:=Lib.hid r;have R2:=Lib.hid r2;have HG:=Lib.hid hg;have HG2:=Lib.hid hg2;have HM2:=Lib.hid hm2;have HN:=Lib.hid hn;have HN2:=Lib.hid hn2;have A0:=Lib.hid a0;have C0:=Lib.hid c0
 clear ha hc hs r r2 hg hg2 hm hm2 hn hn2
 obtain ⟨k,hk⟩:∃k,k=Nat.min n n2:=⟨_,rfl⟩
 have hk1:k<=n/\k<=n2/\(k=n\/k=n2):=by have hk':k=min n n2:=hk;omega
 go_enter Tryz.func33,Tryz.ntmps33
 go_wp2
 refine wp_region_quiet_tail 8 (by kernel_rfl) (by kernel_rfl) ?_
 simp only [List.take_succ_cons,List.take_zero,List.drop_succ_cons,List.drop_zero]
 repeat (go_big_quiet_step (fail))
 refine wpQuiet_nil ?_
 intro _ ⟨nq0,hw'⟩
 subst hw'
 obtain ⟨w2,hcp,hrow2,hfr2⟩:=copy33 (w.drewN nq0) 3 s2 0 s 0 n2 c2 n cs c2 cs k g2 g (rowIs_drewN R2.out.hs nq0) (rowIs_drewN R.out.hs nq0) hk (by omega) (by omega)
 have r3:RS w2 c s2 Lc c2 (fun i=>if i<k then g i else g2 i):=by
  refine ⟨R2.out.ne,R2.out.hn,R2.out.hc,hl2,(hfr2.keep c (hp_lt R2.out.hb) (fun e=>R2.out.ne e.symm)).trans R2.out.hb,hrow2.congr (fun i _=>?_)⟩
  by_cases e:i<k
  ·rw [if_pos ⟨by omega,by omega⟩,if_pos e];simp
  ·rw [if_neg (by omega),if_neg e]
 have q0:=(hfr2.cell (a:=⟨a,0,none⟩) hab (fun e=>hbs e.symm)).trans a0
 have q1:=r3.h0
 have R3:=Lib.hid r3;have F2:=Lib.hid hfr2
 clear r3 hfr2 hrow2 a0 a1 c0 c1 hk
 have fin:∀(wf:World) (gf:Nat->BitVec 64),RS wf c s2 Lc c2 gf->(∀j,j<nw Lc->gf j=(if j<k then g j else g2 j)&&&pk (below Lc) j)->Fr (· =s2) w wf->
   MutA w c (.slice (some ⟨s2,0,none⟩) (nw Lc) c2) Lc (cpyB La Lc ma mc) (.int .u64 ((min La Lc:Nat):Int)) (.returned (.int .u64 ((min La Lc:Nat):Int))) wf:=by
  intro wf gf rf hgf ff
  refine ⟨rfl,_,rf.ba (fun j hj=>?_) (fun i hi=>?_),⟨ff.mono (fun r hr=> .inr (by subst hr;rfl)),.inl rfl⟩⟩
  ·rw [hgf j hj]
   refine cpy_word La Lc j ma mc HM2.out _ ?_
   have hN:=HN.out;have hN2:=HN2.out
   by_cases e:j<k
   ·rw [if_pos e,if_pos (by omega),HG.out j (by omega)]
   ·rw [if_neg e,if_neg (by omega),HG2.out j hj]
  ·unfold cpyB
   split
   ·simp [below];intro _;omega
   ·exact HM2.out i hi
 have FIN:=Lib.hid fin;clear fin
 by_cases hlt:La<Lc
 ·have d1:decide (La<Lc)=true:=by simpa using hlt
  go_wp2
  go_quiet (fail)
  go_wp2_with (go_at_call 41;refine (clean_c c s2 Lc c2 _ _ (R3.out.drewN _)).mono ?_;rintro e w3 ⟨rfl,g',hr2,hg2,hfr2⟩)
  go_ret
  have:=FIN.out w3 g' hr2 hg2 (((Fr.refl _ _).drewN nq0).trans (F2.out.trans (((Fr.refl _ _).drewN nq).trans hfr2)))
  have e:min La Lc=La:=by omega
  rw [e]at this
  unfold CopyPost
  rw [e]
  exact this
 ·have d1:decide (La<Lc)=false:=by simpa using hlt
  go_wp2
  go_quiet (fail)
  go_wp2_with (go_at_call 41;refine (clean_c c s2 Lc c2 _ _ (R3.out.drewN _)).mono ?_;rintro e w3 ⟨rfl,g',hr2,hg2,hfr2⟩)
  go_ret
  have:=FIN.out w3 g' hr2 hg2 (((Fr.refl _ _).drewN nq0).trans (F2.out.trans (((Fr.refl _ _).drewN nq).trans hfr2)))
  have e:min La Lc=Lc:=by omega
  rw [e]at this
  unfold CopyPost
  rw [e]
  exact this
theorem clean_zero(b:Nat)(w:World)(h:w.cell? ⟨b,0,none⟩=some (.int .u64 ((0:Nat):Int))):
  Calls Tryz.prog 41 #[.pointer (some ⟨b,0,none⟩)] w (fun e w'=>e= .returned (.tuple #[])/\w'=w):=by
 have hd:decide ((0:Nat)%64=0)=true:=rfl
 go_enter Tryz.func41,Tryz.ntmps41
 go_wp2_with (go_at_call 98;refine (isLenExact_c _ 0 _ (by omega) h).mono ?_;rintro e w' ⟨rfl,rfl⟩)
 go_end0
 exact ⟨rfl,rfl⟩
theorem copy_z1(a c La:Nat)(oa oc:Option Addr)(na ca nc cc:Nat)(w:World)(a0:w.cell? ⟨a,0,none⟩=some (.int .u64 La))(a1:w.cell? ⟨a,1,none⟩=some (.slice oa na ca))
  (c0:w.cell? ⟨c,0,none⟩=some (.int .u64 ((0:Nat):Int))) (c1:w.cell? ⟨c,1,none⟩=some (.slice oc nc cc)) (hm:Nat.min na nc=0):
  Calls Tryz.prog 33 #[.pointer (some ⟨a,0,none⟩),.pointer (some ⟨c,0,none⟩)] w (fun e w'=>e= .returned (.int .u64 ((0:Nat):Int))/\∃n,w'=w.drewN n):=by
 have d1:decide (La<0)=false:=by simp
 have C0:=Lib.hid c0
 have hcp:=fun (w:World)=>copy33_none w 3 oc oa nc cc na ca hm
 cases oa with
 |none=>
  go_enter Tryz.func33,Tryz.ntmps33
  go_wp2
  go_quiet (fail)
  go_wp2_with (go_at_call 41;refine (clean_zero c _ (by exact C0.out)).mono ?_;rintro e w3 ⟨rfl,rfl⟩)
  go_ret
  exact ⟨rfl,_,rfl⟩
 |some sa=>
  go_enter Tryz.func33,Tryz.ntmps33
  go_wp2
  go_quiet (fail)
  go_wp2
  go_quiet (fail)
  go_wp2_with (go_at_call 41;refine (clean_zero c _ (by exact C0.out)).mono ?_;rintro e w3 ⟨rfl,rfl⟩)
  go_ret
  exact ⟨rfl,_,rfl⟩
theorem copy_z2(a c Lc s2 c2:Nat)(g:Nat->BitVec 64)(oa:Option Addr)(na ca:Nat)(w:World)(hLc:0<Lc)(a0:w.cell? ⟨a,0,none⟩=some (.int .u64 ((0:Nat):Int)))(a1:w.cell? ⟨a,1,none⟩=some (.slice oa na ca))
  (r:RS w c s2 Lc c2 g) (hm:Nat.min na (nw Lc)=0):
  Calls Tryz.prog 33 #[.pointer (some ⟨a,0,none⟩),.pointer (some ⟨c,0,none⟩)] w (fun e w'=>e= .returned (.int .u64 ((0:Nat):Int))/\∃g',RS w' c s2 Lc c2 g'/\(∀j,j<nw Lc->g' j=g j&&&pk (below Lc) j)/\Fr (· =s2) w w'):=by
 have hl:=r.hl
 have d1:decide (0<Lc)=true:=by simpa using hLc
 have c0:=r.h0
 have c1:=r.h1
 have R:=Lib.hid r
 obtain ⟨n2,hn2⟩:∃n,n=nw Lc:=⟨_,rfl⟩
 rw [<- hn2]at c1 hm
 have hcp:=fun (w:World)=>copy33_none w 3 (some ⟨s2,0,none⟩) oa n2 c2 na ca hm
 have HN:=Lib.hid hn2
 clear hn2 hLc r
 cases oa with
 |none=>
  go_enter Tryz.func33,Tryz.ntmps33
  go_wp2
  go_quiet (fail)
  go_wp2_with (go_at_call 41;refine (clean_c c s2 Lc c2 _ _ (R.out.drewN _)).mono ?_;rintro e w3 ⟨rfl,g',hr2,hg2,hfr2⟩)
  go_ret
  exact ⟨rfl,g',hr2,hg2,((Fr.refl _ _).drewN _).trans hfr2⟩
 |some sa=>
  go_enter Tryz.func33,Tryz.ntmps33
  go_wp2
  go_quiet (fail)
  go_wp2
  go_quiet (fail)
  go_wp2_with (go_at_call 41;refine (clean_c c s2 Lc c2 _ _ (R.out.drewN _)).mono ?_;rintro e w3 ⟨rfl,g',hr2,hg2,hfr2⟩)
  go_ret
  exact ⟨rfl,g',hr2,hg2,((Fr.refl _ _).drewN _).trans hfr2⟩
theorem BA.sl{w:World}{b:Nat}{v:Value}{L:Nat}{m:Nat->Bool}(h:BA w b v L m):∃a c,v= .slice a (nw L) c:=by
 rcases h.2.arr with ⟨rfl,rfl⟩|⟨s,c,rfl,_⟩
 ·exact ⟨_,_,rfl⟩
 ·exact ⟨_,_,rfl⟩
theorem copy_c(a c La Lc:Nat)(va vc:Value)(ma mc:Nat->Bool)(w:World)(ha:BA w a va La ma)(hc:BA w c vc Lc mc)(hs:(c=a/\mc=ma)\/Sep c vc a va):
  Calls Tryz.prog 33 #[.pointer (some ⟨a,0,none⟩),.pointer (some ⟨c,0,none⟩)] w (CopyPost w c vc La Lc ma mc):=by
 obtain ⟨oa,ca,ea⟩:=ha.sl
 have a0:=hp_cell ha.2.blk 0 (v:= .int .u64 La) rfl
 have a1:=hp_cell ha.2.blk 1 (v:=va) rfl
 have c0:=hp_cell hc.2.blk 0 (v:= .int .u64 Lc) rfl
 have c1:=hp_cell hc.2.blk 1 (v:=vc) rfl
 rw [ea]at a1
 rcases Nat.eq_zero_or_pos Lc with rfl|hLc
 ·obtain ⟨oc,cc,ec⟩:=hc.sl
  rw [ec]at c1
  refine (copy_z1 a c La oa oc _ ca _ cc w a0 a1 c0 c1 (by show min (nw La) 0=0;omega)).mono ?_
  rintro e w' ⟨rfl,n,rfl⟩
  refine ⟨by simp,vc,(BA.drewN ⟨fun i hi=>?_,hc.2.congr (fun i hi=>by simp [nw]at hi)⟩ n),⟨(Fr.refl _ _).drewN n,.inl rfl⟩⟩
  unfold cpyB
  split
  ·simp [below]
  ·exact hc.1 i hi
 ·rcases Nat.eq_zero_or_pos La with rfl|hLa
  ·obtain ⟨s2,c2,g,rfl,r,hg,hm⟩:=hc.rs hLc
   refine (copy_z2 a c Lc s2 c2 g oa _ ca w hLc a0 a1 r (by show min 0 _=0;omega)).mono ?_
   rintro e w' ⟨rfl,g',hr,hg',hf⟩
   refine ⟨by simp,_,hr.ba (fun j hj=>?_) (fun i hi=>?_),⟨hf.mono (fun r hr=> .inr (by subst hr;rfl)),.inl rfl⟩⟩
   ·rw [hg' j hj]
    refine cpy_word 0 Lc j ma mc hm _ ?_
    rw [if_neg (by simp [nw]),hg j hj]
   ·unfold cpyB
    split
    ·simp [below];intro _;omega
    ·exact hm i hi
  ·exact copy_x a c La Lc va vc ma mc w ha hc hs hLa hLc
theorem inter_le(x y Lx Ly:Nat)(vx vy:Value)(mx my:Nat->Bool)(w:World)(hle:Lx<=Ly)(hx:BA w x vx Lx mx)(hy:BA w y vy Ly my):
  Calls Tryz.prog 61 #[.pointer (some ⟨x,0,none⟩),.pointer (some ⟨y,0,none⟩)] w (MadeA w Lx (fun i=>mx i&&my i)):=by
 have hlx:=hx.2.lim
 have hly:=hy.2.lim
 have x0:=hp_cell hx.2.blk 0 (v:= .int .u64 Lx) rfl
 have x1:=hp_cell hx.2.blk 1 (v:=vx) rfl
 have y0:=hp_cell hy.2.blk 0 (v:= .int .u64 Ly) rfl
 have y1:=hp_cell hy.2.blk 1 (v:=vy) rfl
 have xb:=hp_lt hx.2.blk
 have yb:=hp_lt hy.2.blk
 have mxo:=hx.1
 have myo:=hy.1
 have hsort:=fun w=>sort_le x y Lx Ly w hle
 have HSO:=Lib.hid hsort;have X0:=Lib.hid x0;have Y0:=Lib.hid y0
 have MX:=Lib.hid mxo;have MY:=Lib.hid myo
 clear hsort mxo myo
 by_cases hz:Lx=0
 ·subst hz
  obtain ⟨a2,c2,rfl⟩:=hx.zeroLen
  have HY:=Lib.hid hy;clear hx hy
  go_enter Tryz.func61,Tryz.ntmps61
  go_wp2_with (first|(go_at_call 103;refine (panicIfNull_c _ _).mono ?_;rintro e w' ⟨rfl,rfl⟩)|(go_at_call 105;refine (HSO.out _ X0.out Y0.out).mono ?_;rintro e w' ⟨rfl,nq,rfl⟩)|(go_at_call 71;refine (new_c 0 _ (by omega)).mono ?_;rintro e w1 ⟨b1,s1,c1,g1,rfl,r1,hg1,hfr,hb1,hs1⟩;refine Hid.out ?_))
  refine Lib.hid ?_
  have q1:=(hfr.cell (a:=⟨x,1,none⟩) xb (fun h=>h)).trans x1
  have HR:=Lib.hid r1;have HF:=Lib.hid hfr;have HG1:=Lib.hid hg1
  clear r1 hg1 hfr x0 x1 y0 y1
  go_wp2
  refine wp_loop_once ?_
  go_wp2
  go_ret
  refine MadeR.ma ⟨b1,s1,c1,g1,rfl,HR.out,fun i hi=>?_,((Fr.refl _ _).drewN nq).trans HF.out,hb1,hs1⟩ (fun i hi=>?_)
  ·simp [nw]at hi
  ·rw [MX.out i (by omega)];simp
 ·obtain ⟨s,c,g,rfl,r,hg,_⟩:=hx.rs (by omega)
  obtain ⟨s2,c2,g2,rfl,r2,hg2,_⟩:=hy.rs (by omega)
  obtain ⟨n,hnL⟩:∃n,n=nw Lx:=⟨_,rfl⟩
  obtain ⟨n2,hnL2⟩:∃n,n=nw Ly:=⟨_,rfl⟩
  have hnn:n<=n2:=by subst hnL hnL2;unfold nw;omega
  have hnb:n2<=1000:=by subst hnL2;unfold nw;omega
  rw [<- hnL]at x1
  rw [<- hnL2]at y1
  have HX:=Lib.hid hx;have HY:=Lib.hid hy;have RX:=Lib.hid r;have RY:=Lib.hid r2;have GX:=Lib.hid hg;have GY:=Lib.hid hg2
  have HN:=Lib.hid hnL;have HN2:=Lib.hid hnL2
  clear hx hy r r2 hg hg2 hnL hnL2
  go_enter Tryz.func61,Tryz.ntmps61
  go_wp2_with (first|(go_at_call 103;refine (panicIfNull_c _ _).mono ?_;rintro e w' ⟨rfl,rfl⟩)|(go_at_call 105;refine (HSO.out _ X0.out Y0.out).mono ?_;rintro e w' ⟨rfl,nq,rfl⟩)|(go_at_call 71;refine (new_c Lx _ hlx).mono ?_;rintro e w1 ⟨b1,s1,c1,g1,rfl,r1,hg1,hfr,hb1,hs1⟩;refine Hid.out ?_))
  refine Lib.hid ?_
  have q1:=(hfr.cell (a:=⟨x,1,none⟩) xb (fun h=>h)).trans x1
  have q2:=(hfr.cell (a:=⟨y,1,none⟩) yb (fun h=>h)).trans y1
  have rx:=(RX.out.drewN nq).keep hfr (fun h=>h) (fun h=>h)
  have ry:=(RY.out.drewN nq).keep hfr (fun h=>h) (fun h=>h)
  have RX1:=Lib.hid rx;have RY1:=Lib.hid ry
  have HR:=Lib.hid r1;have HF:=Lib.hid hfr;have HG1:=Lib.hid hg1
  have xs:=RX.out.hs.lt
  have ys:=RY.out.hs.lt
  have hrb:=hp_lt r1.hb
  clear r1 hg1 hfr x0 x1 y0 y1 rx ry
  go_wp2
  go_loopw [27] (fun i wr=>∃k:Nat,k<=n/\i= .int .i64 (k:Int)/\RS wr b1 s1 Lx c1 (fun j=>if j<k then g j&&&g2 j else g1 j)/\∃nd,Fr (· =s1) (w1.drewN nd) wr) (fun i _=>n-(intOf i).toNat)
  case atStart=>exact ⟨0,by omega,rfl,HR.out.congr (fun j _=>by simp),0,Fr.refl _ _⟩
  case round=>
   obtain ⟨k,hk,rfl,hr,nd,hfr⟩:=hrel
   have HFr:=Lib.hid hfr
   have HRr:=Lib.hid hr
   have z1:=hr.h1
   have q3:=(hfr.cell (a:=⟨y,1,none⟩) (Nat.lt_of_lt_of_le yb HF.out.size) (by show ¬y=s1;intro e;subst e;exact absurd yb (Nat.not_lt.2 hs1))).trans q2
   by_cases hlt:k<n
   ·have hkr:k<nw Lx:=by have:=HN.out;have:=HN2.out;omega
    have c0:=hr.at hkr
    have f0:=hr.fr k
    have cx:=(hfr.cell (a:=⟨s,k,none⟩) RX1.out.hs.lt (by show ¬s=s1;intro e;subst e;exact absurd xs (Nat.not_lt.2 hs1))).trans ((RX1.out.drewN nd).at (i:=k) (by rw [<- HN.out];exact hlt))
    have cy:=(hfr.cell (a:=⟨s2,k,none⟩) RY1.out.hs.lt (by show ¬s2=s1;intro e;subst e;exact absurd ys (Nat.not_lt.2 hs1))).trans ((RY1.out.drewN nd).at (i:=k) (by rw [<- HN2.out];omega))
    obtain ⟨nr,hnr⟩:∃nr,nr=nw Lx:=⟨_,rfl⟩
    rw [<- hnr]at z1 hkr
    have k2:k<n2:=by omega
    clear hr hfr hnr
    go_wp2
    refine wp_region_quiet_tail 14 (by kernel_rfl) (by kernel_rfl) ?_
    simp only [List.take_succ_cons,List.take_zero,List.drop_succ_cons,List.drop_zero]
    repeat (go_big_quiet_step (fail))
    refine wpQuiet_nil ?_
    intro _ ⟨nq2,hw'⟩
    subst hw'
    go_wp2
    go_roundw
    case rel=>
     refine ⟨k+1,by omega,by go_num,?_,nd,(HFr.out.drewN nq2).setCell (.inl rfl) _⟩
     rw [wn_and]
     refine ((HRr.out.drewN nq2).set k _).congr (fun j _=>?_)
     by_cases e:j=k
     ·rw [if_pos e,if_pos (show j<k+1 by omega),e]
     ·rw [if_neg e]
      by_cases e2:j<k
      ·rw [if_pos e2,if_pos (show j<k+1 by omega)]
      ·rw [if_neg e2,if_neg (show ¬j<k+1 by omega)]
    case measure=>simp [intOf];omega
   ·have hkn:k=n:=by omega
    subst hkn
    clear hr hfr
    go_wp2
    go_ret
    refine MadeR.ma ⟨b1,s1,c1,_,rfl,HRr.out,fun i hi=>?_,(((Fr.refl _ _).drewN nq).trans HF.out).trans' (((Fr.refl (· =s1) _).drewN nd).trans HFr.out) (fun r hr=> .inr (by subst hr;exact hs1)),hb1,hs1⟩ (fun i hi=>?_)
    ·by_cases e:i<k
     ·rw [if_pos e,GX.out i (by rw [<- HN.out];exact e),GY.out i (by rw [<- HN2.out];omega),pk_and]
     ·exact absurd (by rw [HN.out];exact hi) e
    ·rw [MX.out i (by omega)];simp
theorem inter_gt(x y Lx Ly:Nat)(vx vy:Value)(mx my:Nat->Bool)(w:World)(hle:Lx<Ly)(hx:BA w x vx Lx mx)(hy:BA w y vy Ly my):
  Calls Tryz.prog 61 #[.pointer (some ⟨y,0,none⟩),.pointer (some ⟨x,0,none⟩)] w (MadeA w Lx (fun i=>my i&&mx i)):=by
 have hlx:=hx.2.lim
 have hly:=hy.2.lim
 have x0:=hp_cell hx.2.blk 0 (v:= .int .u64 Lx) rfl
 have x1:=hp_cell hx.2.blk 1 (v:=vx) rfl
 have y0:=hp_cell hy.2.blk 0 (v:= .int .u64 Ly) rfl
 have y1:=hp_cell hy.2.blk 1 (v:=vy) rfl
 have xb:=hp_lt hx.2.blk
 have yb:=hp_lt hy.2.blk
 have mxo:=hx.1
 have myo:=hy.1
 have hsort:=fun w=>sort_gt y x Ly Lx w hle
 have HSO:=Lib.hid hsort;have X0:=Lib.hid x0;have Y0:=Lib.hid y0
 have MX:=Lib.hid mxo;have MY:=Lib.hid myo
 clear hsort mxo myo
 by_cases hz:Lx=0
 ·subst hz
  obtain ⟨a2,c2,rfl⟩:=hx.zeroLen
  have HY:=Lib.hid hy;clear hx hy
  go_enter Tryz.func61,Tryz.ntmps61
  go_wp2_with (first|(go_at_call 103;refine (panicIfNull_c _ _).mono ?_;rintro e w' ⟨rfl,rfl⟩)|(go_at_call 105;refine (HSO.out _ Y0.out X0.out).mono ?_;rintro e w' ⟨rfl,nq,rfl⟩)|(go_at_call 71;refine (new_c 0 _ (by omega)).mono ?_;rintro e w1 ⟨b1,s1,c1,g1,rfl,r1,hg1,hfr,hb1,hs1⟩;refine Hid.out ?_))
  refine Lib.hid ?_
  have q1:=(hfr.cell (a:=⟨x,1,none⟩) xb (fun h=>h)).trans x1
  have HR:=Lib.hid r1;have HF:=Lib.hid hfr;have HG1:=Lib.hid hg1
  clear r1 hg1 hfr x0 x1 y0 y1
  go_wp2
  refine wp_loop_once ?_
  go_wp2
  go_ret
  refine MadeR.ma ⟨b1,s1,c1,g1,rfl,HR.out,fun i hi=>?_,((Fr.refl _ _).drewN nq).trans HF.out,hb1,hs1⟩ (fun i hi=>?_)
  ·simp [nw]at hi
  ·rw [MX.out i (by omega)];simp
 ·obtain ⟨s,c,g,rfl,r,hg,_⟩:=hx.rs (by omega)
  obtain ⟨s2,c2,g2,rfl,r2,hg2,_⟩:=hy.rs (by omega)
  obtain ⟨n,hnL⟩:∃n,n=nw Lx:=⟨_,rfl⟩
  obtain ⟨n2,hnL2⟩:∃n,n=nw Ly:=⟨_,rfl⟩
  have hnn:n<=n2:=by subst hnL hnL2;unfold nw;omega
  have hnb:n2<=1000:=by subst hnL2;unfold nw;omega
  rw [<- hnL]at x1
  rw [<- hnL2]at y1
  have HX:=Lib.hid hx;have HY:=Lib.hid hy;have RX:=Lib.hid r;have RY:=Lib.hid r2;have GX:=Lib.hid hg;have GY:=Lib.hid hg2
  have HN:=Lib.hid hnL;have HN2:=Lib.hid hnL2
  clear hx hy r r2 hg hg2 hnL hnL2
  go_enter Tryz.func61,Tryz.ntmps61
  go_wp2_with (first|(go_at_call 103;refine (panicIfNull_c _ _).mono ?_;rintro e w' ⟨rfl,rfl⟩)|(go_at_call 105;refine (HSO.out _ Y0.out X0.out).mono ?_;rintro e w' ⟨rfl,nq,rfl⟩)|(go_at_call 71;refine (new_c Lx _ hlx).mono ?_;rintro e w1 ⟨b1,s1,c1,g1,rfl,r1,hg1,hfr,hb1,hs1⟩;refine Hid.out ?_))
  refine Lib.hid ?_
  have q1:=(hfr.cell (a:=⟨x,1,none⟩) xb (fun h=>h)).trans x1
  have q2:=(hfr.cell (a:=⟨y,1,none⟩) yb (fun h=>h)).trans y1
  have rx:=(RX.out.drewN nq).keep hfr (fun h=>h) (fun h=>h)
  have ry:=(RY.out.drewN nq).keep hfr (fun h=>h) (fun h=>h)
  have RX1:=Lib.hid rx;have RY1:=Lib.hid ry
  have HR:=Lib.hid r1;have HF:=Lib.hid hfr;have HG1:=Lib.hid hg1
  have xs:=RX.out.hs.lt
  have ys:=RY.out.hs.lt
  have hrb:=hp_lt r1.hb
  clear r1 hg1 hfr x0 x1 y0 y1 rx ry
  go_wp2
  go_loopw [27] (fun i wr=>∃k:Nat,k<=n/\i= .int .i64 (k:Int)/\RS wr b1 s1 Lx c1 (fun j=>if j<k then g j&&&g2 j else g1 j)/\∃nd,Fr (· =s1) (w1.drewN nd) wr) (fun i _=>n-(intOf i).toNat)
  case atStart=>exact ⟨0,by omega,rfl,HR.out.congr (fun j _=>by simp),0,Fr.refl _ _⟩
  case round=>
   obtain ⟨k,hk,rfl,hr,nd,hfr⟩:=hrel
   have HFr:=Lib.hid hfr
   have HRr:=Lib.hid hr
   have z1:=hr.h1
   have q3:=(hfr.cell (a:=⟨y,1,none⟩) (Nat.lt_of_lt_of_le yb HF.out.size) (by show ¬y=s1;intro e;subst e;exact absurd yb (Nat.not_lt.2 hs1))).trans q2
   by_cases hlt:k<n
   ·have hkr:k<nw Lx:=by have:=HN.out;have:=HN2.out;omega
    have c0:=hr.at hkr
    have f0:=hr.fr k
    have cx:=(hfr.cell (a:=⟨s,k,none⟩) RX1.out.hs.lt (by show ¬s=s1;intro e;subst e;exact absurd xs (Nat.not_lt.2 hs1))).trans ((RX1.out.drewN nd).at (i:=k) (by rw [<- HN.out];exact hlt))
    have cy:=(hfr.cell (a:=⟨s2,k,none⟩) RY1.out.hs.lt (by show ¬s2=s1;intro e;subst e;exact absurd ys (Nat.not_lt.2 hs1))).trans ((RY1.out.drewN nd).at (i:=k) (by rw [<- HN2.out];omega))
    obtain ⟨nr,hnr⟩:∃nr,nr=nw Lx:=⟨_,rfl⟩
    rw [<- hnr]at z1 hkr
    have k2:k<n2:=by omega
    clear hr hfr hnr
    go_wp2
    refine wp_region_quiet_tail 14 (by kernel_rfl) (by kernel_rfl) ?_
    simp only [List.take_succ_cons,List.take_zero,List.drop_succ_cons,List.drop_zero]
    repeat (go_big_quiet_step (fail))
    refine wpQuiet_nil ?_
    intro _ ⟨nq2,hw'⟩
    subst hw'
    go_wp2
    go_roundw
    case rel=>
     refine ⟨k+1,by omega,by go_num,?_,nd,(HFr.out.drewN nq2).setCell (.inl rfl) _⟩
     rw [wn_and]
     refine ((HRr.out.drewN nq2).set k _).congr (fun j _=>?_)
     by_cases e:j=k
     ·rw [if_pos e,if_pos (show j<k+1 by omega),e]
     ·rw [if_neg e]
      by_cases e2:j<k
      ·rw [if_pos e2,if_pos (show j<k+1 by omega)]
      ·rw [if_neg e2,if_neg (show ¬j<k+1 by omega)]
    case measure=>simp [intOf];omega
   ·have hkn:k=n:=by omega
    subst hkn
    clear hr hfr
    go_wp2
    go_ret
    refine MadeR.ma ⟨b1,s1,c1,_,rfl,HRr.out,fun i hi=>?_,(((Fr.refl _ _).drewN nq).trans HF.out).trans' (((Fr.refl (· =s1) _).drewN nd).trans HFr.out) (fun r hr=> .inr (by subst hr;exact hs1)),hb1,hs1⟩ (fun i hi=>?_)
    ·by_cases e:i<k
     ·rw [if_pos e,GX.out i (by rw [<- HN.out];exact e),GY.out i (by rw [<- HN2.out];omega),pk_and]
      congr 1;funext i;exact Bool.and_comm _ _
     ·exact absurd (by rw [HN.out];exact hi) e
    ·rw [MX.out i (by omega)];simp
theorem inter_c(b b2 L L2:Nat)(v v2:Value)(m m2:Nat->Bool)(w:World)(h:BA w b v L m)(k:BA w b2 v2 L2 m2):
  Calls Tryz.prog 61 #[.pointer (some ⟨b,0,none⟩),.pointer (some ⟨b2,0,none⟩)] w (MadeA w (min L L2) (fun i=>m i&&m2 i)):=by
 by_cases e:L<=L2
 ·rw [Nat.min_eq_left e];exact inter_le b b2 L L2 v v2 m m2 w e h k
 ·rw [Nat.min_eq_right (by omega)];exact inter_gt b2 b L2 L v2 v m2 m w (by omega) k h
theorem mdif_le(b b2 L L2:Nat)(v v2:Value)(m m2:Nat->Bool)(w:World)(hL:0<L)(hL2:0<L2)(hcs:nw L2<=nw L)(h:BA w b v L m)(k2:BA w b2 v2 L2 m2):
  Calls Tryz.prog 62 #[.pointer (some ⟨b,0,none⟩),.pointer (some ⟨b2,0,none⟩)] w (MadeA w L (fun i=>m i&& !m2 i)):=by
 have hl:=h.2.lim
 have hl2:=k2.2.lim
 have xb:=hp_lt h.2.blk
 have yb:=hp_lt k2.2.blk
 have HH:=Lib.hid h
 obtain ⟨s,c,g,rfl,r,hg,hm⟩:=h.rs hL
 obtain ⟨s2,c2,g2,rfl,r2,hg2,hm2⟩:=k2.rs hL2
 have a0:=r.h0
 have a1:=r.h1
 have b0:=r2.h0
 have b1':=r2.h1
 have xs:=r.hs.lt
 have ys:=r2.hs.lt
 obtain ⟨n,hn⟩:∃n,n=nw L:=⟨_,rfl⟩
 obtain ⟨n2,hn2⟩:∃n,n=nw L2:=⟨_,rfl⟩
 have hnb:n<=1000:=by subst hn;unfold nw;omega
 have hn2b:n2<=1000:=by subst hn2;unfold nw;omega
 have hw1:∀w:World,w.cell? ⟨b,0,none⟩=some (.int .u64 (L:Int))->Calls Tryz.prog 101 #[.pointer (some ⟨b,0,none⟩)] w fun e w'=>e= .returned (.int .i64 (n:Int))/\w'=w:=fun w h=>by rw [hn];exact wordCount_c b L w (by omega) h
 have hw2:∀w:World,w.cell? ⟨b2,0,none⟩=some (.int .u64 (L2:Int))->Calls Tryz.prog 101 #[.pointer (some ⟨b2,0,none⟩)] w fun e w'=>e= .returned (.int .i64 (n2:Int))/\w'=w:=fun w h=>by rw [hn2];exact wordCount_c b2 L2 w (by omega) h
 have HW1:=Lib.hid hw1;have HW2:=Lib.hid hw2
 rw [<- hn,<- hn2]at hcs
 rw [<- hn]at a1
 rw [<- hn2]at b1'
 have HN:=Lib.hid hn;have HN2:=Lib.hid hn2
 have R:=Lib.hid r;have R2:=Lib.hid r2;have HG:=Lib.hid hg;have HG2:=Lib.hid hg2;have HM:=Lib.hid hm;have HM2:=Lib.hid hm2
 clear hw1 hw2 r r2 hg hg2 hm hm2 hn hn2 h k2
 have hln:n2<=n/\n2<=n2:=by omega
 have d1:decide (n<n2)=false:=by simp;omega
 go_enter Tryz.func62,Tryz.ntmps62
 go_wp2_with (first|(go_at_call 103;refine (panicIfNull_c _ _).mono ?_;rintro e w' ⟨rfl,rfl⟩)|(go_at_call 65;refine (clone_r b L _ m _ HH.out).mono ?_;rintro e w1 ⟨b1,s1,c1,g1,rfl,r1,hg1,hfr,hb1,hs1⟩;refine Hid.out ?_))
 refine Lib.hid ?_
 have q0:=(hfr.cell (a:=⟨b,0,none⟩) xb (fun h=>h)).trans a0
 have q1:=(hfr.cell (a:=⟨b,1,none⟩) xb (fun h=>h)).trans a1
 have p0:=(hfr.cell (a:=⟨b2,0,none⟩) yb (fun h=>h)).trans b0
 have p1:=(hfr.cell (a:=⟨b2,1,none⟩) yb (fun h=>h)).trans b1'
 have rx:=R.out.keep hfr (fun h=>h) (fun h=>h)
 have ry:=R2.out.keep hfr (fun h=>h) (fun h=>h)
 have RX1:=Lib.hid rx;have RY1:=Lib.hid ry
 have HR:=Lib.hid r1;have HF:=Lib.hid hfr;have HG1:=Lib.hid hg1
 have Q0:=Lib.hid q0;have P0:=Lib.hid p0
 clear r1 hg1 hfr a0 a1 b0 b1' rx ry
 go_wp2_with (fail)
 refine (HW2.out _ P0.out).mono ?_
 rintro e w' ⟨rfl,rfl⟩
 go_wp2_with (fail)
 refine (HW1.out _ Q0.out).mono ?_
 rintro e w' ⟨rfl,rfl⟩
 go_wp2
 go_loopw [6] (fun i wr=>∃k:Nat,k<=n2/\i= .int .i64 (k:Int)/\RS wr b1 s1 L c1 (fun j=>if j<k then g j&&& ~~~ g2 j else g1 j)/\∃nd,Fr (· =s1) (w'.drewN nd) wr) (fun i _=>n2-(intOf i).toNat)
 case atStart=>exact ⟨0,by omega,rfl,HR.out.congr (fun j _=>by simp),0,Fr.refl _ _⟩
 case round=>
  obtain ⟨k,hk,rfl,hr,nd,hfr⟩:=hrel
  have HFr:=Lib.hid hfr
  have HRr:=Lib.hid hr
  have z1:=hr.h1
  rw [<- HN.out]at z1
  have q3:=(hfr.cell (a:=⟨b,1,none⟩) (Nat.lt_of_lt_of_le xb HF.out.size) (by show ¬b=s1;intro e;subst e;exact absurd xb (Nat.not_lt.2 hs1))).trans q1
  have p3:=(hfr.cell (a:=⟨b2,1,none⟩) (Nat.lt_of_lt_of_le yb HF.out.size) (by show ¬b2=s1;intro e;subst e;exact absurd yb (Nat.not_lt.2 hs1))).trans p1
  by_cases hlt:k<n2
  ·have c0:=hr.at (i:=k) (by rw [<- HN.out];omega)
   have f0:=hr.fr k
   have cx:=(hfr.cell (a:=⟨s,k,none⟩) RX1.out.hs.lt (by show ¬s=s1;intro e;subst e;exact absurd xs (Nat.not_lt.2 hs1))).trans ((RX1.out.drewN nd).at (i:=k) (by rw [<- HN.out];omega))
   have cy:=(hfr.cell (a:=⟨s2,k,none⟩) RY1.out.hs.lt (by show ¬s2=s1;intro e;subst e;exact absurd ys (Nat.not_lt.2 hs1))).trans ((RY1.out.drewN nd).at (i:=k) (by rw [<- HN2.out];omega))
   have k1:k<n:=by omega
   have k2:k<n2:=by omega
   clear hr hfr
   go_wp2
   refine wp_region_quiet_tail 20 (by kernel_rfl) (by kernel_rfl) ?_
   simp only [List.take_succ_cons,List.take_zero,List.drop_succ_cons,List.drop_zero]
   repeat (go_big_quiet_step (fail))
   refine wpQuiet_nil ?_
   intro _ ⟨nq2,hw'⟩
   subst hw'
   go_wp2
   go_roundw
   case rel=>
    refine ⟨k+1,by omega,by go_num,?_,nd,(HFr.out.drewN nq2).setCell (.inl rfl) _⟩
    rw [wn_andNot]
    refine ((HRr.out.drewN nq2).set k _).congr (fun j _=>?_)
    by_cases e:j=k
    ·rw [if_pos e,if_pos (show j<k+1 by omega),e]
    ·rw [if_neg e]
     by_cases e2:j<k
     ·rw [if_pos e2,if_pos (show j<k+1 by omega)]
     ·rw [if_neg e2,if_neg (show ¬j<k+1 by omega)]
   case measure=>simp [intOf];omega
  ·have hkn:k=n2:=by omega
   subst hkn
   clear hr hfr
   go_wp2
   go_ret
   refine MadeR.ma ⟨b1,s1,c1,_,rfl,HRr.out,fun i hi=>?_,HF.out.trans' (((Fr.refl (· =s1) _).drewN nd).trans HFr.out) (fun r hr=> .inr (by subst hr;exact hs1)),hb1,hs1⟩ (fun i hi=>by rw [HM.out i hi];rfl)
   by_cases e:i<k
   ·rw [if_pos e,HG.out i hi,HG2.out i (by rw [<- HN2.out];omega),pk_dif]
   ·rw [if_neg e,HG1.out i hi]
    refine (pk_same fun j hj=>?_).symm
    rw [HM2.out _ (by have a:=HN.out;have c:=HN2.out;unfold nw at a c hi;omega)];simp
theorem mdif_gt(b b2 L L2:Nat)(v v2:Value)(m m2:Nat->Bool)(w:World)(hL:0<L)(hL2:0<L2)(hcs:nw L<nw L2)(h:BA w b v L m)(k2:BA w b2 v2 L2 m2):
  Calls Tryz.prog 62 #[.pointer (some ⟨b,0,none⟩),.pointer (some ⟨b2,0,none⟩)] w (MadeA w L (fun i=>m i&& !m2 i)):=by
 have hl:=h.2.lim
 have hl2:=k2.2.lim
 have xb:=hp_lt h.2.blk
 have yb:=hp_lt k2.2.blk
 have HH:=Lib.hid h
 obtain ⟨s,c,g,rfl,r,hg,hm⟩:=h.rs hL
 obtain ⟨s2,c2,g2,rfl,r2,hg2,hm2⟩:=k2.rs hL2
 have a0:=r.h0
 have a1:=r.h1
 have b0:=r2.h0
 have b1':=r2.h1
 have xs:=r.hs.lt
 have ys:=r2.hs.lt
 obtain ⟨n,hn⟩:∃n,n=nw L:=⟨_,rfl⟩
 obtain ⟨n2,hn2⟩:∃n,n=nw L2:=⟨_,rfl⟩
 have hnb:n<=1000:=by subst hn;unfold nw;omega
 have hn2b:n2<=1000:=by subst hn2;unfold nw;omega
 have hw1:∀w:World,w.cell? ⟨b,0,none⟩=some (.int .u64 (L:Int))->Calls Tryz.prog 101 #[.pointer (some ⟨b,0,none⟩)] w fun e w'=>e= .returned (.int .i64 (n:Int))/\w'=w:=fun w h=>by rw [hn];exact wordCount_c b L w (by omega) h
 have hw2:∀w:World,w.cell? ⟨b2,0,none⟩=some (.int .u64 (L2:Int))->Calls Tryz.prog 101 #[.pointer (some ⟨b2,0,none⟩)] w fun e w'=>e= .returned (.int .i64 (n2:Int))/\w'=w:=fun w h=>by rw [hn2];exact wordCount_c b2 L2 w (by omega) h
 have HW1:=Lib.hid hw1;have HW2:=Lib.hid hw2
 rw [<- hn,<- hn2]at hcs
 rw [<- hn]at a1
 rw [<- hn2]at b1'
 have HN:=Lib.hid hn;have HN2:=Lib.hid hn2
 have R:=Lib.hid r;have R2:=Lib.hid r2;have HG:=Lib.hid hg;have HG2:=Lib.hid hg2;have HM:=Lib.hid hm;have HM2:=Lib.hid hm2
 clear hw1 hw2 r r2 hg hg2 hm hm2 hn hn2 h k2
 have hln:n<=n/\n<=n2:=by omega
 have d1:decide (n<n2)=true:=by simp;omega
 go_enter Tryz.func62,Tryz.ntmps62
 go_wp2_with (first|(go_at_call 103;refine (panicIfNull_c _ _).mono ?_;rintro e w' ⟨rfl,rfl⟩)|(go_at_call 65;refine (clone_r b L _ m _ HH.out).mono ?_;rintro e w1 ⟨b1,s1,c1,g1,rfl,r1,hg1,hfr,hb1,hs1⟩;refine Hid.out ?_))
 refine Lib.hid ?_
 have q0:=(hfr.cell (a:=⟨b,0,none⟩) xb (fun h=>h)).trans a0
 have q1:=(hfr.cell (a:=⟨b,1,none⟩) xb (fun h=>h)).trans a1
 have p0:=(hfr.cell (a:=⟨b2,0,none⟩) yb (fun h=>h)).trans b0
 have p1:=(hfr.cell (a:=⟨b2,1,none⟩) yb (fun h=>h)).trans b1'
 have rx:=R.out.keep hfr (fun h=>h) (fun h=>h)
 have ry:=R2.out.keep hfr (fun h=>h) (fun h=>h)
 have RX1:=Lib.hid rx;have RY1:=Lib.hid ry
 have HR:=Lib.hid r1;have HF:=Lib.hid hfr;have HG1:=Lib.hid hg1
 have Q0:=Lib.hid q0;have P0:=Lib.hid p0
 clear r1 hg1 hfr a0 a1 b0 b1' rx ry
 go_wp2_with (fail)
 refine (HW2.out _ P0.out).mono ?_
 rintro e w' ⟨rfl,rfl⟩
 go_wp2_with (fail)
 refine (HW1.out _ Q0.out).mono ?_
 rintro e w' ⟨rfl,rfl⟩
 go_wp2_with (fail)
 refine (HW1.out _ Q0.out).mono ?_
 rintro e w' ⟨rfl,rfl⟩
 go_wp2
 go_loopw [6] (fun i wr=>∃k:Nat,k<=n/\i= .int .i64 (k:Int)/\RS wr b1 s1 L c1 (fun j=>if j<k then g j&&& ~~~ g2 j else g1 j)/\∃nd,Fr (· =s1) (w'.drewN nd) wr) (fun i _=>n-(intOf i).toNat)
 case atStart=>exact ⟨0,by omega,rfl,HR.out.congr (fun j _=>by simp),0,Fr.refl _ _⟩
 case round=>
  obtain ⟨k,hk,rfl,hr,nd,hfr⟩:=hrel
  have HFr:=Lib.hid hfr
  have HRr:=Lib.hid hr
  have z1:=hr.h1
  rw [<- HN.out]at z1
  have q3:=(hfr.cell (a:=⟨b,1,none⟩) (Nat.lt_of_lt_of_le xb HF.out.size) (by show ¬b=s1;intro e;subst e;exact absurd xb (Nat.not_lt.2 hs1))).trans q1
  have p3:=(hfr.cell (a:=⟨b2,1,none⟩) (Nat.lt_of_lt_of_le yb HF.out.size) (by show ¬b2=s1;intro e;subst e;exact absurd yb (Nat.not_lt.2 hs1))).trans p1
  by_cases hlt:k<n
  ·have c0:=hr.at (i:=k) (by rw [<- HN.out];omega)
   have f0:=hr.fr k
   have cx:=(hfr.cell (a:=⟨s,k,none⟩) RX1.out.hs.lt (by show ¬s=s1;intro e;subst e;exact absurd xs (Nat.not_lt.2 hs1))).trans ((RX1.out.drewN nd).at (i:=k) (by rw [<- HN.out];omega))
   have cy:=(hfr.cell (a:=⟨s2,k,none⟩) RY1.out.hs.lt (by show ¬s2=s1;intro e;subst e;exact absurd ys (Nat.not_lt.2 hs1))).trans ((RY1.out.drewN nd).at (i:=k) (by rw [<- HN2.out];omega))
   have k1:k<n:=by omega
   have k2:k<n2:=by omega
   clear hr hfr
   go_wp2
   refine wp_region_quiet_tail 20 (by kernel_rfl) (by kernel_rfl) ?_
   simp only [List.take_succ_cons,List.take_zero,List.drop_succ_cons,List.drop_zero]
   repeat (go_big_quiet_step (fail))
   refine wpQuiet_nil ?_
   intro _ ⟨nq2,hw'⟩
   subst hw'
   go_wp2
   go_roundw
   case rel=>
    refine ⟨k+1,by omega,by go_num,?_,nd,(HFr.out.drewN nq2).setCell (.inl rfl) _⟩
    rw [wn_andNot]
    refine ((HRr.out.drewN nq2).set k _).congr (fun j _=>?_)
    by_cases e:j=k
    ·rw [if_pos e,if_pos (show j<k+1 by omega),e]
    ·rw [if_neg e]
     by_cases e2:j<k
     ·rw [if_pos e2,if_pos (show j<k+1 by omega)]
     ·rw [if_neg e2,if_neg (show ¬j<k+1 by omega)]
   case measure=>simp [intOf];omega
  ·have hkn:k=n:=by omega
   subst hkn
   clear hr hfr
   go_wp2
   go_ret
   refine MadeR.ma ⟨b1,s1,c1,_,rfl,HRr.out,fun i hi=>?_,HF.out.trans' (((Fr.refl (· =s1) _).drewN nd).trans HFr.out) (fun r hr=> .inr (by subst hr;exact hs1)),hb1,hs1⟩ (fun i hi=>by rw [HM.out i hi];rfl)
   by_cases e:i<k
   ·rw [if_pos e,HG.out i hi,HG2.out i (by rw [<- HN2.out];omega),pk_dif]
   ·rw [if_neg e,HG1.out i hi]
    refine (pk_same fun j hj=>?_).symm
    rw [HM2.out _ (by have a:=HN.out;have c:=HN2.out;unfold nw at a c hi;omega)];simp
theorem mdif_c(b b2 L L2:Nat)(v v2:Value)(m m2:Nat->Bool)(w:World)(h:BA w b v L m)(k2:BA w b2 v2 L2 m2):
  Calls Tryz.prog 62 #[.pointer (some ⟨b,0,none⟩),.pointer (some ⟨b2,0,none⟩)] w (MadeA w L (fun i=>m i&& !m2 i)):=by
 by_cases hz:0<L/\0<L2
 ·by_cases e:nw L2<=nw L
  ·exact mdif_le b b2 L L2 v v2 m m2 w hz.1 hz.2 e h k2
  ·exact mdif_gt b b2 L L2 v v2 m m2 w hz.1 hz.2 (by omega) h k2
 ·have he:(fun i=>m i&& !m2 i)=m:=by
   funext i
   by_cases e:L=0
   ·rw [h.1 i (by omega)];rfl
   ·rw [k2.1 i (by omega)];simp
  rw [he]
  have hm:=h.1
  have hl:=h.2.lim
  have hl2:=k2.2.lim
  have xb:=hp_lt h.2.blk
  have yb:=hp_lt k2.2.blk
  have a0:=hp_cell h.2.blk 0 (v:= .int .u64 L) rfl
  have b0:=hp_cell k2.2.blk 0 (v:= .int .u64 L2) rfl
  obtain ⟨n,hn⟩:∃n,n=nw L:=⟨_,rfl⟩
  obtain ⟨n2,hn2⟩:∃n,n=nw L2:=⟨_,rfl⟩
  have hnn:n=0\/n2=0:=by subst hn hn2;unfold nw;omega
  have hnb:n<=1000:=by subst hn;unfold nw;omega
  have hn2b:n2<=1000:=by subst hn2;unfold nw;omega
  have hw1:∀w:World,w.cell? ⟨b,0,none⟩=some (.int .u64 (L:Int))->Calls Tryz.prog 101 #[.pointer (some ⟨b,0,none⟩)] w fun e w'=>e= .returned (.int .i64 (n:Int))/\w'=w:=fun w h=>by rw [hn];exact wordCount_c b L w (by omega) h
  have hw2:∀w:World,w.cell? ⟨b2,0,none⟩=some (.int .u64 (L2:Int))->Calls Tryz.prog 101 #[.pointer (some ⟨b2,0,none⟩)] w fun e w'=>e= .returned (.int .i64 (n2:Int))/\w'=w:=fun w h=>by rw [hn2];exact wordCount_c b2 L2 w (by omega) h
  have HH:=Lib.hid h;have HM:=Lib.hid hm
  have HW1:=Lib.hid hw1;have HW2:=Lib.hid hw2
  clear hw1 hw2 h k2 he hn hn2 hz hm
  by_cases e:n<n2
  ·obtain rfl:n=0:=by omega
   clear hnn
   go_enter Tryz.func62,Tryz.ntmps62
   go_wp2_with (first|(go_at_call 103;refine (panicIfNull_c _ _).mono ?_;rintro e w' ⟨rfl,rfl⟩)|(go_at_call 65;refine (clone_r b L _ m _ HH.out).mono ?_;rintro e w1 ⟨b1,s1,c1,g1,rfl,r1,hg1,hfr,hb1,hs1⟩;refine Hid.out ?_))
   refine Lib.hid ?_
   have q0:=(hfr.cell (a:=⟨b,0,none⟩) xb (fun h=>h)).trans a0
   have p0:=(hfr.cell (a:=⟨b2,0,none⟩) yb (fun h=>h)).trans b0
   have Q0:=Lib.hid q0;have P0:=Lib.hid p0
   have HR:=Lib.hid r1;have HF:=Lib.hid hfr;have HG1:=Lib.hid hg1
   clear r1 hfr hg1 a0 b0
   go_wp2_with (fail)
   refine (HW2.out _ P0.out).mono ?_
   rintro e w' ⟨rfl,rfl⟩
   go_wp2_with (fail)
   refine (HW1.out _ Q0.out).mono ?_
   rintro e w' ⟨rfl,rfl⟩
   go_wp2_with (fail)
   refine (HW1.out _ Q0.out).mono ?_
   rintro e w' ⟨rfl,rfl⟩
   go_wp2
   refine wp_loop_once ?_
   go_wp2
   go_ret
   exact MadeR.ma ⟨b1,s1,c1,g1,rfl,HR.out,HG1.out,HF.out,hb1,hs1⟩ HM.out
  ·obtain rfl:n2=0:=by omega
   clear hnn
   go_enter Tryz.func62,Tryz.ntmps62
   go_wp2_with (first|(go_at_call 103;refine (panicIfNull_c _ _).mono ?_;rintro e w' ⟨rfl,rfl⟩)|(go_at_call 65;refine (clone_r b L _ m _ HH.out).mono ?_;rintro e w1 ⟨b1,s1,c1,g1,rfl,r1,hg1,hfr,hb1,hs1⟩;refine Hid.out ?_))
   refine Lib.hid ?_
   have q0:=(hfr.cell (a:=⟨b,0,none⟩) xb (fun h=>h)).trans a0
   have p0:=(hfr.cell (a:=⟨b2,0,none⟩) yb (fun h=>h)).trans b0
   have Q0:=Lib.hid q0;have P0:=Lib.hid p0
   have HR:=Lib.hid r1;have HF:=Lib.hid hfr;have HG1:=Lib.hid hg1
   clear r1 hfr hg1 a0 b0
   go_wp2_with (fail)
   refine (HW2.out _ P0.out).mono ?_
   rintro e w' ⟨rfl,rfl⟩
   go_wp2_with (fail)
   refine (HW1.out _ Q0.out).mono ?_
   rintro e w' ⟨rfl,rfl⟩
   go_wp2
   refine wp_loop_once ?_
   go_wp2
   go_ret
   exact MadeR.ma ⟨b1,s1,c1,g1,rfl,HR.out,HG1.out,HF.out,hb1,hs1⟩ HM.out
end Go.Proofs.YtobdfhlmipcjbaaGreatDoor
