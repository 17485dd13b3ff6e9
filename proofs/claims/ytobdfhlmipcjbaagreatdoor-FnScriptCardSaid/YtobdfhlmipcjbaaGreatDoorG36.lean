/- bytes.Reader read to the full, by io.ReadFull: one piece. Conditions: as many bytes are left as. -/
import Derived.Laws.CopyRow
import Derived.Lib.EndianMore
import Derived.IntWalk
import Derived.Test.YtobdfhlmipcjbaaGreatDoorG05
import Derived.Test.YtobdfhlmipcjbaaGreatDoorG33
import Derived.Test.YtobdfhlmipcjbaaGreatDoorG35
set_option linter.unusedVariables false
set_option linter.unusedSimpArgs false
set_option maxHeartbeats 2000000
set_option maxRecDepth 100000
namespace Go.Proofs.YtobdfhlmipcjbaaGreatDoor
open Go.RowKit
@[go_sem] theorem meth_read (p:Value) (w:World):(method 289 126 p "Read").run Tryz.prog w= .ok (177,p) w:=by kernel_rfl
@[go_sem] theorem nil_read (b:Nat) (w:World):(nilAhead 289 126 (.pointer (some ⟨b,0,none⟩)) "Read").run Tryz.prog w= .ok (some false) w:=by kernel_rfl
@[go_sem] theorem meth_rvalue (first cap:Array Value) (w:World):(Instr.makeFunc (.method "Read") first cap).run Tryz.prog w= .ok (.func (.method "Read") first cap) w:=rfl
theorem size5:(Tryz.prog.info? 5).map (·.size)=some 1:=by kernel_rfl
theorem copy38(w:World)(ty t:TypeId)(g cd dLen dCap s so sLen sCap:Nat)(h xs:Nat->Value)(hd:w.rowIs g t cd h)(hk:dLen<=sLen)(hfit:dLen<=cd)(hs:∀j,j<dLen->w.cell? ⟨s,so+j,none⟩=some (xs j))(h1:∀j,j<dLen->(xs j).oneCell'=true):
  ∃w',(Builtin.copy_ #[38,38] ty #[.slice (some ⟨g,0,none⟩) dLen dCap,.slice (some ⟨s,so,none⟩) sLen sCap]).run Tryz.prog w= .ok (.int .i64 (dLen:Int)) w'/\w'.rowIs g t cd (fun j=>if j<dLen then xs j else h j)/\Fr (· =g) w w':=by
 obtain ⟨cur,hg,hn,hc⟩:=hd
 have e:=run_copy_row (P:=Tryz.prog) w 38 38 ty 5 g 0 dLen dCap ⟨s,so,none⟩ sLen sCap cur t ((List.range dLen).map xs) Tryz.underlying38 size5 hg (by rw [List.length_map,List.length_range];exact (Nat.min_eq_right hk).symm)
  (by
   intro j v hv
   rw [List.getElem?_map]at hv
   rcases Nat.lt_or_ge j dLen with hj|hj
   ·rw [List.getElem?_range hj]at hv
    simp only [Option.map_some,Option.some.injEq]at hv
    subst hv
    rw [add_at];exact hs j hj
   ·rw [List.getElem?_eq_none (by simpa using hj)]at hv;cases hv)
  (by simpa [hn] using hfit) (by intro v hv;obtain ⟨i,hi,rfl⟩:=List.mem_map.1 hv;exact h1 i (List.mem_range.1 hi))
 simp only [List.length_map,List.length_range]at e
 refine ⟨_,e,⟨_,setRow_heap w g cur _ t (0,0) hg,?_,?_⟩,⟨rfl,rfl,rfl,by simp [World.setRow],fun r _ hr=>setRow_other w g r _ hr⟩⟩
 ·simp [hn];omega
 ·intro i hi
  have hlen:cur.toList.length=cd:=by simpa using hn
  rw [List.getElem?_toArray,List.take_zero,List.nil_append,Nat.zero_add]
  show _=some (if i<dLen then xs i else h i)
  by_cases h2:i<dLen
  ·rw [if_pos h2,List.getElem?_append_left (by simpa using h2),List.getElem?_map,List.getElem?_range h2];rfl
  ·rw [if_neg h2,List.getElem?_append_right (by simpa using h2)]
   simp only [List.length_map,List.length_range,List.getElem?_drop]
   rw [show dLen+(i-dLen)=i by omega]
   have:=hc i hi
   simpa using this
structure Rdr(w:World)(rd s N c i:Nat)(xs:Nat->Value):Prop where
 blk:∃z,w.heap[rd]? =some (.cells #[.slice (some ⟨s,0,none⟩) N c,.int .i64 (i:Int),.int .i64 z] 153 (0,0))
 src:∀j,j<N->w.cell? ⟨s,j,none⟩=some (xs j)
 one:∀j,j<N->(xs j).oneCell'=true
 lim:N<=100000/\N<=c
 ne:s≠rd
def RdP(w:World)(rd s N c i n:Nat)(xs:Nat->Value)(g t cd:Nat)(h:Nat->Value)(e:Ending)(w':World):Prop:=
 e= .returned (.tuple #[.int .i64 (n:Int),.nilIface])/\Rdr w' rd s N c (i+n) xs/\w'.rowIs g t cd (fun j=>if j<n then xs (i+j) else h j)/\Fr (fun r=>r=g\/r=rd) w w'
theorem read177_c(rd s N c i n cn g t cd:Nat)(xs h:Nat->Value)(w:World)(hr:Rdr w rd s N c i xs)(hn:0<n)(hi:i+n<=N)(hd:w.rowIs g t cd h)(hfit:n<=cd)(hg1:g≠rd)(hg2:g≠s):
  Calls Tryz.prog 177 #[.pointer (some ⟨rd,0,none⟩),.slice (some ⟨g,0,none⟩) n cn] w (RdP w rd s N c i n xs g t cd h):=by
 obtain ⟨⟨z,hb⟩,hsrc,hone,⟨hlim,hlc⟩,hne⟩:=hr
 have b0:=hp_cell hb 0 rfl
 have b1:=hp_cell hb 1 rfl
 have b2:=hp_cell hb 2 rfl
 have z1:=hp_free hb 1
 have z2:=hp_free hb 2
 have d0:decide ((N:Int)<=(i:Int))=false:=by simp;omega
 have i1:(0:Int)<=(i:Int)/\(i:Int)<=N:=by omega
 have i2:¬c=i:=by omega
 have HB:=Lib.hid hb;have HS:=Lib.hid hsrc;have H1:=Lib.hid hone;have HD:=Lib.hid hd
 clear hb hsrc hone hd
 go_enter Tryz.func177,Tryz.ntmps177
 go_wp2
 go_quiet (fail)
 go_wp2
 obtain ⟨w1,hw1⟩:∃w1,w1=(w.drewN nq).setCell ⟨rd,2,none⟩ (.int .i64 (-1)):=⟨_,rfl⟩
 rw [<- hw1]
 have hb1:w1.heap[rd]? =some (.cells #[.slice (some ⟨s,0,none⟩) N c,.int .i64 (i:Int),.int .i64 (-1)] 153 (0,0)):=by
  rw [hw1];exact hp_same (w.drewN nq) rd 2 _ HB.out
 have hf1:Fr (· =rd) w w1:=by rw [hw1];exact ((Fr.refl (· =rd) w).drewN nq).setCell (a:=⟨rd,2,none⟩) (.inl rfl) _
 clear hw1 b0 b1 b2 z1 z2
 have b0:=hp_cell hb1 0 rfl
 have b1:=hp_cell hb1 1 rfl
 have HB1:=Lib.hid hb1;have HF1:=Lib.hid hf1
 clear hb1 hf1
 refine wp_region_quiet_tail 10 (by kernel_rfl) (by kernel_rfl) ?_
 simp only [List.take_succ_cons,List.take_zero,List.drop_succ_cons,List.drop_zero]
 repeat (go_big_quiet_step (fail))
 refine wpQuiet_nil ?_
 intro _ ⟨nq2,hw'⟩
 subst hw'
 obtain ⟨w2,hcp,hrow2,hf2⟩:=copy38 (w1.drewN nq2) 3 t g cd n cn s i (N-i) (c-i) h (fun j=>xs (i+j)) (rowIs_drewN (rowIs_keep HD.out HF1.out hg1) nq2) (by omega) hfit
  (fun j hj=>(HF1.out.cell (a:=⟨s,i+j,none⟩) (block_lt_of_cell (HS.out (i+j) (by omega))) hne).trans (HS.out (i+j) (by omega))) (fun j hj=>H1.out (i+j) (by omega))
 have hb2:=(hf2.keep rd (hp_lt HB1.out) (fun e=>hg1 e.symm)).trans HB1.out
 clear b0 b1
 have b1:=hp_cell hb2 1 rfl
 have z1:=hp_free hb2 1
 have HR2:=Lib.hid hrow2;have HF2:=Lib.hid hf2;have HB2:=Lib.hid hb2
 clear hrow2 hf2 hb2
 go_wp2
 go_ret2
 have hfr:Fr (fun r=>r=g\/r=rd) w w2:=((HF1.out.mono (fun r hr=> .inr hr)).drewN nq2).trans (HF2.out.mono (fun r hr=> .inl hr))
 have hf3:Fr (· =rd) w2 (w2.setCell ⟨rd,1,none⟩ (.int .i64 ((i:Int)+(n:Int)))):=(Fr.refl (· =rd) w2).setCell (a:=⟨rd,1,none⟩) (.inl rfl) _
 have hfw:=hfr.trans (hf3.mono (fun r hr=> .inr hr))
 refine ⟨rfl,⟨⟨-1,hp_same w2 rd 1 _ HB2.out⟩,fun j hj=>(hfw.cell (a:=⟨s,j,none⟩) (block_lt_of_cell (HS.out j hj)) (fun h=>h.elim (fun e=>hg2 e.symm) hne)).trans (HS.out j hj),H1.out,⟨hlim,hlc⟩,hne⟩,rowIs_keep HR2.out hf3 hg1,hfw⟩
theorem readAtLeast_c(rd s N c i n cn g t cd:Nat)(xs h:Nat->Value)(w:World)(hr:Rdr w rd s N c i xs)(hn:0<n)(hi:i+n<=N)(hd:w.rowIs g t cd h)(hfit:n<=cd)(hcn:n<=cn)(hg1:g≠rd)(hg2:g≠s):
  Calls Tryz.prog 144 #[.iface 126 (.pointer (some ⟨rd,0,none⟩)),.slice (some ⟨g,0,none⟩) n cn,.int .i64 (n:Int)] w (RdP w rd s N c i n xs g t cd h):=by
 have hlim:=hr.lim.1
 have hgl:=hd.lt
 have CR:∀w',Fr (fun _=>False) w w'->Calls Tryz.prog 177 #[.pointer (some ⟨rd,0,none⟩),.slice (some ⟨g,0,none⟩) n cn] w' (RdP w rd s N c i n xs g t cd h):=fun w' hf=>by
  obtain ⟨⟨z,hb⟩,hsrc,hone,hl,hne⟩:=hr
  refine (read177_c rd s N c i n cn g t cd xs h w' ⟨⟨z,(hf.keep rd (hp_lt hb) (fun h=>h)).trans hb⟩,fun j hj=>(hf.cell (a:=⟨s,j,none⟩) (block_lt_of_cell (hsrc j hj)) (fun h=>h)).trans (hsrc j hj),hone,hl,hne⟩ hn hi (rowIs_keep hd hf (fun h=>h)) hfit hg1 hg2).mono ?_
  rintro e w3 ⟨he,h1,h2,h3⟩
  exact ⟨he,h1,h2,(hf.mono (fun r (h:False)=>h.elim)).trans h3⟩
 have HCR:=Lib.hid CR
 have d0:decide (n<n)=false:=by simp
 have hcn0:¬cn=0:=by omega
 clear CR hr hd
 go_enter Tryz.func144,Tryz.ntmps144
 go_wp2
 go_loopw [6,7] (fun x e wr=>(x= .int .i64 0/\e= .nilIface/\wr=w)\/(x= .int .i64 (n:Int)/\e= .nilIface/\RdP w rd s N c i n xs g t cd h (.returned (.tuple #[.int .i64 (n:Int),.nilIface])) wr)) (fun x _ _=>n-(intOf x).toNat)
 case atStart=>exact .inl ⟨rfl,rfl,rfl⟩
 case round=>
  rcases hrel with ⟨rfl,rfl,hw⟩|⟨rfl,rfl,hd⟩
  ·obtain rfl:=hw.symm
   go_wp2
   go_region_held3 (fun w'=>True) (trivial) (first
    |(go_at_call 177;refine (HCR.out _ (by repeat (first|exact Fr.refl _ _|apply Fr.drew|apply Fr.drewN|apply Fr.alloc))).mono ?_;rintro e w3 ⟨rfl,h1,h2,h3⟩;have HD3:=Lib.hid (show RdP w rd s N c i n xs g t cd h (.returned (.tuple #[.int .i64 (n:Int),.nilIface])) w3 from ⟨rfl,h1,h2,h3⟩);clear h1 h2 h3)
    |fail)
   all_goals
    go_wp2
    go_roundw
    case rel=>exact .inr ⟨by go_num,rfl,HD3.out⟩
    case measure=>simp [intOf];omega
  ·have HD3:=Lib.hid hd
   clear hd
   go_wp2
   go_ret2
   exact HD3.out
theorem readFull_c(rd s N c i n cn g t cd:Nat)(xs h:Nat->Value)(w:World)(hr:Rdr w rd s N c i xs)(hn:0<n)(hi:i+n<=N)(hd:w.rowIs g t cd h)(hfit:n<=cd)(hcn:n<=cn)(hg1:g≠rd)(hg2:g≠s):
  Calls Tryz.prog 134 #[.iface 126 (.pointer (some ⟨rd,0,none⟩)),.slice (some ⟨g,0,none⟩) n cn] w (RdP w rd s N c i n xs g t cd h):=by
 have CR:=readAtLeast_c rd s N c i n cn g t cd xs h w hr hn hi hd hfit hcn hg1 hg2
 have HCR:=Lib.hid CR
 clear CR hr hd
 go_enter Tryz.func134,Tryz.ntmps134
 go_wp2_with (go_at_call 144;refine HCR.out.mono ?_;rintro e w3 ⟨rfl,h1,h2,h3⟩;have HD3:=Lib.hid (show RdP w rd s N c i n xs g t cd h (.returned (.tuple #[.int .i64 (n:Int),.nilIface])) w3 from ⟨rfl,h1,h2,h3⟩);clear h1 h2 h3)
 go_ret2
 exact HD3.out
theorem symdif_le(x y Lx Ly:Nat)(vx vy:Value)(mx my:Nat->Bool)(w:World)(hle:Lx<=Ly)(hx:BA w x vx Lx mx)(hy:BA w y vy Ly my):
  Calls Tryz.prog 63 #[.pointer (some ⟨x,0,none⟩),.pointer (some ⟨y,0,none⟩)] w (MadeA w Ly (fun i=>mx i^^my i)):=by
 have hlx:=hx.2.lim
 have hly:=hy.2.lim
 have x0:=hp_cell hx.2.blk 0 (v:= .int .u64 Lx) rfl
 have x1:=hp_cell hx.2.blk 1 (v:=vx) rfl
 have y0:=hp_cell hy.2.blk 0 (v:= .int .u64 Ly) rfl
 have y1:=hp_cell hy.2.blk 1 (v:=vy) rfl
 have xb:=hp_lt hx.2.blk
 have yb:=hp_lt hy.2.blk
 have mxo:=hx.1
 have myo:=hy.1
 have hsort:=fun w=>sort_le x y Lx Ly w hle
 have HSO:=Lib.hid hsort;have X0:=Lib.hid x0;have Y0:=Lib.hid y0
 have MX:=Lib.hid mxo;have MY:=Lib.hid myo
 clear hsort mxo myo
 by_cases hz:Lx=0
 ·subst hz
  obtain ⟨a2,c2,rfl⟩:=hx.zeroLen
  have HY:=Lib.hid hy;clear hx hy
  go_enter Tryz.func63,Tryz.ntmps63
  go_wp2_with (first|(go_at_call 103;refine (panicIfNull_c _ _).mono ?_;rintro e w' ⟨rfl,rfl⟩)|(go_at_call 105;refine (HSO.out _ X0.out Y0.out).mono ?_;rintro e w' ⟨rfl,nq,rfl⟩)|(go_at_call 65;refine (clone_r y Ly _ my _ (HY.out.drewN _)).mono ?_;rintro e w1 ⟨b1,s1,c1,g1,rfl,r1,hg1,hfr,hb1,hs1⟩;refine Hid.out ?_))
  refine Lib.hid ?_
  have q1:=(hfr.cell (a:=⟨x,1,none⟩) xb (fun h=>h)).trans x1
  have HR:=Lib.hid r1;have HF:=Lib.hid hfr;have HG1:=Lib.hid hg1
  clear r1 hg1 hfr x0 x1 y0 y1
  go_wp2
  refine wp_loop_once ?_
  go_wp2
  go_ret
  refine MadeR.ma ⟨b1,s1,c1,g1,rfl,HR.out,fun i hi=>?_,((Fr.refl _ _).drewN nq).trans HF.out,hb1,hs1⟩ (fun i hi=>?_)
  ·rw [HG1.out i hi];exact congrArg (fun m=>pk m i) (by funext i;rw [MX.out i (by omega)];simp)
  ·rw [MX.out i (by omega),MY.out i (by omega)];rfl
 ·obtain ⟨s,c,g,rfl,r,hg,_⟩:=hx.rs (by omega)
  obtain ⟨s2,c2,g2,rfl,r2,hg2,_⟩:=hy.rs (by omega)
  obtain ⟨n,hnL⟩:∃n,n=nw Lx:=⟨_,rfl⟩
  obtain ⟨n2,hnL2⟩:∃n,n=nw Ly:=⟨_,rfl⟩
  have hnn:n<=n2:=by subst hnL hnL2;unfold nw;omega
  have hnb:n2<=1000:=by subst hnL2;unfold nw;omega
  rw [<- hnL]at x1
  rw [<- hnL2]at y1
  have HX:=Lib.hid hx;have HY:=Lib.hid hy;have RX:=Lib.hid r;have RY:=Lib.hid r2;have GX:=Lib.hid hg;have GY:=Lib.hid hg2
  have HN:=Lib.hid hnL;have HN2:=Lib.hid hnL2
  clear hx hy r r2 hg hg2 hnL hnL2
  go_enter Tryz.func63,Tryz.ntmps63
  go_wp2_with (first|(go_at_call 103;refine (panicIfNull_c _ _).mono ?_;rintro e w' ⟨rfl,rfl⟩)|(go_at_call 105;refine (HSO.out _ X0.out Y0.out).mono ?_;rintro e w' ⟨rfl,nq,rfl⟩)|(go_at_call 65;refine (clone_r y Ly _ my _ (HY.out.drewN _)).mono ?_;rintro e w1 ⟨b1,s1,c1,g1,rfl,r1,hg1,hfr,hb1,hs1⟩;refine Hid.out ?_))
  refine Lib.hid ?_
  have q1:=(hfr.cell (a:=⟨x,1,none⟩) xb (fun h=>h)).trans x1
  have q2:=(hfr.cell (a:=⟨y,1,none⟩) yb (fun h=>h)).trans y1
  have rx:=(RX.out.drewN nq).keep hfr (fun h=>h) (fun h=>h)
  have ry:=(RY.out.drewN nq).keep hfr (fun h=>h) (fun h=>h)
  have RX1:=Lib.hid rx;have RY1:=Lib.hid ry
  have HR:=Lib.hid r1;have HF:=Lib.hid hfr;have HG1:=Lib.hid hg1
  have xs:=RX.out.hs.lt
  have ys:=RY.out.hs.lt
  have hrb:=hp_lt r1.hb
  clear r1 hg1 hfr x0 x1 y0 y1 rx ry
  go_wp2
  go_loopw [24] (fun i wr=>∃k:Nat,k<=n/\i= .int .i64 (k:Int)/\RS wr b1 s1 Ly c1 (fun j=>if j<k then g j^^^g2 j else g1 j)/\∃nd,Fr (· =s1) (w1.drewN nd) wr) (fun i _=>n-(intOf i).toNat)
  case atStart=>exact ⟨0,by omega,rfl,HR.out.congr (fun j _=>by simp),0,Fr.refl _ _⟩
  case round=>
   obtain ⟨k,hk,rfl,hr,nd,hfr⟩:=hrel
   have HFr:=Lib.hid hfr
   have HRr:=Lib.hid hr
   have z1:=hr.h1
   have q3:=(hfr.cell (a:=⟨y,1,none⟩) (Nat.lt_of_lt_of_le yb HF.out.size) (by show ¬y=s1;intro e;subst e;exact absurd yb (Nat.not_lt.2 hs1))).trans q2
   by_cases hlt:k<n
   ·have hkr:k<nw Ly:=by have:=HN.out;have:=HN2.out;omega
    have c0:=hr.at hkr
    have f0:=hr.fr k
    have cx:=(hfr.cell (a:=⟨s,k,none⟩) RX1.out.hs.lt (by show ¬s=s1;intro e;subst e;exact absurd xs (Nat.not_lt.2 hs1))).trans ((RX1.out.drewN nd).at (i:=k) (by rw [<- HN.out];exact hlt))
    have cy:=(hfr.cell (a:=⟨s2,k,none⟩) RY1.out.hs.lt (by show ¬s2=s1;intro e;subst e;exact absurd ys (Nat.not_lt.2 hs1))).trans ((RY1.out.drewN nd).at (i:=k) (by rw [<- HN2.out];omega))
    obtain ⟨nr,hnr⟩:∃nr,nr=nw Ly:=⟨_,rfl⟩
    rw [<- hnr]at z1 hkr
    have k2:k<n2:=by omega
    clear hr hfr hnr
    go_wp2
    refine wp_region_quiet_tail 14 (by kernel_rfl) (by kernel_rfl) ?_
    simp only [List.take_succ_cons,List.take_zero,List.drop_succ_cons,List.drop_zero]
    repeat (go_big_quiet_step (fail))
    refine wpQuiet_nil ?_
    intro _ ⟨nq2,hw'⟩
    subst hw'
    go_wp2
    go_roundw
    case rel=>
     refine ⟨k+1,by omega,by go_num,?_,nd,(HFr.out.drewN nq2).setCell (.inl rfl) _⟩
     rw [wn_xor]
     refine ((HRr.out.drewN nq2).set k _).congr (fun j _=>?_)
     by_cases e:j=k
     ·rw [if_pos e,if_pos (show j<k+1 by omega),e]
     ·rw [if_neg e]
      by_cases e2:j<k
      ·rw [if_pos e2,if_pos (show j<k+1 by omega)]
      ·rw [if_neg e2,if_neg (show ¬j<k+1 by omega)]
    case measure=>simp [intOf];omega
   ·have hkn:k=n:=by omega
    subst hkn
    clear hr hfr
    go_wp2
    go_ret
    refine MadeR.ma ⟨b1,s1,c1,_,rfl,HRr.out,fun i hi=>?_,(((Fr.refl _ _).drewN nq).trans HF.out).trans' (((Fr.refl (· =s1) _).drewN nd).trans HFr.out) (fun r hr=> .inr (by subst hr;exact hs1)),hb1,hs1⟩ (fun i hi=>?_)
    ·by_cases e:i<k
     ·rw [if_pos e,GX.out i (by rw [<- HN.out];exact e),GY.out i (by rw [<- HN2.out];omega),pk_xor]
     ·rw [if_neg e,HG1.out i hi];refine pk_same (fun j hj=>?_) |>.symm;rw [MX.out _ (by have:=HN.out;unfold nw at this;omega)];simp
    ·rw [MX.out i (by omega),MY.out i (by omega)];rfl
theorem symdif_gt(x y Lx Ly:Nat)(vx vy:Value)(mx my:Nat->Bool)(w:World)(hle:Lx<Ly)(hx:BA w x vx Lx mx)(hy:BA w y vy Ly my):
  Calls Tryz.prog 63 #[.pointer (some ⟨y,0,none⟩),.pointer (some ⟨x,0,none⟩)] w (MadeA w Ly (fun i=>my i^^mx i)):=by
 have hlx:=hx.2.lim
 have hly:=hy.2.lim
 have x0:=hp_cell hx.2.blk 0 (v:= .int .u64 Lx) rfl
 have x1:=hp_cell hx.2.blk 1 (v:=vx) rfl
 have y0:=hp_cell hy.2.blk 0 (v:= .int .u64 Ly) rfl
 have y1:=hp_cell hy.2.blk 1 (v:=vy) rfl
 have xb:=hp_lt hx.2.blk
 have yb:=hp_lt hy.2.blk
 have mxo:=hx.1
 have myo:=hy.1
 have hsort:=fun w=>sort_gt y x Ly Lx w hle
 have HSO:=Lib.hid hsort;have X0:=Lib.hid x0;have Y0:=Lib.hid y0
 have MX:=Lib.hid mxo;have MY:=Lib.hid myo
 clear hsort mxo myo
 by_cases hz:Lx=0
 ·subst hz
  obtain ⟨a2,c2,rfl⟩:=hx.zeroLen
  have HY:=Lib.hid hy;clear hx hy
  go_enter Tryz.func63,Tryz.ntmps63
  go_wp2_with (first|(go_at_call 103;refine (panicIfNull_c _ _).mono ?_;rintro e w' ⟨rfl,rfl⟩)|(go_at_call 105;refine (HSO.out _ Y0.out X0.out).mono ?_;rintro e w' ⟨rfl,nq,rfl⟩)|(go_at_call 65;refine (clone_r y Ly _ my _ (HY.out.drewN _)).mono ?_;rintro e w1 ⟨b1,s1,c1,g1,rfl,r1,hg1,hfr,hb1,hs1⟩;refine Hid.out ?_))
  refine Lib.hid ?_
  have q1:=(hfr.cell (a:=⟨x,1,none⟩) xb (fun h=>h)).trans x1
  have HR:=Lib.hid r1;have HF:=Lib.hid hfr;have HG1:=Lib.hid hg1
  clear r1 hg1 hfr x0 x1 y0 y1
  go_wp2
  refine wp_loop_once ?_
  go_wp2
  go_ret
  refine MadeR.ma ⟨b1,s1,c1,g1,rfl,HR.out,fun i hi=>?_,((Fr.refl _ _).drewN nq).trans HF.out,hb1,hs1⟩ (fun i hi=>?_)
  ·rw [HG1.out i hi];exact congrArg (fun m=>pk m i) (by funext i;rw [MX.out i (by omega)];simp)
  ·rw [MX.out i (by omega),MY.out i (by omega)];rfl
 ·obtain ⟨s,c,g,rfl,r,hg,_⟩:=hx.rs (by omega)
  obtain ⟨s2,c2,g2,rfl,r2,hg2,_⟩:=hy.rs (by omega)
  obtain ⟨n,hnL⟩:∃n,n=nw Lx:=⟨_,rfl⟩
  obtain ⟨n2,hnL2⟩:∃n,n=nw Ly:=⟨_,rfl⟩
  have hnn:n<=n2:=by subst hnL hnL2;unfold nw;omega
  have hnb:n2<=1000:=by subst hnL2;unfold nw;omega
  rw [<- hnL]at x1
  rw [<- hnL2]at y1
  have HX:=Lib.hid hx;have HY:=Lib.hid hy;have RX:=Lib.hid r;have RY:=Lib.hid r2;have GX:=Lib.hid hg;have GY:=Lib.hid hg2
  have HN:=Lib.hid hnL;have HN2:=Lib.hid hnL2
  clear hx hy r r2 hg hg2 hnL hnL2
  go_enter Tryz.func63,Tryz.ntmps63
  go_wp2_with (first|(go_at_call 103;refine (panicIfNull_c _ _).mono ?_;rintro e w' ⟨rfl,rfl⟩)|(go_at_call 105;refine (HSO.out _ Y0.out X0.out).mono ?_;rintro e w' ⟨rfl,nq,rfl⟩)|(go_at_call 65;refine (clone_r y Ly _ my _ (HY.out.drewN _)).mono ?_;rintro e w1 ⟨b1,s1,c1,g1,rfl,r1,hg1,hfr,hb1,hs1⟩;refine Hid.out ?_))
  refine Lib.hid ?_
  have q1:=(hfr.cell (a:=⟨x,1,none⟩) xb (fun h=>h)).trans x1
  have q2:=(hfr.cell (a:=⟨y,1,none⟩) yb (fun h=>h)).trans y1
  have rx:=(RX.out.drewN nq).keep hfr (fun h=>h) (fun h=>h)
  have ry:=(RY.out.drewN nq).keep hfr (fun h=>h) (fun h=>h)
  have RX1:=Lib.hid rx;have RY1:=Lib.hid ry
  have HR:=Lib.hid r1;have HF:=Lib.hid hfr;have HG1:=Lib.hid hg1
  have xs:=RX.out.hs.lt
  have ys:=RY.out.hs.lt
  have hrb:=hp_lt r1.hb
  clear r1 hg1 hfr x0 x1 y0 y1 rx ry
  go_wp2
  go_loopw [24] (fun i wr=>∃k:Nat,k<=n/\i= .int .i64 (k:Int)/\RS wr b1 s1 Ly c1 (fun j=>if j<k then g j^^^g2 j else g1 j)/\∃nd,Fr (· =s1) (w1.drewN nd) wr) (fun i _=>n-(intOf i).toNat)
  case atStart=>exact ⟨0,by omega,rfl,HR.out.congr (fun j _=>by simp),0,Fr.refl _ _⟩
  case round=>
   obtain ⟨k,hk,rfl,hr,nd,hfr⟩:=hrel
   have HFr:=Lib.hid hfr
   have HRr:=Lib.hid hr
   have z1:=hr.h1
   have q3:=(hfr.cell (a:=⟨y,1,none⟩) (Nat.lt_of_lt_of_le yb HF.out.size) (by show ¬y=s1;intro e;subst e;exact absurd yb (Nat.not_lt.2 hs1))).trans q2
   by_cases hlt:k<n
   ·have hkr:k<nw Ly:=by have:=HN.out;have:=HN2.out;omega
    have c0:=hr.at hkr
    have f0:=hr.fr k
    have cx:=(hfr.cell (a:=⟨s,k,none⟩) RX1.out.hs.lt (by show ¬s=s1;intro e;subst e;exact absurd xs (Nat.not_lt.2 hs1))).trans ((RX1.out.drewN nd).at (i:=k) (by rw [<- HN.out];exact hlt))
    have cy:=(hfr.cell (a:=⟨s2,k,none⟩) RY1.out.hs.lt (by show ¬s2=s1;intro e;subst e;exact absurd ys (Nat.not_lt.2 hs1))).trans ((RY1.out.drewN nd).at (i:=k) (by rw [<- HN2.out];omega))
    obtain ⟨nr,hnr⟩:∃nr,nr=nw Ly:=⟨_,rfl⟩
    rw [<- hnr]at z1 hkr
    have k2:k<n2:=by omega
    clear hr hfr hnr
    go_wp2
    refine wp_region_quiet_tail 14 (by kernel_rfl) (by kernel_rfl) ?_
    simp only [List.take_succ_cons,List.take_zero,List.drop_succ_cons,List.drop_zero]
    repeat (go_big_quiet_step (fail))
    refine wpQuiet_nil ?_
    intro _ ⟨nq2,hw'⟩
    subst hw'
    go_wp2
    go_roundw
    case rel=>
     refine ⟨k+1,by omega,by go_num,?_,nd,(HFr.out.drewN nq2).setCell (.inl rfl) _⟩
     rw [wn_xor]
     refine ((HRr.out.drewN nq2).set k _).congr (fun j _=>?_)
     by_cases e:j=k
     ·rw [if_pos e,if_pos (show j<k+1 by omega),e]
     ·rw [if_neg e]
      by_cases e2:j<k
      ·rw [if_pos e2,if_pos (show j<k+1 by omega)]
      ·rw [if_neg e2,if_neg (show ¬j<k+1 by omega)]
    case measure=>simp [intOf];omega
   ·have hkn:k=n:=by omega
    subst hkn
    clear hr hfr
    go_wp2
    go_ret
    refine MadeR.ma ⟨b1,s1,c1,_,rfl,HRr.out,fun i hi=>?_,(((Fr.refl _ _).drewN nq).trans HF.out).trans' (((Fr.refl (· =s1) _).drewN nd).trans HFr.out) (fun r hr=> .inr (by subst hr;exact hs1)),hb1,hs1⟩ (fun i hi=>?_)
    ·by_cases e:i<k
     ·rw [if_pos e,GX.out i (by rw [<- HN.out];exact e),GY.out i (by rw [<- HN2.out];omega),pk_xor]
      congr 1;funext i;exact Bool.xor_comm _ _
     ·rw [if_neg e,HG1.out i hi];refine pk_same (fun j hj=>?_) |>.symm;rw [MX.out _ (by have:=HN.out;unfold nw at this;omega)];simp
    ·rw [MX.out i (by omega),MY.out i (by omega)];rfl
theorem symdif_c(b b2 L L2:Nat)(v v2:Value)(m m2:Nat->Bool)(w:World)(h:BA w b v L m)(k:BA w b2 v2 L2 m2):
  Calls Tryz.prog 63 #[.pointer (some ⟨b,0,none⟩),.pointer (some ⟨b2,0,none⟩)] w (MadeA w (max L L2) (fun i=>m i^^m2 i)):=by
 by_cases e:L<=L2
 ·rw [Nat.max_eq_right e];exact symdif_le b b2 L L2 v v2 m m2 w e h k
 ·rw [Nat.max_eq_left (by omega)];exact symdif_gt b2 b L2 L v2 v m2 m w (by omega) k h
def tldO(op:Int):Obj:= .cells #[.int .i64 op,.bool false,.int .u64 0,.int .u64 0,.string { data:= #[] },.slice none 0 0,.slice none 0 0] 50
def TellP(w:World)(op:Int)(is:Bool)(n:Nat)(wv:Value)(s:ByteArray)(xs bs:List Value)(e:Ending)(w':World):Prop:=
 ∃l b,e= .returned (.agg #[.int .i64 op,.bool is,.int .u64 (n:Int),wv,.string s,l,b])/\Lst w' 28 1 l xs.length xs/\Lst w' 5 1 b bs.length bs/\(∀r,l.ownBlock=some r->w.heap.size<=r)/\(∀r,b.ownBlock=some r->w.heap.size<=r)/\Fr (fun _=>False) w w'
structure TelW(w w2:World)(op:Int):Prop where
 p0:w2.heap[w.heap.size+1]? =some (tldO 0)
 p1:w2.heap[w.heap.size+1+1]? =some (tldO op)
 fr:Fr (fun _=>False) w w2
theorem TelW.keep{w w1 w2:World}{op:Int}(h:TelW w w1 op)(k:Fr (fun _=>False) w1 w2):TelW w w2 op:=
 ⟨(k.keep _ (hp_lt h.p0) (fun h=>h)).trans h.p0,(k.keep _ (hp_lt h.p1) (fun h=>h)).trans h.p1,h.fr.trans k⟩
theorem telMid(op:Int)(a b c fr to n:Nat)(wd:BitVec 64)(many:Value)(w:World):TelW w (((w.alloc (istO op a b c fr to n wd many)).alloc (tldO 0)).alloc (tldO op)) op:=by
 have h1:=hp_new (w.alloc (istO op a b c fr to n wd many)) (tldO 0)
 have h2:=hp_new ((w.alloc (istO op a b c fr to n wd many)).alloc (tldO 0)) (tldO op)
 rw [World.size_alloc]at h1
 rw [World.size_alloc,World.size_alloc]at h2
 exact ⟨alloc_at h1 _,h2,(((Fr.refl _ w).alloc _).alloc _).alloc _⟩
def Sev(w3:World)(p:Nat)(op:Int):Prop:=
 w3.cell? ⟨p,0,none⟩=some (.int .i64 op)/\w3.frozen? ⟨p,0,none⟩=false/\w3.cell? ⟨p,1,none⟩=some (.bool false)/\w3.frozen? ⟨p,1,none⟩=false/\w3.cell? ⟨p,2,none⟩=some (.int .u64 0)/\w3.frozen? ⟨p,2,none⟩=false/\
  w3.cell? ⟨p,3,none⟩=some (.int .u64 0)/\w3.frozen? ⟨p,3,none⟩=false/\w3.cell? ⟨p,4,none⟩=some (.string { data:= #[] })/\w3.frozen? ⟨p,4,none⟩=false/\w3.cell? ⟨p,5,none⟩=some (.slice none 0 0)/\w3.frozen? ⟨p,5,none⟩=false/\w3.cell? ⟨p,6,none⟩=some (.slice none 0 0)/\w3.frozen? ⟨p,6,none⟩=false
theorem sev{w3:World}{p:Nat}{op:Int}(h:w3.heap[p]? =some (tldO op)):Sev w3 p op:=
 ⟨hp_cell h 0 rfl,hp_free h 0,hp_cell h 1 rfl,hp_free h 1,hp_cell h 2 rfl,hp_free h 2,hp_cell h 3 rfl,hp_free h 3,hp_cell h 4 rfl,hp_free h 4,hp_cell h 5 rfl,hp_free h 5,hp_cell h 6 rfl,hp_free h 6⟩
theorem TelW.sev{w w2:World}{op:Int}(h:TelW w w2 op):Sev w2 (w.heap.size+1) 0/\Sev w2 (w.heap.size+1+1) op:=
 ⟨Go.Proofs.YtobdfhlmipcjbaaGreatDoor.sev h.p0,Go.Proofs.YtobdfhlmipcjbaaGreatDoor.sev h.p1⟩
theorem set7{w:World}{p:Nat}{x0 x1 x2 x3 x4 x5 x6:Value}{t:TypeId}(y0 y1 y2 y3 y4 y5 y6:Value)(h:w.heap[p]? =some (.cells #[x0,x1,x2,x3,x4,x5,x6] t (0,0))):
  (((((((w.setCell ⟨p,0,none⟩ y0).setCell ⟨p,1,none⟩ y1).setCell ⟨p,2,none⟩ y2).setCell ⟨p,3,none⟩ y3).setCell ⟨p,4,none⟩ y4).setCell ⟨p,5,none⟩ y5).setCell ⟨p,6,none⟩ y6).heap[p]? =some (.cells #[y0,y1,y2,y3,y4,y5,y6] t (0,0)):=by
 have h0:(World.setCell _ ⟨p,0,none⟩ y0).heap[p]? =some (.cells #[y0,x1,x2,x3,x4,x5,x6] t (0,0)):=hp_same _ p 0 y0 h
 have h1:(World.setCell _ ⟨p,1,none⟩ y1).heap[p]? =some (.cells #[y0,y1,x2,x3,x4,x5,x6] t (0,0)):=hp_same _ p 1 y1 h0
 have h2:(World.setCell _ ⟨p,2,none⟩ y2).heap[p]? =some (.cells #[y0,y1,y2,x3,x4,x5,x6] t (0,0)):=hp_same _ p 2 y2 h1
 have h3:(World.setCell _ ⟨p,3,none⟩ y3).heap[p]? =some (.cells #[y0,y1,y2,y3,x4,x5,x6] t (0,0)):=hp_same _ p 3 y3 h2
 have h4:(World.setCell _ ⟨p,4,none⟩ y4).heap[p]? =some (.cells #[y0,y1,y2,y3,y4,x5,x6] t (0,0)):=hp_same _ p 4 y4 h3
 have h5:(World.setCell _ ⟨p,5,none⟩ y5).heap[p]? =some (.cells #[y0,y1,y2,y3,y4,y5,x6] t (0,0)):=hp_same _ p 5 y5 h4
 have h6:(World.setCell _ ⟨p,6,none⟩ y6).heap[p]? =some (.cells #[y0,y1,y2,y3,y4,y5,y6] t (0,0)):=hp_same _ p 6 y6 h5
 exact h6
theorem telEndY{w w3:World}(hp:w3.heap[w.heap.size+1]? =some (tldO 0))(y0 y1 y2 y3 y4 y5 y6:Value):
  ∃w4,((((((w3.setCell ⟨w.heap.size+1,0,none⟩ y0).setCell ⟨w.heap.size+1,1,none⟩ y1).setCell ⟨w.heap.size+1,2,none⟩ y2).setCell ⟨w.heap.size+1,3,none⟩ y3).setCell ⟨w.heap.size+1,4,none⟩ y4).setCell ⟨w.heap.size+1,5,none⟩ y5).setCell ⟨w.heap.size+1,6,none⟩ y6=w4/\
   w4.cell? ⟨w.heap.size+1,0,none⟩=some y0/\w4.cell? ⟨w.heap.size+1,1,none⟩=some y1/\w4.cell? ⟨w.heap.size+1,2,none⟩=some y2/\w4.cell? ⟨w.heap.size+1,3,none⟩=some y3/\w4.cell? ⟨w.heap.size+1,4,none⟩=some y4/\w4.cell? ⟨w.heap.size+1,5,none⟩=some y5/\w4.cell? ⟨w.heap.size+1,6,none⟩=some y6/\
   Hid (Fr (fun r=>r=w.heap.size+1) w3 w4):=by
 have hp4:=set7 y0 y1 y2 y3 y4 y5 y6 hp
 have h1:(fun r=>r=w.heap.size+1) (w.heap.size+1)\/w3.heap.size<=w.heap.size+1:= .inl rfl
 have hf:=(((((((Fr.refl (fun r=>r=w.heap.size+1) w3).setCell (a:=⟨w.heap.size+1,0,none⟩) h1 y0).setCell (a:=⟨w.heap.size+1,1,none⟩) h1 y1).setCell (a:=⟨w.heap.size+1,2,none⟩) h1 y2).setCell (a:=⟨w.heap.size+1,3,none⟩) h1 y3).setCell (a:=⟨w.heap.size+1,4,none⟩) h1 y4).setCell (a:=⟨w.heap.size+1,5,none⟩) h1 y5).setCell (a:=⟨w.heap.size+1,6,none⟩) h1 y6
 exact ⟨_,rfl,hp_cell hp4 0 rfl,hp_cell hp4 1 rfl,hp_cell hp4 2 rfl,hp_cell hp4 3 rfl,hp_cell hp4 4 rfl,hp_cell hp4 5 rfl,hp_cell hp4 6 rfl,hf⟩
theorem telEndX{w w3:World}(hp:w3.heap[w.heap.size+1]? =some (tldO 0))(hw:Fr (fun _=>False) w w3)(y0 y1 y2 y3 y4 y5 y6:Value):
  ∃w4,((((((w3.setCell ⟨w.heap.size+1,0,none⟩ y0).setCell ⟨w.heap.size+1,1,none⟩ y1).setCell ⟨w.heap.size+1,2,none⟩ y2).setCell ⟨w.heap.size+1,3,none⟩ y3).setCell ⟨w.heap.size+1,4,none⟩ y4).setCell ⟨w.heap.size+1,5,none⟩ y5).setCell ⟨w.heap.size+1,6,none⟩ y6=w4/\
   w4.cell? ⟨w.heap.size+1,0,none⟩=some y0/\w4.cell? ⟨w.heap.size+1,1,none⟩=some y1/\w4.cell? ⟨w.heap.size+1,2,none⟩=some y2/\w4.cell? ⟨w.heap.size+1,3,none⟩=some y3/\w4.cell? ⟨w.heap.size+1,4,none⟩=some y4/\w4.cell? ⟨w.heap.size+1,5,none⟩=some y5/\w4.cell? ⟨w.heap.size+1,6,none⟩=some y6/\
   Hid (Fr (fun _=>False) w w4)/\Hid (Fr (fun r=>r=w.heap.size+1) w3 w4):=by
 obtain ⟨w4,h0,h1,h2,h3,h4,h5,h6,h7,h9⟩:=telEndY hp y0 y1 y2 y3 y4 y5 y6
 exact ⟨w4,h0,h1,h2,h3,h4,h5,h6,h7,hw.trans' h9.out (fun r hr=> .inr (by omega)),h9⟩
theorem telEnd{w w2 w3:World}{op:Int}(h:TelW w w2 op)(hk:Fr (· =w.heap.size+1+1) w2 w3)(y0 y1 y2 y3 y4 y5 y6:Value):
  ∃w4,((((((w3.setCell ⟨w.heap.size+1,0,none⟩ y0).setCell ⟨w.heap.size+1,1,none⟩ y1).setCell ⟨w.heap.size+1,2,none⟩ y2).setCell ⟨w.heap.size+1,3,none⟩ y3).setCell ⟨w.heap.size+1,4,none⟩ y4).setCell ⟨w.heap.size+1,5,none⟩ y5).setCell ⟨w.heap.size+1,6,none⟩ y6=w4/\
   w4.cell? ⟨w.heap.size+1,0,none⟩=some y0/\w4.cell? ⟨w.heap.size+1,1,none⟩=some y1/\w4.cell? ⟨w.heap.size+1,2,none⟩=some y2/\w4.cell? ⟨w.heap.size+1,3,none⟩=some y3/\w4.cell? ⟨w.heap.size+1,4,none⟩=some y4/\w4.cell? ⟨w.heap.size+1,5,none⟩=some y5/\w4.cell? ⟨w.heap.size+1,6,none⟩=some y6/\
   Hid (Fr (fun _=>False) w w4)/\Hid (Fr (fun r=>r=w.heap.size+1\/r=w.heap.size+1+1) w2 w4):=by
 obtain ⟨w4,h0,h1,h2,h3,h4,h5,h6,h7,h8,h9⟩:=telEndX (w:=w) (w3:=w3) ((hk.keep _ (hp_lt h.p0) (by omega)).trans h.p0) (h.fr.trans' hk (fun r hr=> .inr (by omega))) y0 y1 y2 y3 y4 y5 y6
 exact ⟨w4,h0,h1,h2,h3,h4,h5,h6,h7,h8,(hk.mono (fun r (hr:r=_)=> .inr hr)).trans (h9.out.mono fun r hr=> .inl hr)⟩
theorem cpf_fin(c s2 c2 La:Nat)(vc:Value)(g g2:Nat->BitVec 64)(m:Nat->Bool)(w w8 w9:World)(hg:∀i,i<nw La->g i=pk m i)(hm:∀i,La<=i->m i=false)
  (hl:La<=50000) (hcap:nw La<=c2) (hc2:c2<=9223372036854775807) (ne:s2≠c) (hT:∀r,r=c\/r=s2->Own c vc r\/w.heap.size<=r) (hfr:Fr (fun r=>r=c\/r=s2) w w8)
  (hb:w8.heap[c]? =some (.cells #[.int .u64 (La:Int),.slice (some ⟨s2,0,none⟩) (nw La) c2] 75 (0,0))) (hrow:w9.rowIs s2 29 c2 (fun i=>WV (if 0<=i/\i<0+nw La then g (0+(i-0)) else g2 i))) (hf9:Fr (· =s2) w8 w9):
  MutA w c vc La m (.tuple #[]) (.returned (.tuple #[])) w9:=by
 have r:RS w9 c s2 La c2 (fun i=>if 0<=i/\i<0+nw La then g (0+(i-0)) else g2 i):=⟨ne,hcap,hc2,hl,(hf9.keep c (hp_lt hb) (fun e=>ne e.symm)).trans hb,hrow⟩
 refine ⟨rfl,_,r.ba (fun i hi=>?_) hm,⟨?_,?_⟩⟩
 ·rw [if_pos (by omega),<- hg i hi];simp
 ·exact (Fr.refl _ w).trans' (hfr.trans (hf9.mono (fun r hr=> .inr hr))) (fun r hr=>hT r hr)
 ·rcases hT s2 (.inr rfl) with (e|e)|e
  ·exact absurd e ne
  ·exact .inl (by rw [e];rfl)
  ·exact .inr (.inr ⟨s2,rfl,e⟩)
theorem cpf_same(a L:Nat)(v:Value)(m:Nat->Bool)(w:World)(ha:BA w a v L m)(hL:0<L):
  Calls Tryz.prog 34 #[.pointer (some ⟨a,0,none⟩),.pointer (some ⟨a,0,none⟩)] w (MutA w a v L m (.tuple #[])):=by
 obtain ⟨s,c,g,rfl,r,hg,hm⟩:=ha.rs hL
 have hl:=r.hl
 have h0:=r.h0
 have h1:=r.h1
 have f0:=hp_free r.hb 0
 have f1:=hp_free r.hb 1
 have hcn:=r.hn
 obtain ⟨n,hn⟩:∃n,n=nw L:=⟨_,rfl⟩
 rw [<- hn]at h1 hcn
 have hz:¬n=0:=by unfold nw at hn;omega
 have hlt:decide (c<n)=false:=by simp;omega
 have hmin:n=Nat.min n n:=(Nat.min_self n).symm
 have R:=Lib.hid r;have HG:=Lib.hid hg;have HM:=Lib.hid hm;have HN:=Lib.hid hn;have HC:=Lib.hid hcn;have HMI:=Lib.hid hmin
 clear ha r hg hm hn hmin
 go_enter Tryz.func34,Tryz.ntmps34
 go_wp2
 go_quiet (fail)
 go_wp2
 refine wp_region_quiet_tail 11 (by kernel_rfl) (by kernel_rfl) ?_
 simp only [List.take_succ_cons,List.take_zero,List.drop_succ_cons,List.drop_zero]
 repeat (go_big_quiet_step (fail))
 refine wpQuiet_nil ?_
 intro _ ⟨nq0,hw'⟩
 subst hw'
 go_wp2
 refine wp_region_quiet_tail 8 (by kernel_rfl) (by kernel_rfl) ?_
 simp only [List.take_succ_cons,List.take_zero,List.drop_succ_cons,List.drop_zero]
 repeat (go_big_quiet_step (fail))
 refine wpQuiet_nil ?_
 intro _ ⟨nq1,hw'⟩
 subst hw'
 have hrow:=rowIs_drewN (((R.out.hs.setOther (a:=⟨a,0,none⟩) R.out.ne (.int .u64 (L:Int))).setOther (a:=⟨a,1,none⟩) R.out.ne (.slice (some ⟨s,0,none⟩) n c))) 0
 have hfr8:Fr (fun r=>r=a\/r=s) w ((((w.setCell ⟨a,0,none⟩ (.int .u64 (L:Int))).drewN (nq+nq0)).setCell ⟨a,1,none⟩ (.slice (some ⟨s,0,none⟩) n c)).drewN nq1):=
  ((((Fr.refl _ _).setCell (.inl (.inl rfl)) _).drewN _).setCell (.inl (.inl rfl)) _).drewN _
 have hb8:((((w.setCell ⟨a,0,none⟩ (.int .u64 (L:Int))).drewN (nq+nq0)).setCell ⟨a,1,none⟩ (.slice (some ⟨s,0,none⟩) n c)).drewN nq1).heap[a]? =some (.cells #[.int .u64 (L:Int),.slice (some ⟨s,0,none⟩) n c] 75 (0,0)):=
  hp_upd1 _ (hp_upd0 _ R.out.hb)
 have hrow8:((((w.setCell ⟨a,0,none⟩ (.int .u64 (L:Int))).drewN (nq+nq0)).setCell ⟨a,1,none⟩ (.slice (some ⟨s,0,none⟩) n c)).drewN nq1).rowIs s 29 c (fun i=>WV (g i)):=hrow
 generalize (((w.setCell ⟨a,0,none⟩ (.int .u64 (L:Int))).drewN (nq+nq0)).setCell ⟨a,1,none⟩ (.slice (some ⟨s,0,none⟩) n c)).drewN nq1=w8 at*
 obtain ⟨w9,hcp,hrow9,hfr9⟩:=copy33 w8 3 s 0 s 0 n c n c c c n g g hrow8 hrow8 HMI.out (by omega) (by omega)
 have HR9:=Lib.hid hrow9;have HF9:=Lib.hid hfr9;have HF8:=Lib.hid hfr8;have HB8:=Lib.hid hb8;clear hrow9 hfr9 hfr8 hb8 hrow8 hrow h0 h1 f0 f1
 go_wp2
 go_end0
 have hN:=HN.out
 subst hN
 exact cpf_fin a s c L _ g g m w w8 w9 HG.out HM.out hl hcn R.out.hc R.out.ne (by rintro r (rfl|rfl);exact .inl (.inl rfl);exact .inl (.inr rfl)) HF8.out HB8.out HR9.out HF9.out
theorem cpf_re(a c s cs La s2 c2 Lc:Nat)(g g2:Nat->BitVec 64)(m:Nat->Bool)(w:World)(r:RS w a s La cs g)(r2:RS w c s2 Lc c2 g2)(hg:∀i,i<nw La->g i=pk m i)(hm:∀i,La<=i->m i=false)
  (hs:Sep c (.slice (some ⟨s2,0,none⟩) (nw Lc) c2) a (.slice (some ⟨s,0,none⟩) (nw La) cs)) (hL:0<La) (hcap:nw La<=c2):
  Calls Tryz.prog 34 #[.pointer (some ⟨a,0,none⟩),.pointer (some ⟨c,0,none⟩)] w (MutA w c (.slice (some ⟨s2,0,none⟩) (nw Lc) c2) La m (.tuple #[])):=by
 have hac:¬a=c:=fun e=>hs c (.inl rfl) (.inl e.symm)
 have hca:¬c=a:=fun e=>hac e.symm
 have hsc:s≠c:=fun e=>hs c (.inl rfl) (.inr (by rw [e];rfl))
 have hl:=r.hl
 have h0:=r.h0
 have h1:=r.h1
 have c0:=r2.h0
 have c1:=r2.h1
 have f0:=hp_free r2.hb 0
 have f1:=hp_free r2.hb 1
 have hcn:=r.hn
 have hcn2:=hcap
 obtain ⟨n,hn⟩:∃n,n=nw La:=⟨_,rfl⟩
 obtain ⟨n2,hn2⟩:∃n,n=nw Lc:=⟨_,rfl⟩
 rw [<- hn]at h1 hcn hcn2
 rw [<- hn2]at c1
 have hz:¬n=0:=by unfold nw at hn;omega
 have hlt:decide (c2<n)=false:=by simp;omega
 have hmin:n=Nat.min n n:=(Nat.min_self n).symm
 have R:=Lib.hid r;have R2:=Lib.hid r2;have HG:=Lib.hid hg;have HM:=Lib.hid hm;have HN:=Lib.hid hn;have HN2:=Lib.hid hn2;have HC:=Lib.hid hcn;have HMI:=Lib.hid hmin;have HCAP:=Lib.hid hcap;have HSC:=Lib.hid hsc
 clear r r2 hg hm hn hn2 hmin hs hcap hsc
 go_enter Tryz.func34,Tryz.ntmps34
 go_wp2
 go_quiet (fail)
 go_wp2
 refine wp_region_quiet_tail 11 (by kernel_rfl) (by kernel_rfl) ?_
 simp only [List.take_succ_cons,List.take_zero,List.drop_succ_cons,List.drop_zero]
 repeat (go_big_quiet_step (fail))
 refine wpQuiet_nil ?_
 intro _ ⟨nq0,hw'⟩
 subst hw'
 go_wp2
 refine wp_region_quiet_tail 8 (by kernel_rfl) (by kernel_rfl) ?_
 simp only [List.take_succ_cons,List.take_zero,List.drop_succ_cons,List.drop_zero]
 repeat (go_big_quiet_step (fail))
 refine wpQuiet_nil ?_
 intro _ ⟨nq1,hw'⟩
 subst hw'
 have hrow8:((((w.setCell ⟨c,0,none⟩ (.int .u64 (La:Int))).drewN (nq+nq0)).setCell ⟨c,1,none⟩ (.slice (some ⟨s2,0,none⟩) n c2)).drewN nq1).rowIs s2 29 c2 (fun i=>WV (g2 i)):=
  rowIs_drewN (((R2.out.hs.setOther (a:=⟨c,0,none⟩) R2.out.ne (.int .u64 (La:Int))).setOther (a:=⟨c,1,none⟩) R2.out.ne (.slice (some ⟨s2,0,none⟩) n c2))) 0
 have hrow8a:((((w.setCell ⟨c,0,none⟩ (.int .u64 (La:Int))).drewN (nq+nq0)).setCell ⟨c,1,none⟩ (.slice (some ⟨s2,0,none⟩) n c2)).drewN nq1).rowIs s 29 cs (fun i=>WV (g i)):=
  rowIs_drewN (((R.out.hs.setOther (a:=⟨c,0,none⟩) HSC.out (.int .u64 (La:Int))).setOther (a:=⟨c,1,none⟩) HSC.out (.slice (some ⟨s2,0,none⟩) n c2))) 0
 have hfr8:Fr (fun r=>r=c\/r=s2) w ((((w.setCell ⟨c,0,none⟩ (.int .u64 (La:Int))).drewN (nq+nq0)).setCell ⟨c,1,none⟩ (.slice (some ⟨s2,0,none⟩) n c2)).drewN nq1):=
  ((((Fr.refl _ _).setCell (.inl (.inl rfl)) _).drewN _).setCell (.inl (.inl rfl)) _).drewN _
 have hb8:((((w.setCell ⟨c,0,none⟩ (.int .u64 (La:Int))).drewN (nq+nq0)).setCell ⟨c,1,none⟩ (.slice (some ⟨s2,0,none⟩) n c2)).drewN nq1).heap[c]? =some (.cells #[.int .u64 (La:Int),.slice (some ⟨s2,0,none⟩) n c2] 75 (0,0)):=
  hp_upd1 _ (hp_upd0 _ R2.out.hb)
 generalize (((w.setCell ⟨c,0,none⟩ (.int .u64 (La:Int))).drewN (nq+nq0)).setCell ⟨c,1,none⟩ (.slice (some ⟨s2,0,none⟩) n c2)).drewN nq1=w8 at*
 obtain ⟨w9,hcp,hrow9,hfr9⟩:=copy33 w8 3 s2 0 s 0 n c2 n cs c2 cs n g2 g hrow8 hrow8a HMI.out (by omega) (by omega)
 have HR9:=Lib.hid hrow9;have HF9:=Lib.hid hfr9;have HF8:=Lib.hid hfr8;have HB8:=Lib.hid hb8;clear hrow9 hfr9 hfr8 hb8 hrow8 hrow8a h0 h1 f0 f1
 go_wp2
 go_end0
 have hN:=HN.out
 have hN2:=HN2.out
 subst hN
 exact cpf_fin c s2 c2 La _ g g2 m w w8 w9 HG.out HM.out hl HCAP.out R2.out.hc R2.out.ne (by rintro r (rfl|rfl);exact .inl (.inl rfl);exact .inl (.inr rfl)) HF8.out HB8.out HR9.out HF9.out
theorem cpf_grow(a c s cs La c2 Lc n2:Nat)(oc:Option Addr)(g:Nat->BitVec 64)(m:Nat->Bool)(w:World)(r:RS w a s La cs g)(hb:w.heap[c]? =some (.cells #[.int .u64 (Lc:Int),.slice oc n2 c2] 75 (0,0)))
  (hg:∀i,i<nw La->g i=pk m i) (hm:∀i,La<=i->m i=false) (hca:¬c=a) (hsc:s≠c) (hL:0<La) (hcap:c2<nw La):
  Calls Tryz.prog 34 #[.pointer (some ⟨a,0,none⟩),.pointer (some ⟨c,0,none⟩)] w (MutA w c (.slice oc n2 c2) La m (.tuple #[])):=by
 have hac:¬a=c:=fun e=>hca e.symm
 have hl:=r.hl
 have h0:=r.h0
 have h1:=r.h1
 have c0:=hp_cell hb 0 (v:= .int .u64 Lc) rfl
 have c1:=hp_cell hb 1 (v:= .slice oc n2 c2) rfl
 have f0:=hp_free hb 0
 have f1:=hp_free hb 1
 have hcn:=r.hn
 have hlt0:=hp_lt hb
 have hlt1:=hp_lt r.hb
 have hne1:¬c=w.heap.size:=by omega
 have hne2:¬a=w.heap.size:=by omega
 have hcn2:=hcap
 obtain ⟨n,hn⟩:∃n,n=nw La:=⟨_,rfl⟩
 rw [<- hn]at h1 hcn hcn2
 have hz:¬n=0:=by unfold nw at hn;omega
 have hnb:n<=1000:=by unfold nw at hn;omega
 have hlt:decide (c2<n)=true:=by simp;omega
 have hmin:n=Nat.min n n:=(Nat.min_self n).symm
 have hmk:=make33 (n:Int) (n:Int) (by omega) (by omega) (by omega)
 rw [Int.toNat_natCast]at hmk
 have R:=Lib.hid r;have HB:=Lib.hid hb;have HG:=Lib.hid hg;have HM:=Lib.hid hm;have HN:=Lib.hid hn;have HC:=Lib.hid hcn;have HMI:=Lib.hid hmin;have HCAP:=Lib.hid hcap;have HSC:=Lib.hid hsc
 clear r hb hg hm hn hmin hcap hsc
 go_enter Tryz.func34,Tryz.ntmps34
 go_wp2
 go_quiet (fail)
 go_wp2
 refine wp_region_quiet_tail 8 (by kernel_rfl) (by kernel_rfl) ?_
 simp only [List.take_succ_cons,List.take_zero,List.drop_succ_cons,List.drop_zero]
 repeat (go_big_quiet_step (fail))
 refine wpQuiet_nil ?_
 intro _ ⟨nq1,hw'⟩
 subst hw'
 have hsz:(((w.setCell ⟨c,0,none⟩ (.int .u64 (La:Int))).drewN nq).setCell ⟨c,1,none⟩ (.slice (some ⟨w.heap.size,0,none⟩) n n)).heap.size=w.heap.size:=by simp
 have hrow8:(((((w.setCell ⟨c,0,none⟩ (.int .u64 (La:Int))).drewN nq).setCell ⟨c,1,none⟩ (.slice (some ⟨w.heap.size,0,none⟩) n n)).alloc (.cells (madeCells #[.int .u64 0] n) 29)).drewN nq1).rowIs w.heap.size 29 n (fun _=>WV 0):=by
  have:=row_made (((w.setCell ⟨c,0,none⟩ (.int .u64 (La:Int))).drewN nq).setCell ⟨c,1,none⟩ (.slice (some ⟨w.heap.size,0,none⟩) n n)) n
  rw [hsz]at this
  exact rowIs_drewN this nq1
 have hrow8a:(((((w.setCell ⟨c,0,none⟩ (.int .u64 (La:Int))).drewN nq).setCell ⟨c,1,none⟩ (.slice (some ⟨w.heap.size,0,none⟩) n n)).alloc (.cells (madeCells #[.int .u64 0] n) 29)).drewN nq1).rowIs s 29 cs (fun i=>WV (g i)):=
  rowIs_drewN (World.rowIs.alloc (rowIs_drewN (((R.out.hs.setOther (a:=⟨c,0,none⟩) HSC.out (.int .u64 (La:Int))).setOther (a:=⟨c,1,none⟩) HSC.out (.slice (some ⟨w.heap.size,0,none⟩) n n))) 0) _) 0
 have hfr8:Fr (fun r=>r=c\/r=w.heap.size) w (((((w.setCell ⟨c,0,none⟩ (.int .u64 (La:Int))).drewN nq).setCell ⟨c,1,none⟩ (.slice (some ⟨w.heap.size,0,none⟩) n n)).alloc (.cells (madeCells #[.int .u64 0] n) 29)).drewN nq1):=
  (((((Fr.refl _ _).setCell (.inl (.inl rfl)) _).drewN _).setCell (.inl (.inl rfl)) _).alloc _).drewN _
 have hb8:(((((w.setCell ⟨c,0,none⟩ (.int .u64 (La:Int))).drewN nq).setCell ⟨c,1,none⟩ (.slice (some ⟨w.heap.size,0,none⟩) n n)).alloc (.cells (madeCells #[.int .u64 0] n) 29)).drewN nq1).heap[c]? =some (.cells #[.int .u64 (La:Int),.slice (some ⟨w.heap.size,0,none⟩) n n] 75 (0,0)):=
  (hp_alloc (((w.setCell ⟨c,0,none⟩ (.int .u64 (La:Int))).drewN nq).setCell ⟨c,1,none⟩ (.slice (some ⟨w.heap.size,0,none⟩) n n)) _ (by rw [hsz];exact hlt0)).trans (hp_upd1 _ (hp_upd0 _ HB.out))
 generalize ((((w.setCell ⟨c,0,none⟩ (.int .u64 (La:Int))).drewN nq).setCell ⟨c,1,none⟩ (.slice (some ⟨w.heap.size,0,none⟩) n n)).alloc (.cells (madeCells #[.int .u64 0] n) 29)).drewN nq1=w8 at*
 obtain ⟨w9,hcp,hrow9,hfr9⟩:=copy33 w8 3 w.heap.size 0 s 0 n n n cs n cs n (fun _=>0) g hrow8 hrow8a HMI.out (by omega) (by omega)
 have HR9:=Lib.hid hrow9;have HF9:=Lib.hid hfr9;have HF8:=Lib.hid hfr8;have HB8:=Lib.hid hb8;clear hrow9 hfr9 hfr8 hb8 hrow8 hrow8a h0 h1 f0 f1
 go_wp2
 go_end0
 have hN:=HN.out
 subst hN
 exact cpf_fin c _ _ La _ g (fun _=>0) m w w8 w9 HG.out HM.out hl (Nat.le_refl _) (by omega) (fun e=>hne1 e.symm) (by rintro r (rfl|rfl);exact .inl (.inl rfl);exact .inr (Nat.le_refl _)) HF8.out HB8.out HR9.out HF9.out
theorem cpf_zero(a c Lc:Nat)(va vc:Value)(ma mc:Nat->Bool)(w:World)(hca:¬c=a)(ha:BA w a va 0 ma)(hc:BA w c vc Lc mc):
  Calls Tryz.prog 34 #[.pointer (some ⟨a,0,none⟩),.pointer (some ⟨c,0,none⟩)] w (MutA w c vc 0 ma (.tuple #[])):=by
 obtain ⟨oa,ca,rfl⟩:=ha.zeroLen
 have h0:=hp_cell ha.2.blk 0 (v:= .int .u64 ((0:Nat):Int)) rfl
 have h1:=hp_cell ha.2.blk 1 (v:= .slice oa 0 ca) rfl
 have f0:=hp_free hc.2.blk 0
 have f1:=hp_free hc.2.blk 1
 have hma:=ha.1
 have HMA:=Lib.hid hma;clear hma
 have hac:¬a=c:=fun e=>hca e.symm
 have hb:=hc.2.blk
 have c0:=hp_cell hb 0 (v:= .int .u64 Lc) rfl
 rcases hc.cases with ⟨rfl,rfl⟩|⟨s2,c2,g2,rfl,r2,hg2,hm2⟩
 ·have c1:=hp_cell hb 1 (v:= .slice none 0 0) rfl
  have HB:=Lib.hid hb;clear ha hc hb
  go_enter Tryz.func34,Tryz.ntmps34
  go_wp2
  go_end0
  exact ⟨rfl,_,⟨HMA.out,hp_upd0 _ HB.out,by omega,.inl ⟨rfl,rfl⟩⟩,⟨(Fr.refl _ _).setCell (.inl (.inl rfl)) _,.inl rfl⟩⟩
 ·have c1:=r2.h1
  have HB:=Lib.hid hb;have R2:=Lib.hid r2;clear ha hc hb r2 hg2 hm2
  go_enter Tryz.func34,Tryz.ntmps34
  go_wp2
  go_end0
  refine ⟨rfl,.slice (some ⟨s2,0,none⟩) 0 c2,⟨HMA.out,hp_upd1 _ (hp_upd0 _ HB.out),by omega,.inr ⟨s2,c2,rfl,R2.out.ne,by simp [nw],R2.out.hc,g2,((R2.out.hs.setOther (a:=⟨c,0,none⟩) R2.out.ne _).setOther (a:=⟨c,1,none⟩) R2.out.ne _),fun i hi=>by simp [nw]at hi⟩⟩,⟨((Fr.refl _ _).setCell (.inl (.inl rfl)) _).setCell (.inl (.inl rfl)) _,.inl rfl⟩⟩
theorem cpf_zero_same(a:Nat)(va:Value)(ma:Nat->Bool)(w:World)(ha:BA w a va 0 ma):
  Calls Tryz.prog 34 #[.pointer (some ⟨a,0,none⟩),.pointer (some ⟨a,0,none⟩)] w (MutA w a va 0 ma (.tuple #[])):=by
 have h0:=hp_cell ha.2.blk 0 (v:= .int .u64 ((0:Nat):Int)) rfl
 have f0:=hp_free ha.2.blk 0
 have f1:=hp_free ha.2.blk 1
 have hma:=ha.1
 have HMA:=Lib.hid hma;clear hma
 have hb:=ha.2.blk
 rcases ha.cases with ⟨_,rfl⟩|⟨s2,c2,g2,rfl,r2,hg2,hm2⟩
 ·have c1:=hp_cell hb 1 (v:= .slice none 0 0) rfl
  have HB:=Lib.hid hb;clear ha hb
  go_enter Tryz.func34,Tryz.ntmps34
  go_wp2
  go_end0
  exact ⟨rfl,_,⟨HMA.out,hp_upd0 _ HB.out,by omega,.inl ⟨rfl,rfl⟩⟩,⟨(Fr.refl _ _).setCell (.inl (.inl rfl)) _,.inl rfl⟩⟩
 ·have c1:w.cell? ⟨a,1,none⟩=some (.slice (some ⟨s2,0,none⟩) 0 c2):=r2.h1
  have HB:=Lib.hid hb;have R2:=Lib.hid r2;clear ha hb r2 hg2 hm2
  go_enter Tryz.func34,Tryz.ntmps34
  go_wp2
  go_end0
  refine ⟨rfl,.slice (some ⟨s2,0,none⟩) 0 c2,⟨HMA.out,hp_upd1 _ (hp_upd0 _ HB.out),by omega,.inr ⟨s2,c2,rfl,R2.out.ne,by simp [nw],R2.out.hc,g2,((R2.out.hs.setOther (a:=⟨a,0,none⟩) R2.out.ne _).setOther (a:=⟨a,1,none⟩) R2.out.ne _),fun i hi=>by simp [nw]at hi⟩⟩,⟨((Fr.refl _ _).setCell (.inl (.inl rfl)) _).setCell (.inl (.inl rfl)) _,.inl rfl⟩⟩
theorem copyFull_c(a c La Lc:Nat)(va vc:Value)(ma mc:Nat->Bool)(w:World)(ha:BA w a va La ma)(hc:BA w c vc Lc mc)(hs:(c=a/\mc=ma)\/Sep c vc a va):
  Calls Tryz.prog 34 #[.pointer (some ⟨a,0,none⟩),.pointer (some ⟨c,0,none⟩)] w (MutA w c vc La ma (.tuple #[])):=by
 rcases Nat.eq_zero_or_pos La with rfl|hLa
 ·rcases hs with ⟨rfl,rfl⟩|hs
  ·obtain ⟨rfl,rfl⟩:=ha.same hc
   exact cpf_zero_same c _ mc w ha
  ·exact cpf_zero a c Lc va vc ma mc w (fun e=>hs c (.inl rfl) (.inl e)) ha hc
 ·rcases hs with ⟨rfl,rfl⟩|hs
  ·obtain ⟨rfl,rfl⟩:=ha.same hc
   exact cpf_same c _ _ mc w ha hLa
  ·obtain ⟨s,cs,g,rfl,r,hg,hm⟩:=ha.rs hLa
   have hca:¬c=a:=fun e=>hs c (.inl rfl) (.inl e)
   have hsc:s≠c:=fun e=>hs c (.inl rfl) (.inr (by rw [e];rfl))
   rcases hc.cases with ⟨rfl,rfl⟩|⟨s2,c2,g2,rfl,r2,hg2,hm2⟩
   ·exact cpf_grow a c s cs La 0 0 0 none g ma w r hc.2.blk hg hm hca hsc hLa (by unfold nw;omega)
   ·by_cases hcap:nw La<=c2
    ·exact cpf_re a c s cs La s2 c2 Lc g g2 ma w r r2 hg hm hs hLa hcap
    ·exact cpf_grow a c s cs La c2 Lc _ _ g ma w r hc.2.blk hg hm hca hsc hLa (by omega)
def beAt(x:BitVec 64)(j:Nat):Value:= .int .u8 (((Lib.beBytes 8 x.toNat).getD j 0).toNat:Int)
theorem list8{l:List UInt8}(h:l.length=8): [l.getD 0 0,l.getD 1 0,l.getD 2 0,l.getD 3 0,l.getD 4 0,l.getD 5 0,l.getD 6 0,l.getD 7 0]=l:=by
 match l,h with
 | [a,b,c,d,e,f,g,h],_=>rfl
theorem be64_c(g o n c:Nat)(x:BitVec 64)(w:World)(hn:8<=n)(hc:∀j,j<8->w.cell? ⟨g,o+j,none⟩=some (beAt x j)):
  Calls Tryz.prog 135 #[.agg #[],.slice (some ⟨g,o,none⟩) n c] w (fun e w'=>e= .returned (WV x)/\Fr (fun _=>False) w w'):=by
 refine (Tryz.binary_BE_Uint64 g o n c _ _ _ _ _ _ _ _ w hn (hc 0 (by omega)) (hc 1 (by omega)) (hc 2 (by omega)) (hc 3 (by omega)) (hc 4 (by omega)) (hc 5 (by omega)) (hc 6 (by omega)) (hc 7 (by omega))).mono ?_
 rintro e w' ⟨rfl,hb⟩
 refine ⟨?_,Fr.ofBelow hb⟩
 rw [list8 (Lib.beBytes_length 8 _),Lib.beNat_beBytes 8 _ x.isLt]
 rfl
def RuP(w:World)(rd q c n:Nat)(f:Nat->BitVec 64)(gq:Nat->Value)(e:Ending)(w':World):Prop:=
 e= .returned .nilIface/\w'.rowIs q 29 c (fun j=>if j<n then WV (f j) else gq j)/\Fr (fun r=>r=q\/r=rd) w w'
theorem readU_none(rd:Nat)(A:Option Addr)(c:Nat)(w:World):
  Calls Tryz.prog 137 #[.iface 126 (.pointer (some ⟨rd,0,none⟩)),.slice A 0 c] w (fun e w'=>e= .returned .nilIface/\Fr (fun _=>False) w w'):=by
 have hmk:=make38 1024 (by omega) w
 rw [show ((1024:Nat):Int)=1024 from rfl]at hmk
 go_enter Tryz.func137,Tryz.ntmps137
 go_wp2
 clear hmk
 have hf0:Fr (fun _=>False) w (w.alloc (.cells (madeCells #[.int .u8 0] 1024) 5)):=(Fr.refl _ w).alloc _
 have HF0:=Lib.hid hf0
 clear hf0
 generalize w.alloc (.cells (madeCells #[.int .u8 0] 1024) 5)=w1 at*
 refine wp_loop_once ?_
 go_wp2
 go_ret
 exact ⟨rfl,HF0.out⟩
theorem readU_c(rd s N cs i q n c:Nat)(xs:Nat->Value)(f:Nat->BitVec 64)(gq:Nat->Value)(w:World)(hn:n<128)(hn0:0<n)(hc:n<=c)(hr:Rdr w rd s N cs i xs)(hi:i+8*n<=N)(hq:w.rowIs q 29 c gq)(hq1:q≠rd)(hq2:q≠s)
  (hx:∀k,k<n->∀j,j<8->xs (i+(8*k+j))=beAt (f k) j):
  Calls Tryz.prog 137 #[.iface 126 (.pointer (some ⟨rd,0,none⟩)),.slice (some ⟨q,0,none⟩) n c] w (RuP w rd q c n f gq):=by
 have hmk:=make38 1024 (by omega) w
 rw [show ((1024:Nat):Int)=1024 from rfl]at hmk
 have hlr:rd<w.heap.size:=by obtain ⟨z,hb⟩:=hr.blk;exact hp_lt hb
 have hls:s<w.heap.size:=block_lt_of_cell (hr.src 0 (by omega))
 have hlq:=hq.lt
 have HR:=Lib.hid hr;have HQ:=Lib.hid hq;have HX:=Lib.hid hx
 clear hr hq hx
 go_enter Tryz.func137,Tryz.ntmps137
 go_wp2
 clear hmk
 have hr0:=World.rowIs_made w (.int .u8 0) 1024 5
 have hf0:Fr (fun _=>False) w (w.alloc (.cells (madeCells #[.int .u8 0] 1024) 5)):=(Fr.refl _ w).alloc _
 have HR0:=Lib.hid hr0;have HF0:=Lib.hid hf0
 clear hr0 hf0
 obtain ⟨g,hg⟩:∃g,g=w.heap.size:=⟨_,rfl⟩
 rw [<- hg]at HR0 ⊢
 have HG:=Lib.hid hg;clear hg
 generalize w.alloc (.cells (madeCells #[.int .u8 0] 1024) 5)=w1 at*
 go_loopw [7,8] (fun x k wr=>(k= .int .i64 0/\x= .slice (some ⟨g,0,none⟩) 1024 1024/\wr=w1)\/(k= .int .i64 128/\RuP w rd q c n f gq (.returned .nilIface) wr)) (fun x k _=>128-(intOf k).toNat)
 case atStart=>exact .inl ⟨rfl,rfl,rfl⟩
 case round=>
  rcases hrel with ⟨rfl,rfl,hw⟩|⟨rfl,hd⟩
  ·obtain rfl:=hw.symm
   have d0:decide ((0:Int)<(n:Int))=true:=by simp;omega
   have d1:decide ((n:Int)<128)=true:=by simp;omega
   have hc0:¬c=0:=by omega
   have i1:(0:Int)<=8*(n:Int)/\8*(n:Int)<=1024:=by omega
   have i2:(8*(n:Int)).toNat=8*n:=by omega
   have CF:=readFull_c rd s N cs i (8*n) 1024 g 5 1024 xs (fun _=> .int .u8 0) w1 (by
    obtain ⟨⟨z,hb⟩,hsrc,hone,hl,hne⟩:=HR.out
    exact ⟨⟨z,(HF0.out.keep rd (hp_lt hb) (fun h=>h)).trans hb⟩,fun j hj=>(HF0.out.cell (a:=⟨s,j,none⟩) (block_lt_of_cell (hsrc j hj)) (fun h=>h)).trans (hsrc j hj),hone,hl,hne⟩) (by omega) (by omega) HR0.out (by omega) (by omega) (by have:=HG.out;omega) (by have:=HG.out;omega)
   have HCF:=Lib.hid CF;clear CF
   go_wp2_with (go_at_call 134;refine HCF.out.mono ?_;rintro e w3 ⟨rfl,h1,h2,h3⟩;refine Hid.out ?_)
   refine Lib.hid ?_
   have hf3:Fr (· =rd) w w3:=(HF0.out.mono (fun r (h:False)=>h.elim)).trans' h3 (fun r hr=>hr.elim (fun e=> .inr (by rw [e,HG.out];exact Nat.le_refl _)) .inl)
   have HG3:=Lib.hid h2;have HF3:=Lib.hid hf3
   have HQ3:=Lib.hid (rowIs_keep HQ.out hf3 hq1)
   clear h1 h2 h3 hf3 i1 i2
   go_wp2
   go_loopw [53] (fun v wx=>∃k:Nat,k<=n/\v= .int .i64 (k:Int)/\wx.rowIs q 29 c (fun j=>if j<k then WV (f j) else gq j)/\wx.rowIs g 5 1024 (fun j=>if j<8*n then xs (i+j) else .int .u8 0)/\Fr (fun r=>r=q\/r=rd) w wx) (fun v _=>n-(intOf v).toNat)
   case atStart=>exact ⟨0,by omega,rfl,HQ3.out.congr (fun j _=>by simp),HG3.out,HF3.out.mono (fun r hr=> .inr hr)⟩
   case round=>
    obtain ⟨k,hk,rfl,h1,h2,h3⟩:=hrel
    have H1:=Lib.hid h1;have H2:=Lib.hid h2;have H3:=Lib.hid h3
    have hgq:g≠q:=by have:=HG.out;omega
    have hqx:q<wr.heap.size:=h1.lt
    clear h1 h2 h3
    by_cases hlt:k<n
    ·obtain ⟨x,hx⟩:∃x,x=f k:=⟨_,rfl⟩
     have CB:∀w',Fr (fun _=>False) wr w'->Calls Tryz.prog 135 #[.agg #[],.slice (some ⟨g,8*k,none⟩) (8*n-8*k) (1024-8*k)] w' (fun e w5=>e= .returned (WV x)/\Fr (fun _=>False) wr w5):=fun w' hf=>by
      refine (be64_c g (8*k) _ _ x w' (by omega) (fun j hj=>?_)).mono fun e w5 h=>⟨h.1,hf.trans h.2⟩
      have hcell:=H2.out.cell (i:=8*k+j) (by omega)
      rw [if_pos (by omega),HX.out k hlt j hj,<- hx]at hcell
      exact (hf.cell (a:=⟨g,8*k+j,none⟩) (block_lt_of_cell hcell) (fun h=>h)).trans hcell
     have HCB:=Lib.hid CB;have HXF:=Lib.hid hx;clear CB hx
     have c0:=H1.out.cell (i:=k) (by omega)
     have z0:=H1.out.frozen k
     rw [if_neg (by omega)]at c0
     have HC0:=Lib.hid c0
     have i3:(0:Int)<=8*(k:Int)/\8*(k:Int)<=8*(n:Int):=by omega
     have i4:(8*(k:Int)).toNat=8*k:=by omega
     have i5:¬1024=8*k:=by omega
     have i6:(0:Int)<=(k:Int)/\(k:Int)<(n:Int):=by omega
     go_wp2
     have i7:IntKind.i64.wrap (8*(k:Int))=8*(k:Int):=IntWalk.i64_in _ (by omega)
     go_region_held3 (fun w'=>True) (trivial) (first
      |(go_at_call 135;refine (HCB.out _ (by repeat (first|exact Fr.refl _ _|apply Fr.drew|apply Fr.drewN|apply Fr.alloc))).mono ?_;rintro e w5 ⟨rfl,hf5⟩;have c5:=(hf5.cell (a:=⟨q,k,none⟩) hqx (fun h=>h)).trans HC0.out;have z5:=(hf5.frozen (a:=⟨q,k,none⟩) hqx (fun h=>h)).trans z0)
      |fail)
     clear i7
     go_wp2
     go_roundw
     case rel=>
      have hs5:Fr (· =q) w5 (w5.setCell ⟨q,k,none⟩ (WV x)):=(Fr.refl (· =q) w5).setCell (a:=⟨q,k,none⟩) (.inl rfl) _
      refine ⟨k+1,by omega,by go_num,((rowIs_keep H1.out hf5 (fun h=>h)).set k (WV x)).congr (fun j _=>?_),rowIs_keep (rowIs_keep H2.out hf5 (fun h=>h)) hs5 hgq,(H3.out.trans (hf5.mono (fun r (h:False)=>h.elim))).trans (hs5.mono (fun r hr=> .inl hr))⟩
      by_cases e:j=k
      ·subst e;rw [if_pos rfl,if_pos (by omega),HXF.out]
      ·rw [if_neg e]
       by_cases e2:j<k
       ·rw [if_pos e2,if_pos (by omega)]
       ·rw [if_neg e2,if_neg (by omega)]
     case measure=>simp [intOf];omega
    ·have hkn:k=n:=by omega
     have HKN:=Lib.hid hkn;clear hkn
     go_wp2
     go_roundw
     case rel=>exact .inr ⟨by go_num,rfl,by rw [<- HKN.out];exact H1.out,H3.out⟩
     case measure=>simp [intOf]
  ·have HD:=Lib.hid hd
   clear hd
   have d0:decide ((128:Int)<(n:Int))=false:=by simp;omega
   go_wp2
   go_ret
   exact HD.out
end Go.Proofs.YtobdfhlmipcjbaaGreatDoor
