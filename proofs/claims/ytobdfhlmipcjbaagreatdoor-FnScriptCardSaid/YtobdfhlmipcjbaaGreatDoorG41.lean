/- laws.step. -/
import Derived.Test.YtobdfhlmipcjbaaGreatDoorG01
import Derived.Test.YtobdfhlmipcjbaaGreatDoorG40
set_option linter.unusedVariables false
set_option linter.unusedSimpArgs false
set_option maxHeartbeats 2000000
set_option maxRecDepth 100000
namespace Go.Proofs.YtobdfhlmipcjbaaGreatDoor
open Go.RowKit
def Known(op:Int):Prop:=(0<=op/\op<=30)\/(40<=op/\op<=64)
def v3(a b c:Int):Nat->Int
 |0=>a
 |1=>b
 |_=>c
def rawO(op a b c:Int)(fr to n:Nat)(wd:BitVec 64)(many:Value):Obj:= .cells #[.int .i64 op,.int .i64 a,.int .i64 b,.int .i64 c,.int .u64 (fr:Int),.int .u64 (to:Int),.int .u64 (n:Int),WV wd,many] 32
def stO(op a b c fr to n:Int)(wd many:Value):Obj:= .cells #[.int .i64 op,.int .i64 a,.int .i64 b,.int .i64 c,.int .i64 fr,.int .i64 to,.int .i64 n,wd,many] 35
structure SpW(w w1:World)(op a b c:Int)(fr to n:Nat)(wd:BitVec 64)(many:Value):Prop where
 p0:w1.heap[w.heap.size]? =some (rawO op a b c fr to n wd many)
 p1:w1.heap[w.heap.size+1]? =some (stO 0 0 0 0 0 0 0 (.int .u64 0) (.slice none 0 0))
 p2:w1.heap[w.heap.size+1+1]? =some (.cells #[.int .i64 a,.int .i64 b,.int .i64 c] 3)
 fr:Fr (fun _=>False) w w1
theorem spMid(op a b c:Int)(fr to n:Nat)(wd:BitVec 64)(many:Value)(w:World):
  ∃w1,((w.alloc (rawO op a b c fr to n wd many)).alloc (stO 0 0 0 0 0 0 0 (.int .u64 0) (.slice none 0 0))).alloc (.cells #[.int .i64 a,.int .i64 b,.int .i64 c] 3)=w1/\Hid (SpW w w1 op a b c fr to n wd many):=by
 have h1:=hp_new (w.alloc (rawO op a b c fr to n wd many)) (stO 0 0 0 0 0 0 0 (.int .u64 0) (.slice none 0 0))
 have h2:=hp_new ((w.alloc (rawO op a b c fr to n wd many)).alloc (stO 0 0 0 0 0 0 0 (.int .u64 0) (.slice none 0 0))) (.cells #[.int .i64 a,.int .i64 b,.int .i64 c] 3)
 rw [World.size_alloc]at h1
 rw [World.size_alloc,World.size_alloc]at h2
 exact ⟨_,rfl,alloc_at (alloc_at (hp_new w _) _) _,alloc_at h1 _,h2,(((Fr.refl _ w).alloc _).alloc _).alloc _⟩
theorem SpW.vals{w w1:World}{op a b c:Int}{fr to n:Nat}{wd:BitVec 64}{many:Value}(h:SpW w w1 op a b c fr to n wd many)(k:Nat)(hk:k<3):w1.cell? ⟨w.heap.size+1+1,k,none⟩=some (.int .i64 (v3 a b c k)):=by
 rcases k with _|_|_|k
 ·exact hp_cell h.p2 0 rfl
 ·exact hp_cell h.p2 1 rfl
 ·exact hp_cell h.p2 2 rfl
 ·omega
theorem set9{w:World}{p:Nat}{x0 x1 x2 x3 x4 x5 x6 x7 x8:Value}{t:TypeId}(y0 y1 y2 y3 y4 y5 y6 y7 y8:Value)(h:w.heap[p]? =some (.cells #[x0,x1,x2,x3,x4,x5,x6,x7,x8] t (0,0))):
  (((((((((w.setCell ⟨p,0,none⟩ y0).setCell ⟨p,1,none⟩ y1).setCell ⟨p,2,none⟩ y2).setCell ⟨p,3,none⟩ y3).setCell ⟨p,4,none⟩ y4).setCell ⟨p,5,none⟩ y5).setCell ⟨p,6,none⟩ y6).setCell ⟨p,7,none⟩ y7).setCell ⟨p,8,none⟩ y8).heap[p]? =some (.cells #[y0,y1,y2,y3,y4,y5,y6,y7,y8] t (0,0)):=by
 have h0:(World.setCell _ ⟨p,0,none⟩ y0).heap[p]? =some (.cells #[y0,x1,x2,x3,x4,x5,x6,x7,x8] t (0,0)):=hp_same _ p 0 y0 h
 have h1:(World.setCell _ ⟨p,1,none⟩ y1).heap[p]? =some (.cells #[y0,y1,x2,x3,x4,x5,x6,x7,x8] t (0,0)):=hp_same _ p 1 y1 h0
 have h2:(World.setCell _ ⟨p,2,none⟩ y2).heap[p]? =some (.cells #[y0,y1,y2,x3,x4,x5,x6,x7,x8] t (0,0)):=hp_same _ p 2 y2 h1
 have h3:(World.setCell _ ⟨p,3,none⟩ y3).heap[p]? =some (.cells #[y0,y1,y2,y3,x4,x5,x6,x7,x8] t (0,0)):=hp_same _ p 3 y3 h2
 have h4:(World.setCell _ ⟨p,4,none⟩ y4).heap[p]? =some (.cells #[y0,y1,y2,y3,y4,x5,x6,x7,x8] t (0,0)):=hp_same _ p 4 y4 h3
 have h5:(World.setCell _ ⟨p,5,none⟩ y5).heap[p]? =some (.cells #[y0,y1,y2,y3,y4,y5,x6,x7,x8] t (0,0)):=hp_same _ p 5 y5 h4
 have h6:(World.setCell _ ⟨p,6,none⟩ y6).heap[p]? =some (.cells #[y0,y1,y2,y3,y4,y5,y6,x7,x8] t (0,0)):=hp_same _ p 6 y6 h5
 have h7:(World.setCell _ ⟨p,7,none⟩ y7).heap[p]? =some (.cells #[y0,y1,y2,y3,y4,y5,y6,y7,x8] t (0,0)):=hp_same _ p 7 y7 h6
 have h8:(World.setCell _ ⟨p,8,none⟩ y8).heap[p]? =some (.cells #[y0,y1,y2,y3,y4,y5,y6,y7,y8] t (0,0)):=hp_same _ p 8 y8 h7
 exact h8
theorem sp9{w w3:World}{x0 x1 x2 x3 x4 x5 x6 x7 x8:Value}{t:TypeId}(hp:w3.heap[w.heap.size+1]? =some (.cells #[x0,x1,x2,x3,x4,x5,x6,x7,x8] t (0,0)))(y0 y1 y2 y3 y4 y5 y6 y7 y8:Value):
  ∃w4,(((((((((w3.setCell ⟨w.heap.size+1,0,none⟩ y0).setCell ⟨w.heap.size+1,1,none⟩ y1).setCell ⟨w.heap.size+1,2,none⟩ y2).setCell ⟨w.heap.size+1,3,none⟩ y3).setCell ⟨w.heap.size+1,4,none⟩ y4).setCell ⟨w.heap.size+1,5,none⟩ y5).setCell ⟨w.heap.size+1,6,none⟩ y6).setCell ⟨w.heap.size+1,7,none⟩ y7).setCell ⟨w.heap.size+1,8,none⟩ y8)=w4/\w4.cell? ⟨w.heap.size+1,0,none⟩=some y0/\w4.cell? ⟨w.heap.size+1,1,none⟩=some y1/\w4.cell? ⟨w.heap.size+1,2,none⟩=some y2/\w4.cell? ⟨w.heap.size+1,3,none⟩=some y3/\w4.cell? ⟨w.heap.size+1,4,none⟩=some y4/\w4.cell? ⟨w.heap.size+1,5,none⟩=some y5/\w4.cell? ⟨w.heap.size+1,6,none⟩=some y6/\w4.cell? ⟨w.heap.size+1,7,none⟩=some y7/\w4.cell? ⟨w.heap.size+1,8,none⟩=some y8/\Hid (Fr (fun r=>r=w.heap.size+1) w3 w4):=by
 have hp4:=set9 y0 y1 y2 y3 y4 y5 y6 y7 y8 hp
 have h1:(fun r=>r=w.heap.size+1) (w.heap.size+1)\/w3.heap.size<=w.heap.size+1:= .inl rfl
 have hf:=((((((((((Fr.refl (fun r=>r=w.heap.size+1) w3).setCell (a:=⟨w.heap.size+1,0,none⟩) h1 y0).setCell (a:=⟨w.heap.size+1,1,none⟩) h1 y1).setCell (a:=⟨w.heap.size+1,2,none⟩) h1 y2).setCell (a:=⟨w.heap.size+1,3,none⟩) h1 y3).setCell (a:=⟨w.heap.size+1,4,none⟩) h1 y4).setCell (a:=⟨w.heap.size+1,5,none⟩) h1 y5).setCell (a:=⟨w.heap.size+1,6,none⟩) h1 y6).setCell (a:=⟨w.heap.size+1,7,none⟩) h1 y7).setCell (a:=⟨w.heap.size+1,8,none⟩) h1 y8)
 exact ⟨_,rfl,hp_cell hp4 0 rfl,hp_cell hp4 1 rfl,hp_cell hp4 2 rfl,hp_cell hp4 3 rfl,hp_cell hp4 4 rfl,hp_cell hp4 5 rfl,hp_cell hp4 6 rfl,hp_cell hp4 7 rfl,hp_cell hp4 8 rfl,hf⟩
def Vld(op a b c:Int)(fr to n M:Nat):Prop:=(0<=a/\a<=3)/\(0<=b/\b<=3)/\(0<=c/\c<=3)/\Known op/\fr<=2000/\to<=2000/\n<=2000/\M<=20
abbrev zSt:Value:= .agg #[.int .i64 0,.int .i64 0,.int .i64 0,.int .i64 0,.int .i64 0,.int .i64 0,.int .i64 0,.int .u64 0,.slice none 0 0]
def StpP(w:World)(op a b c:Int)(fr to n M:Nat)(wd:BitVec 64)(ws:List (BitVec 64))(e:Ending)(w':World):Prop:=
 Fr (fun _=>False) w w'/\(e= .returned (.tuple #[zSt,.bool false])\/
  (Vld op a b c fr to n M/\∃v,e= .returned (.tuple #[.agg #[.int .i64 op,.int .i64 a,.int .i64 b,.int .i64 c,.int .i64 (fr:Int),.int .i64 (to:Int),.int .i64 (n:Int),WV wd,v],.bool true])/\Lst w' 29 1 v M (ws.map WV)/\∀r,v.ownBlock=some r->w.heap.size<=r))
theorem stp_no{w w':World}{op a b c:Int}{fr to n M:Nat}{wd:BitVec 64}{ws:List (BitVec 64)}(h:Fr (fun _=>False) w w'):StpP w op a b c fr to n M wd ws (.returned (.tuple #[zSt,.bool false])) w':=⟨h,.inl rfl⟩
theorem stp_yes{w w1 wr w4:World}{op a b c:Int}{fr to n M:Nat}{wd:BitVec 64}{ws:List (BitVec 64)}{v:Value}(hv:Vld op a b c fr to n M)(hr:Lst wr 29 1 v M (ws.map WV))(hf:Fr (fun _=>False) w wr)(hg:Fr (fun r=>r=w.heap.size+1) wr w4)(hl:w.heap.size+1<w1.heap.size)
  (ho:∀r,v.ownBlock=some r->w1.heap.size+1<=r):StpP w op a b c fr to n M wd ws (.returned (.tuple #[.agg #[.int .i64 op,.int .i64 a,.int .i64 b,.int .i64 c,.int .i64 (fr:Int),.int .i64 (to:Int),.int .i64 (n:Int),WV wd,v],.bool true])) w4:=
 ⟨hf.trans' hg (fun r hr=> .inr (by have hr:r=_:=hr;omega)),.inr ⟨hv,v,rfl,hr.keep hg (fun r hr e=>by have:=ho r hr;have e:r=_:=e;omega),fun r hr=>by have:=ho r hr;omega⟩⟩
theorem stp_c(op a b c:Int)(fr to n M cM:Nat)(o:Option Addr)(wd:BitVec 64)(ws:List (BitVec 64))(w:World)(hM0:M=ws.length)(hs:Src w 1 (.slice o M cM) M (ws.map WV)):
  Calls Tryz.prog 5 #[rawV op a b c fr to n wd (.slice o M cM)] w (StpP w op a b c fr to n M wd ws):=by
 have HS:=Lib.hid hs;have HM0:=Lib.hid hM0;clear hs hM0
 unfold rawV
 go_enter Tryz.func5,Tryz.ntmps5
 go_wp2
 obtain ⟨w1,hw1,HW⟩:=spMid op a b c fr to n wd (.slice o M cM) w
 unfold rawO stO at hw1
 rw [hw1];clear hw1
 go_loopw [5,18] (fun x i wr=>∃(k:Nat),k<=3/\i= .int .i64 (k:Int)/\wr=w1/\∀j,j<k->0<=v3 a b c j/\v3 a b c j<=3) (fun x i _=>3-(intOf i).toNat)
 case atStart=>exact ⟨0,by omega,rfl,rfl,fun j hj=>by omega⟩
 case round=>
  obtain ⟨k,hk,rfl,hw,hv⟩:=hrel
  obtain rfl:=hw.symm
  by_cases hlt:k<3
  ·have d3:decide ((k:Int)<3)=true:=by simp;omega
   have hcell:=HW.out.vals k hlt
   have HV:=Lib.hid hv;clear hv
   generalize hy:v3 a b c k=y at*
   have HY:=Lib.hid hy;clear hy
   by_cases h1:0<=y/\y<=3
   ·have d1:decide (y<0)=false:=by simp;omega
    have d2:decide (3<y)=false:=by simp;omega
    have H1:=Lib.hid h1;clear h1
    go_wp2
    go_roundw
    case rel=>exact ⟨k+1,by omega,by go_num,trivial,fun j hj=>by
     by_cases e:j<k
     ·exact HV.out j e
     ·have e:j=k:=by omega
      rw [e,HY.out];exact H1.out⟩
    case measure=>simp [intOf];omega
   ·have HN:=Lib.hid h1;clear h1
    have q0:=hp_cell HW.out.p1 0 rfl;have q1:=hp_cell HW.out.p1 1 rfl;have q2:=hp_cell HW.out.p1 2 rfl;have q3:=hp_cell HW.out.p1 3 rfl;have q4:=hp_cell HW.out.p1 4 rfl;have q5:=hp_cell HW.out.p1 5 rfl;have q6:=hp_cell HW.out.p1 6 rfl;have q7:=hp_cell HW.out.p1 7 rfl;have q8:=hp_cell HW.out.p1 8 rfl
    have f0:=hp_free HW.out.p1 0;have f1:=hp_free HW.out.p1 1;have f2:=hp_free HW.out.p1 2;have f3:=hp_free HW.out.p1 3;have f4:=hp_free HW.out.p1 4;have f5:=hp_free HW.out.p1 5;have f6:=hp_free HW.out.p1 6;have f7:=hp_free HW.out.p1 7;have f8:=hp_free HW.out.p1 8
    by_cases h2:y<0
    ·have d1:decide (y<0)=true:=by simp;omega
     go_wp2
     clear q0 q1 q2 q3 q4 q5 q6 q7 q8 f0 f1 f2 f3 f4 f5 f6 f7 f8
     obtain ⟨w4,hw4,e0,e1,e2,e3,e4,e5,e6,e7,e8,HG⟩:=sp9 (w:=w) HW.out.p1 (.int .i64 0) (.int .i64 0) (.int .i64 0) (.int .i64 0) (.int .i64 0) (.int .i64 0) (.int .i64 0) (.int .u64 0) (.slice none 0 0)
     rw [hw4];clear hw4
     simp [bodyPost,results,Tryz.f5,go_sem,e0,e1,e2,e3,e4,e5,e6,e7,e8]
     exact stp_no (HW.out.fr.trans' HG.out (fun r hr=> .inr (by have hr:r=_:=hr;omega)))
    ·have d1:decide (y<0)=false:=by simp;omega
     have d2:decide (3<y)=true:=by have:=HN.out;simp;omega
     go_wp2
     clear q0 q1 q2 q3 q4 q5 q6 q7 q8 f0 f1 f2 f3 f4 f5 f6 f7 f8
     obtain ⟨w4,hw4,e0,e1,e2,e3,e4,e5,e6,e7,e8,HG⟩:=sp9 (w:=w) HW.out.p1 (.int .i64 0) (.int .i64 0) (.int .i64 0) (.int .i64 0) (.int .i64 0) (.int .i64 0) (.int .i64 0) (.int .u64 0) (.slice none 0 0)
     rw [hw4];clear hw4
     simp [bodyPost,results,Tryz.f5,go_sem,e0,e1,e2,e3,e4,e5,e6,e7,e8]
     exact stp_no (HW.out.fr.trans' HG.out (fun r hr=> .inr (by have hr:r=_:=hr;omega)))
  ·have hkk:k=3:=by omega
   subst hkk
   have HV3:=Lib.hid hv
   have b0:=hp_cell HW.out.p0 0 rfl;have b1:=hp_cell HW.out.p0 1 rfl;have b2:=hp_cell HW.out.p0 2 rfl;have b3:=hp_cell HW.out.p0 3 rfl;have b4:=hp_cell HW.out.p0 4 rfl;have b5:=hp_cell HW.out.p0 5 rfl;have b6:=hp_cell HW.out.p0 6 rfl;have b7:=hp_cell HW.out.p0 7 rfl;have b8:=hp_cell HW.out.p0 8 rfl
   clear hv
   have q0:=hp_cell HW.out.p1 0 rfl;have q1:=hp_cell HW.out.p1 1 rfl;have q2:=hp_cell HW.out.p1 2 rfl;have q3:=hp_cell HW.out.p1 3 rfl;have q4:=hp_cell HW.out.p1 4 rfl;have q5:=hp_cell HW.out.p1 5 rfl;have q6:=hp_cell HW.out.p1 6 rfl;have q7:=hp_cell HW.out.p1 7 rfl;have q8:=hp_cell HW.out.p1 8 rfl
   have f0:=hp_free HW.out.p1 0;have f1:=hp_free HW.out.p1 1;have f2:=hp_free HW.out.p1 2;have f3:=hp_free HW.out.p1 3;have f4:=hp_free HW.out.p1 4;have f5:=hp_free HW.out.p1 5;have f6:=hp_free HW.out.p1 6;have f7:=hp_free HW.out.p1 7;have f8:=hp_free HW.out.p1 8
   by_cases g0:op<0
   ·have t0:decide (0<=op)=false:=by simp;omega
    have t40:decide (40<=op)=false:=by simp;omega
    go_wp2
    clear q0 q1 q2 q3 q4 q5 q6 q7 q8 f0 f1 f2 f3 f4 f5 f6 f7 f8
    obtain ⟨w4,hw4,e0,e1,e2,e3,e4,e5,e6,e7,e8,HG⟩:=sp9 (w:=w) HW.out.p1 (.int .i64 0) (.int .i64 0) (.int .i64 0) (.int .i64 0) (.int .i64 0) (.int .i64 0) (.int .i64 0) (.int .u64 0) (.slice none 0 0)
    rw [hw4];clear hw4
    simp [bodyPost,results,Tryz.f5,go_sem,e0,e1,e2,e3,e4,e5,e6,e7,e8]
    exact stp_no (HW.out.fr.trans' HG.out (fun r hr=> .inr (by have hr:r=_:=hr;omega)))
   have t0:decide (0<=op)=true:=by simp;omega
   by_cases g1:op<=30
   ·have t30:decide (op<=30)=true:=by simp;omega
    have HK:Hid (Known op):= .inl ⟨by omega,g1⟩
    by_cases gfr:2000<fr
    ·have dfr:decide ((2000:Int)<(fr:Int))=true:=by simp;omega
     go_wp2
     clear q0 q1 q2 q3 q4 q5 q6 q7 q8 f0 f1 f2 f3 f4 f5 f6 f7 f8
     obtain ⟨w4,hw4,e0,e1,e2,e3,e4,e5,e6,e7,e8,HG⟩:=sp9 (w:=w) HW.out.p1 (.int .i64 0) (.int .i64 0) (.int .i64 0) (.int .i64 0) (.int .i64 0) (.int .i64 0) (.int .i64 0) (.int .u64 0) (.slice none 0 0)
     rw [hw4];clear hw4
     simp [bodyPost,results,Tryz.f5,go_sem,e0,e1,e2,e3,e4,e5,e6,e7,e8]
     exact stp_no (HW.out.fr.trans' HG.out (fun r hr=> .inr (by have hr:r=_:=hr;omega)))
    have dfr:decide ((2000:Int)<(fr:Int))=false:=by simp;omega
    by_cases gto:2000<to
    ·have dto:decide ((2000:Int)<(to:Int))=true:=by simp;omega
     go_wp2
     clear q0 q1 q2 q3 q4 q5 q6 q7 q8 f0 f1 f2 f3 f4 f5 f6 f7 f8
     obtain ⟨w4,hw4,e0,e1,e2,e3,e4,e5,e6,e7,e8,HG⟩:=sp9 (w:=w) HW.out.p1 (.int .i64 0) (.int .i64 0) (.int .i64 0) (.int .i64 0) (.int .i64 0) (.int .i64 0) (.int .i64 0) (.int .u64 0) (.slice none 0 0)
     rw [hw4];clear hw4
     simp [bodyPost,results,Tryz.f5,go_sem,e0,e1,e2,e3,e4,e5,e6,e7,e8]
     exact stp_no (HW.out.fr.trans' HG.out (fun r hr=> .inr (by have hr:r=_:=hr;omega)))
    have dto:decide ((2000:Int)<(to:Int))=false:=by simp;omega
    by_cases gn:2000<n
    ·have dn:decide ((2000:Int)<(n:Int))=true:=by simp;omega
     go_wp2
     clear q0 q1 q2 q3 q4 q5 q6 q7 q8 f0 f1 f2 f3 f4 f5 f6 f7 f8
     obtain ⟨w4,hw4,e0,e1,e2,e3,e4,e5,e6,e7,e8,HG⟩:=sp9 (w:=w) HW.out.p1 (.int .i64 0) (.int .i64 0) (.int .i64 0) (.int .i64 0) (.int .i64 0) (.int .i64 0) (.int .i64 0) (.int .u64 0) (.slice none 0 0)
     rw [hw4];clear hw4
     simp [bodyPost,results,Tryz.f5,go_sem,e0,e1,e2,e3,e4,e5,e6,e7,e8]
     exact stp_no (HW.out.fr.trans' HG.out (fun r hr=> .inr (by have hr:r=_:=hr;omega)))
    have dn:decide ((2000:Int)<(n:Int))=false:=by simp;omega
    by_cases gM:20<M
    ·have dM:decide ((20:Int)<(M:Int))=true:=by simp;omega
     go_wp2
     clear q0 q1 q2 q3 q4 q5 q6 q7 q8 f0 f1 f2 f3 f4 f5 f6 f7 f8
     obtain ⟨w4,hw4,e0,e1,e2,e3,e4,e5,e6,e7,e8,HG⟩:=sp9 (w:=w) HW.out.p1 (.int .i64 0) (.int .i64 0) (.int .i64 0) (.int .i64 0) (.int .i64 0) (.int .i64 0) (.int .i64 0) (.int .u64 0) (.slice none 0 0)
     rw [hw4];clear hw4
     simp [bodyPost,results,Tryz.f5,go_sem,e0,e1,e2,e3,e4,e5,e6,e7,e8]
     exact stp_no (HW.out.fr.trans' HG.out (fun r hr=> .inr (by have hr:r=_:=hr;omega)))
    have dM:decide ((20:Int)<(M:Int))=false:=by simp;omega
    have hfr:fr<=2000:=by omega
    have hto:to<=2000:=by omega
    have hn:n<=2000:=by omega
    have hM:M<=20:=by omega
    clear gfr gto gn gM
    clear q0 q1 q2 q3 q4 q5 q6 q7 q8 f0 f1 f2 f3 f4 f5 f6 f7 f8
    have HVV:Hid (Vld op a b c fr to n M):=⟨HV3.out 0 (by omega),HV3.out 1 (by omega),HV3.out 2 (by omega),HK.out,hfr,hto,hn,hM⟩
    have hl1:=hp_lt HW.out.p0
    have hl2:¬w.heap.size=w1.heap.size:=by omega
    have hp7:=hp_new w1 (stO op a b c (fr:Int) (to:Int) (n:Int) (WV wd) (.slice none 0 0))
    have HP7:=Lib.hid hp7;clear hp7
    go_wp2
    clear b0 b1 b2 b3 b4 b5 b6 b7 b8
    obtain ⟨i0,hi0,hz0,hz1,hz2⟩:=info_parts info29
    go_loopw [95] (fun i wr=>∃(k:Nat) (v:Value),k<=M/\i= .int .i64 (k:Int)/\wr.heap[w1.heap.size]? =some (stO op a b c (fr:Int) (to:Int) (n:Int) (WV wd) v)/\wr.heap[w.heap.size+1]? =some (stO 0 0 0 0 0 0 0 (.int .u64 0) (.slice none 0 0))/\Lst wr 29 1 v k ((ws.take k).map WV)/\Fr (fun _=>False) w wr/\∀r,v.ownBlock=some r->w1.heap.size+1<=r) (fun i _=>M-(intOf i).toNat)
    case atStart=>exact ⟨0,.slice none 0 0,by omega,rfl,HP7.out,alloc_at HW.out.p1 _,Lst.nil _ _ _,HW.out.fr.alloc _,by simp [Value.ownBlock]⟩
    case round=>
     obtain ⟨k,v,hk,rfl,hp7,hp1,hrow,hfr2,hown⟩:=hrel
     obtain ⟨Av,cv,rfl,-⟩:=hrow.src
     by_cases hlt:k<M
     ·obtain ⟨A2,c2,e1,hl,hcc⟩:=HS.out
      cases e1
      obtain ⟨ad,rfl,hcd⟩:=hcc (by omega)
      have hlen:k<ws.length:=by have:=HM0.out;omega
      obtain ⟨y,hy0⟩:∃y,ws[k]? =some y:=⟨_,List.getElem?_eq_getElem hlen⟩
      have hy:(ws.map WV)[k]? =some (WV y):=by simp [hy0]
      have hcell:=(hfr2.cell (a:=ad.add k) (block_lt_of_cell (hcd k _ hy)) (fun h=>h)).trans (hcd k _ hy)
      have htk:ws.take k++ [y]=ws.take (k+1):=take_succ_get _ _ _ hy0
      have c8:wr.cell? ⟨w1.heap.size,8,none⟩=some (.slice Av k cv):=hp_cell hp7 8 rfl
      have HSZ:=Lib.hid (hp_lt hp7);have HLT:=Lib.hid (hp_lt HW.out.p1)
      have HY:=Lib.hid htk;have HR:=Lib.hid hrow;have HF:=Lib.hid hfr2;have HO:=Lib.hid hown;have HP0:=Lib.hid hp1;have HP1:=Lib.hid hp7
      clear hrow hfr2 hown hcc hcd hy hy0 hlen htk hp7 hp1 hl
      go_wp2_with (at_builtin;refine wpList_app 33 29 i0 _ 1 8 Tryz.underlying33 hi0 hz0 hz1 hz2 rfl (by omega) (by omega) (.tmp 100) (.tmp 102) rfl rfl _ _ _ _ (HR.out.alloc _) _ _ _ (src_one wr (WV y) 29) (by simp [one_WV]) (by omega) rfl rfl ?_;intro v1 w2 hv1 hf1 hat1;refine Hid.out ?_)
      refine Lib.hid ?_
      obtain ⟨A1,c1,rfl,-⟩:=hv1.src
      have k1:w2.heap[w.heap.size+1]? =_:=(hf1.keep _ (by rw [World.size_alloc];have:=HSZ.out;have:=HLT.out;omega) (fun h=>by have:=HO.out _ h;have:=HLT.out;omega)).trans (alloc_at HP0.out _)
      have k2:w2.heap[w1.heap.size]? =_:=(hf1.keep _ (by rw [World.size_alloc];have:=HSZ.out;omega) (fun h=>by have:=HO.out _ h;omega)).trans (alloc_at HP1.out _)
      have d8:w2.cell? ⟨w1.heap.size,8,none⟩=some (.slice Av k cv):=hp_cell k2 8 rfl
      have g8:w2.frozen? ⟨w1.heap.size,8,none⟩=false:=hp_free k2 8
      have hF1:Fr (fun _=>False) w w2:=(HF.out.alloc _).trans' hf1 (fun r hr=> .inr (by have:=HO.out r hr;have:=HLT.out;omega))
      have hO1:∀r,(Value.slice A1 (k+1) c1).ownBlock=some r->w1.heap.size+1<=r:=by
       intro r hr
       rcases hat1 with e|e
       ·exact HO.out r (by rw [<- e];exact hr)
       ·rw [hr]at e;cases e;rw [World.size_alloc];have:=HSZ.out;omega
      have K1:=Lib.hid k1;have K2:=Lib.hid k2;have HF1:=Lib.hid hF1;have HO1:=Lib.hid hO1;have HV1:=Lib.hid hv1
      clear k1 k2 hF1 hO1 hv1 hf1 hat1 c8 hcell
      go_wp2
      go_roundw
      case rel=>
       have hlt1:=HLT.out
       refine ⟨k+1,_,by omega,by go_num,?_,(hp_other _ _ _ (show w.heap.size+1≠w1.heap.size by omega)).trans K1.out,?_,HF1.out.setCell (.inr (show w.heap.size<=w1.heap.size by omega)) _,HO1.out⟩
       ·exact hp_same _ _ 8 _ K2.out
       ·rw [<- HY.out,List.map_append];exact HV1.out.keep ((Fr.refl (· =w1.heap.size) w2).setCell (.inl rfl) _) (fun r hr h=>by have:=HO1.out r hr;omega)
      case measure=>simp [intOf];omega
     ·have hkk:k=M:=by omega
      subst hkk
      rw [List.take_of_length_le (by rw [HM0.out];omega)]at hrow
      have a0:=hp_cell hp7 0 rfl;have a1:=hp_cell hp7 1 rfl;have a2:=hp_cell hp7 2 rfl;have a3:=hp_cell hp7 3 rfl;have a4:=hp_cell hp7 4 rfl;have a5:=hp_cell hp7 5 rfl;have a6:=hp_cell hp7 6 rfl;have a7:=hp_cell hp7 7 rfl;have a8:=hp_cell hp7 8 rfl
      have q0:=hp_cell hp1 0 rfl;have q1:=hp_cell hp1 1 rfl;have q2:=hp_cell hp1 2 rfl;have q3:=hp_cell hp1 3 rfl;have q4:=hp_cell hp1 4 rfl;have q5:=hp_cell hp1 5 rfl;have q6:=hp_cell hp1 6 rfl;have q7:=hp_cell hp1 7 rfl;have q8:=hp_cell hp1 8 rfl
      have f0:=hp_free hp1 0;have f1:=hp_free hp1 1;have f2:=hp_free hp1 2;have f3:=hp_free hp1 3;have f4:=hp_free hp1 4;have f5:=hp_free hp1 5;have f6:=hp_free hp1 6;have f7:=hp_free hp1 7;have f8:=hp_free hp1 8
      have HLT:=Lib.hid (hp_lt HW.out.p1)
      have HR:=Lib.hid hrow;have HF:=Lib.hid hfr2;have HO:=Lib.hid hown;have HP1:=Lib.hid hp1
      clear hrow hfr2 hown hp1 hp7
      go_wp2
      clear a0 a1 a2 a3 a4 a5 a6 a7 a8 q0 q1 q2 q3 q4 q5 q6 q7 q8 f0 f1 f2 f3 f4 f5 f6 f7 f8
      obtain ⟨w4,hw4,e0,e1,e2,e3,e4,e5,e6,e7,e8,HG⟩:=sp9 (w:=w) HP1.out (.int .i64 op) (.int .i64 a) (.int .i64 b) (.int .i64 c) (.int .i64 (fr:Int)) (.int .i64 (to:Int)) (.int .i64 (n:Int)) (WV wd) (.slice Av k cv)
      rw [hw4];clear hw4
      simp [bodyPost,results,Tryz.f5,go_sem,e0,e1,e2,e3,e4,e5,e6,e7,e8]
      exact stp_yes HVV.out HR.out HF.out HG.out HLT.out HO.out
   have t30:decide (op<=30)=false:=by simp;omega
   by_cases g2:op<40
   ·have t40:decide (40<=op)=false:=by simp;omega
    go_wp2
    clear q0 q1 q2 q3 q4 q5 q6 q7 q8 f0 f1 f2 f3 f4 f5 f6 f7 f8
    obtain ⟨w4,hw4,e0,e1,e2,e3,e4,e5,e6,e7,e8,HG⟩:=sp9 (w:=w) HW.out.p1 (.int .i64 0) (.int .i64 0) (.int .i64 0) (.int .i64 0) (.int .i64 0) (.int .i64 0) (.int .i64 0) (.int .u64 0) (.slice none 0 0)
    rw [hw4];clear hw4
    simp [bodyPost,results,Tryz.f5,go_sem,e0,e1,e2,e3,e4,e5,e6,e7,e8]
    exact stp_no (HW.out.fr.trans' HG.out (fun r hr=> .inr (by have hr:r=_:=hr;omega)))
   have t40:decide (40<=op)=true:=by simp;omega
   by_cases g3:64<op
   ·have t64:decide (op<=64)=false:=by simp;omega
    go_wp2
    clear q0 q1 q2 q3 q4 q5 q6 q7 q8 f0 f1 f2 f3 f4 f5 f6 f7 f8
    obtain ⟨w4,hw4,e0,e1,e2,e3,e4,e5,e6,e7,e8,HG⟩:=sp9 (w:=w) HW.out.p1 (.int .i64 0) (.int .i64 0) (.int .i64 0) (.int .i64 0) (.int .i64 0) (.int .i64 0) (.int .i64 0) (.int .u64 0) (.slice none 0 0)
    rw [hw4];clear hw4
    simp [bodyPost,results,Tryz.f5,go_sem,e0,e1,e2,e3,e4,e5,e6,e7,e8]
    exact stp_no (HW.out.fr.trans' HG.out (fun r hr=> .inr (by have hr:r=_:=hr;omega)))
   have t64:decide (op<=64)=true:=by simp;omega
   have HK:Hid (Known op):= .inr ⟨by omega,by omega⟩
   by_cases gfr:2000<fr
   ·have dfr:decide ((2000:Int)<(fr:Int))=true:=by simp;omega
    go_wp2
    clear q0 q1 q2 q3 q4 q5 q6 q7 q8 f0 f1 f2 f3 f4 f5 f6 f7 f8
    obtain ⟨w4,hw4,e0,e1,e2,e3,e4,e5,e6,e7,e8,HG⟩:=sp9 (w:=w) HW.out.p1 (.int .i64 0) (.int .i64 0) (.int .i64 0) (.int .i64 0) (.int .i64 0) (.int .i64 0) (.int .i64 0) (.int .u64 0) (.slice none 0 0)
    rw [hw4];clear hw4
    simp [bodyPost,results,Tryz.f5,go_sem,e0,e1,e2,e3,e4,e5,e6,e7,e8]
    exact stp_no (HW.out.fr.trans' HG.out (fun r hr=> .inr (by have hr:r=_:=hr;omega)))
   have dfr:decide ((2000:Int)<(fr:Int))=false:=by simp;omega
   by_cases gto:2000<to
   ·have dto:decide ((2000:Int)<(to:Int))=true:=by simp;omega
    go_wp2
    clear q0 q1 q2 q3 q4 q5 q6 q7 q8 f0 f1 f2 f3 f4 f5 f6 f7 f8
    obtain ⟨w4,hw4,e0,e1,e2,e3,e4,e5,e6,e7,e8,HG⟩:=sp9 (w:=w) HW.out.p1 (.int .i64 0) (.int .i64 0) (.int .i64 0) (.int .i64 0) (.int .i64 0) (.int .i64 0) (.int .i64 0) (.int .u64 0) (.slice none 0 0)
    rw [hw4];clear hw4
    simp [bodyPost,results,Tryz.f5,go_sem,e0,e1,e2,e3,e4,e5,e6,e7,e8]
    exact stp_no (HW.out.fr.trans' HG.out (fun r hr=> .inr (by have hr:r=_:=hr;omega)))
   have dto:decide ((2000:Int)<(to:Int))=false:=by simp;omega
   by_cases gn:2000<n
   ·have dn:decide ((2000:Int)<(n:Int))=true:=by simp;omega
    go_wp2
    clear q0 q1 q2 q3 q4 q5 q6 q7 q8 f0 f1 f2 f3 f4 f5 f6 f7 f8
    obtain ⟨w4,hw4,e0,e1,e2,e3,e4,e5,e6,e7,e8,HG⟩:=sp9 (w:=w) HW.out.p1 (.int .i64 0) (.int .i64 0) (.int .i64 0) (.int .i64 0) (.int .i64 0) (.int .i64 0) (.int .i64 0) (.int .u64 0) (.slice none 0 0)
    rw [hw4];clear hw4
    simp [bodyPost,results,Tryz.f5,go_sem,e0,e1,e2,e3,e4,e5,e6,e7,e8]
    exact stp_no (HW.out.fr.trans' HG.out (fun r hr=> .inr (by have hr:r=_:=hr;omega)))
   have dn:decide ((2000:Int)<(n:Int))=false:=by simp;omega
   by_cases gM:20<M
   ·have dM:decide ((20:Int)<(M:Int))=true:=by simp;omega
    go_wp2
    clear q0 q1 q2 q3 q4 q5 q6 q7 q8 f0 f1 f2 f3 f4 f5 f6 f7 f8
    obtain ⟨w4,hw4,e0,e1,e2,e3,e4,e5,e6,e7,e8,HG⟩:=sp9 (w:=w) HW.out.p1 (.int .i64 0) (.int .i64 0) (.int .i64 0) (.int .i64 0) (.int .i64 0) (.int .i64 0) (.int .i64 0) (.int .u64 0) (.slice none 0 0)
    rw [hw4];clear hw4
    simp [bodyPost,results,Tryz.f5,go_sem,e0,e1,e2,e3,e4,e5,e6,e7,e8]
    exact stp_no (HW.out.fr.trans' HG.out (fun r hr=> .inr (by have hr:r=_:=hr;omega)))
   have dM:decide ((20:Int)<(M:Int))=false:=by simp;omega
   have hfr:fr<=2000:=by omega
   have hto:to<=2000:=by omega
   have hn:n<=2000:=by omega
   have hM:M<=20:=by omega
   clear gfr gto gn gM
   clear q0 q1 q2 q3 q4 q5 q6 q7 q8 f0 f1 f2 f3 f4 f5 f6 f7 f8
   have HVV:Hid (Vld op a b c fr to n M):=⟨HV3.out 0 (by omega),HV3.out 1 (by omega),HV3.out 2 (by omega),HK.out,hfr,hto,hn,hM⟩
   have hl1:=hp_lt HW.out.p0
   have hl2:¬w.heap.size=w1.heap.size:=by omega
   have hp7:=hp_new w1 (stO op a b c (fr:Int) (to:Int) (n:Int) (WV wd) (.slice none 0 0))
   have HP7:=Lib.hid hp7;clear hp7
   go_wp2
   clear b0 b1 b2 b3 b4 b5 b6 b7 b8
   obtain ⟨i0,hi0,hz0,hz1,hz2⟩:=info_parts info29
   go_loopw [95] (fun i wr=>∃(k:Nat) (v:Value),k<=M/\i= .int .i64 (k:Int)/\wr.heap[w1.heap.size]? =some (stO op a b c (fr:Int) (to:Int) (n:Int) (WV wd) v)/\wr.heap[w.heap.size+1]? =some (stO 0 0 0 0 0 0 0 (.int .u64 0) (.slice none 0 0))/\Lst wr 29 1 v k ((ws.take k).map WV)/\Fr (fun _=>False) w wr/\∀r,v.ownBlock=some r->w1.heap.size+1<=r) (fun i _=>M-(intOf i).toNat)
   case atStart=>exact ⟨0,.slice none 0 0,by omega,rfl,HP7.out,alloc_at HW.out.p1 _,Lst.nil _ _ _,HW.out.fr.alloc _,by simp [Value.ownBlock]⟩
   case round=>
    obtain ⟨k,v,hk,rfl,hp7,hp1,hrow,hfr2,hown⟩:=hrel
    obtain ⟨Av,cv,rfl,-⟩:=hrow.src
    by_cases hlt:k<M
    ·obtain ⟨A2,c2,e1,hl,hcc⟩:=HS.out
     cases e1
     obtain ⟨ad,rfl,hcd⟩:=hcc (by omega)
     have hlen:k<ws.length:=by have:=HM0.out;omega
     obtain ⟨y,hy0⟩:∃y,ws[k]? =some y:=⟨_,List.getElem?_eq_getElem hlen⟩
     have hy:(ws.map WV)[k]? =some (WV y):=by simp [hy0]
     have hcell:=(hfr2.cell (a:=ad.add k) (block_lt_of_cell (hcd k _ hy)) (fun h=>h)).trans (hcd k _ hy)
     have htk:ws.take k++ [y]=ws.take (k+1):=take_succ_get _ _ _ hy0
     have c8:wr.cell? ⟨w1.heap.size,8,none⟩=some (.slice Av k cv):=hp_cell hp7 8 rfl
     have HSZ:=Lib.hid (hp_lt hp7);have HLT:=Lib.hid (hp_lt HW.out.p1)
     have HY:=Lib.hid htk;have HR:=Lib.hid hrow;have HF:=Lib.hid hfr2;have HO:=Lib.hid hown;have HP0:=Lib.hid hp1;have HP1:=Lib.hid hp7
     clear hrow hfr2 hown hcc hcd hy hy0 hlen htk hp7 hp1 hl
     go_wp2_with (at_builtin;refine wpList_app 33 29 i0 _ 1 8 Tryz.underlying33 hi0 hz0 hz1 hz2 rfl (by omega) (by omega) (.tmp 100) (.tmp 102) rfl rfl _ _ _ _ (HR.out.alloc _) _ _ _ (src_one wr (WV y) 29) (by simp [one_WV]) (by omega) rfl rfl ?_;intro v1 w2 hv1 hf1 hat1;refine Hid.out ?_)
     refine Lib.hid ?_
     obtain ⟨A1,c1,rfl,-⟩:=hv1.src
     have k1:w2.heap[w.heap.size+1]? =_:=(hf1.keep _ (by rw [World.size_alloc];have:=HSZ.out;have:=HLT.out;omega) (fun h=>by have:=HO.out _ h;have:=HLT.out;omega)).trans (alloc_at HP0.out _)
     have k2:w2.heap[w1.heap.size]? =_:=(hf1.keep _ (by rw [World.size_alloc];have:=HSZ.out;omega) (fun h=>by have:=HO.out _ h;omega)).trans (alloc_at HP1.out _)
     have d8:w2.cell? ⟨w1.heap.size,8,none⟩=some (.slice Av k cv):=hp_cell k2 8 rfl
     have g8:w2.frozen? ⟨w1.heap.size,8,none⟩=false:=hp_free k2 8
     have hF1:Fr (fun _=>False) w w2:=(HF.out.alloc _).trans' hf1 (fun r hr=> .inr (by have:=HO.out r hr;have:=HLT.out;omega))
     have hO1:∀r,(Value.slice A1 (k+1) c1).ownBlock=some r->w1.heap.size+1<=r:=by
      intro r hr
      rcases hat1 with e|e
      ·exact HO.out r (by rw [<- e];exact hr)
      ·rw [hr]at e;cases e;rw [World.size_alloc];have:=HSZ.out;omega
     have K1:=Lib.hid k1;have K2:=Lib.hid k2;have HF1:=Lib.hid hF1;have HO1:=Lib.hid hO1;have HV1:=Lib.hid hv1
     clear k1 k2 hF1 hO1 hv1 hf1 hat1 c8 hcell
     go_wp2
     go_roundw
     case rel=>
      have hlt1:=HLT.out
      refine ⟨k+1,_,by omega,by go_num,?_,(hp_other _ _ _ (show w.heap.size+1≠w1.heap.size by omega)).trans K1.out,?_,HF1.out.setCell (.inr (show w.heap.size<=w1.heap.size by omega)) _,HO1.out⟩
      ·exact hp_same _ _ 8 _ K2.out
      ·rw [<- HY.out,List.map_append];exact HV1.out.keep ((Fr.refl (· =w1.heap.size) w2).setCell (.inl rfl) _) (fun r hr h=>by have:=HO1.out r hr;omega)
     case measure=>simp [intOf];omega
    ·have hkk:k=M:=by omega
     subst hkk
     rw [List.take_of_length_le (by rw [HM0.out];omega)]at hrow
     have a0:=hp_cell hp7 0 rfl;have a1:=hp_cell hp7 1 rfl;have a2:=hp_cell hp7 2 rfl;have a3:=hp_cell hp7 3 rfl;have a4:=hp_cell hp7 4 rfl;have a5:=hp_cell hp7 5 rfl;have a6:=hp_cell hp7 6 rfl;have a7:=hp_cell hp7 7 rfl;have a8:=hp_cell hp7 8 rfl
     have q0:=hp_cell hp1 0 rfl;have q1:=hp_cell hp1 1 rfl;have q2:=hp_cell hp1 2 rfl;have q3:=hp_cell hp1 3 rfl;have q4:=hp_cell hp1 4 rfl;have q5:=hp_cell hp1 5 rfl;have q6:=hp_cell hp1 6 rfl;have q7:=hp_cell hp1 7 rfl;have q8:=hp_cell hp1 8 rfl
     have f0:=hp_free hp1 0;have f1:=hp_free hp1 1;have f2:=hp_free hp1 2;have f3:=hp_free hp1 3;have f4:=hp_free hp1 4;have f5:=hp_free hp1 5;have f6:=hp_free hp1 6;have f7:=hp_free hp1 7;have f8:=hp_free hp1 8
     have HLT:=Lib.hid (hp_lt HW.out.p1)
     have HR:=Lib.hid hrow;have HF:=Lib.hid hfr2;have HO:=Lib.hid hown;have HP1:=Lib.hid hp1
     clear hrow hfr2 hown hp1 hp7
     go_wp2
     clear a0 a1 a2 a3 a4 a5 a6 a7 a8 q0 q1 q2 q3 q4 q5 q6 q7 q8 f0 f1 f2 f3 f4 f5 f6 f7 f8
     obtain ⟨w4,hw4,e0,e1,e2,e3,e4,e5,e6,e7,e8,HG⟩:=sp9 (w:=w) HP1.out (.int .i64 op) (.int .i64 a) (.int .i64 b) (.int .i64 c) (.int .i64 (fr:Int)) (.int .i64 (to:Int)) (.int .i64 (n:Int)) (WV wd) (.slice Av k cv)
     rw [hw4];clear hw4
     simp [bodyPost,results,Tryz.f5,go_sem,e0,e1,e2,e3,e4,e5,e6,e7,e8]
     exact stp_yes HVV.out HR.out HF.out HG.out HLT.out HO.out
end Go.Proofs.YtobdfhlmipcjbaaGreatDoor
