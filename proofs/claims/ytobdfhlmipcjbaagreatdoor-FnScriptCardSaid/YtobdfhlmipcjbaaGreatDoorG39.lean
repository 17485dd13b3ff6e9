/- impl.do: the steps that make a set. impl.do: the questions. impl.do: Copy. impl: the four sets. -/
import Derived.Deep.RegionHeld3
import Derived.Test.YtobdfhlmipcjbaaGreatDoorG04
import Derived.Test.YtobdfhlmipcjbaaGreatDoorG05
import Derived.Test.YtobdfhlmipcjbaaGreatDoorG06
import Derived.Test.YtobdfhlmipcjbaaGreatDoorG17
import Derived.Test.YtobdfhlmipcjbaaGreatDoorG27
import Derived.Test.YtobdfhlmipcjbaaGreatDoorG28
import Derived.Test.YtobdfhlmipcjbaaGreatDoorG30
import Derived.Test.YtobdfhlmipcjbaaGreatDoorG31
import Derived.Test.YtobdfhlmipcjbaaGreatDoorG33
import Derived.Test.YtobdfhlmipcjbaaGreatDoorG34
import Derived.Test.YtobdfhlmipcjbaaGreatDoorG35
import Derived.Test.YtobdfhlmipcjbaaGreatDoorG38
set_option linter.unusedVariables false
set_option linter.unusedSimpArgs false
set_option maxRecDepth 100000
namespace Go.Proofs.YtobdfhlmipcjbaaGreatDoor
open Go.RowKit
theorem dim_made(op:Int)(a b c fr to n R cR:Nat)(wd:BitVec 64)(many:Value)(bk:Nat->Nat)(L:Nat)(m:Nat->Bool)(w:World)(hop:16<=op/\op<40/\op≠22/\op≠23/\op≠24/\op≠25/\op≠29)(ha:a<4)(hb:b<4)(hc4:c<4)(hr:Row4 w R bk)
  (hc:∀w1,Fr (fun _=>False) w w1->w.heap.size+2<=w1.heap.size->Calls Tryz.prog 36 #[istV op a b c fr to n wd many,.pointer (some ⟨bk a,0,none⟩),.pointer (some ⟨bk b,0,none⟩)] w1 (ReadP w1 L m)):
  Calls Tryz.prog 30 #[istV op a b c fr to n wd many,.slice (some ⟨R,0,none⟩) 4 cR] w (DoM w R bk c op false L m):=by
 have ca:=hr.cell a ha
 have ia:(0:Int)<=(a:Int)/\(a:Int)<(4:Nat):=by omega
 have cb:=hr.cell b hb
 have ib:(0:Int)<=(b:Int)/\(b:Int)<(4:Nat):=by omega
 have hR:=hr.lt
 have n0:¬R=w.heap.size:=by omega
 have n1:¬R=w.heap.size+1:=by omega
 have l1:R<w.heap.size+1:=by omega
 have ic:(0:Int)<=(c:Int)/\(c:Int)<(4:Nat):=by omega
 have t22:(op==22)=false:=by simp;omega
 have t23:(op==23)=false:=by simp;omega
 have t16:decide (op<16)=false:=by simp;omega
 have t24:(op==24)=false:=by simp;omega
 have t25:(op==25)=false:=by simp;omega
 have t40:decide (op<40)=true:=by simp;omega
 have t29:(op==29)=false:=by simp;omega
 have HC:=Lib.hid hc
 have HR4:=Lib.hid hr
 clear hc hr hop
 unfold istV
 go_enter Tryz.func30,Tryz.ntmps30
 go_wp2
 go_quiet (fail)
 obtain ⟨w1,hw1,HD,HF1,HS1⟩:=diMid R op a b c fr to n nq wd many w
 unfold istO tldO at hw1
 rw [hw1];clear hw1
 obtain ⟨b0,b1,b2,b3,b4,b5,b6,b7,b8⟩:=HD.out.box
 go_wp2_with (go_at_call 36;refine (HC.out _ HF1.out HS1.out).mono ?_;rintro e w2 ⟨d,v,rfl,hba,hf,ho⟩;refine Hid.out ?_)
 refine Lib.hid ?_
 have HK:=Lib.hid (HD.out.keep (hf.mono (fun r (h:False)=>h.elim)))
 have HR2:=Lib.hid (HR4.out.keep (HF1.out.trans hf) (fun h=>h))
 have HBA:=Lib.hid hba;have HF:=Lib.hid hf;have HO:=Lib.hid ho
 clear hba hf ho b0 b1 b2 b3 b4 b5 b6 b7 b8
 obtain ⟨b0,-,-,b3,-⟩:=HK.out.box
 obtain ⟨e0,f0,e1,f1,e2,f2,e3,f3,e4,f4,e5,f5,e6,f6⟩:=sev HK.out.p1
 have cc:=HR2.out.cell c hc4
 have cf:=HR2.out.free c hc4
 go_wp2
 clear e0 e1 e2 e3 e4 e5 e6 f0 f1 f2 f3 f4 f5 f6 b0 b3 cc cf
 obtain ⟨w4,hw4,e0,e1,e2,e3,e4,e5,e6,HG⟩:=telEndY (w:=w) (w3:=w2.setCell ⟨R,c,none⟩ (.pointer (some ⟨d,0,none⟩))) ((hp_other _ _ _ (show w.heap.size+1≠R by omega)).trans HK.out.p1) (.int .i64 (op)) (.bool false) (.int .u64 0) (.int .u64 0) (.string { data:= #[] }) (.slice none 0 0) (.slice none 0 0)
 rw [hw4];clear hw4
 simp [bodyPost,results,Tryz.f30,go_sem,e0,e1,e2,e3,e4,e5,e6]
 exact doM_end hc4 HR4.out HF1.out HS1.out HBA.out HF.out HO.out HG.out
theorem dim_29(a b c fr to n R cR:Nat)(wd:BitVec 64)(many:Value)(bk:Nat->Nat)(L:Nat)(m:Nat->Bool)(w:World)(ha:a<4)(hb:b<4)(hc4:c<4)(hr:Row4 w R bk)
  (hc:∀w1,Fr (fun _=>False) w w1->w.heap.size+2<=w1.heap.size->Calls Tryz.prog 36 #[istV 29 a b c fr to n wd many,.pointer (some ⟨bk a,0,none⟩),.pointer (some ⟨bk b,0,none⟩)] w1 (ReadP w1 L m)):
  Calls Tryz.prog 30 #[istV 29 a b c fr to n wd many,.slice (some ⟨R,0,none⟩) 4 cR] w (DoM w R bk c 29 true L m):=by
 have ca:=hr.cell a ha
 have ia:(0:Int)<=(a:Int)/\(a:Int)<(4:Nat):=by omega
 have cb:=hr.cell b hb
 have ib:(0:Int)<=(b:Int)/\(b:Int)<(4:Nat):=by omega
 have hR:=hr.lt
 have n0:¬R=w.heap.size:=by omega
 have n1:¬R=w.heap.size+1:=by omega
 have l1:R<w.heap.size+1:=by omega
 have ic:(0:Int)<=(c:Int)/\(c:Int)<(4:Nat):=by omega
 have HC:=Lib.hid hc
 have HR4:=Lib.hid hr
 clear hc hr
 unfold istV
 go_enter Tryz.func30,Tryz.ntmps30
 go_wp2
 go_quiet (fail)
 obtain ⟨w1,hw1,HD,HF1,HS1⟩:=diMid R 29 a b c fr to n nq wd many w
 unfold istO tldO at hw1
 rw [hw1];clear hw1
 obtain ⟨b0,b1,b2,b3,b4,b5,b6,b7,b8⟩:=HD.out.box
 go_wp2_with (go_at_call 36;refine (HC.out _ HF1.out HS1.out).mono ?_;rintro e w2 ⟨d,v,rfl,hba,hf,ho⟩;refine Hid.out ?_)
 refine Lib.hid ?_
 have HK:=Lib.hid (HD.out.keep (hf.mono (fun r (h:False)=>h.elim)))
 have HR2:=Lib.hid (HR4.out.keep (HF1.out.trans hf) (fun h=>h))
 have HBA:=Lib.hid hba;have HF:=Lib.hid hf;have HO:=Lib.hid ho
 clear hba hf ho b0 b1 b2 b3 b4 b5 b6 b7 b8
 obtain ⟨b0,-,-,b3,-⟩:=HK.out.box
 obtain ⟨e0,f0,e1,f1,e2,f2,e3,f3,e4,f4,e5,f5,e6,f6⟩:=sev HK.out.p1
 have cc:=HR2.out.cell c hc4
 have cf:=HR2.out.free c hc4
 go_wp2
 clear e0 e1 e2 e3 e4 e5 e6 f0 f1 f2 f3 f4 f5 f6 b0 b3 cc cf
 obtain ⟨w4,hw4,e0,e1,e2,e3,e4,e5,e6,HG⟩:=telEndY (w:=w) (w3:=w2.setCell ⟨R,c,none⟩ (.pointer (some ⟨d,0,none⟩))) ((hp_other _ _ _ (show w.heap.size+1≠R by omega)).trans HK.out.p1) (.int .i64 (29)) (.bool true) (.int .u64 0) (.int .u64 0) (.string { data:= #[] }) (.slice none 0 0) (.slice none 0 0)
 rw [hw4];clear hw4
 simp [bodyPost,results,Tryz.f30,go_sem,e0,e1,e2,e3,e4,e5,e6]
 exact doM_end hc4 HR4.out HF1.out HS1.out HBA.out HF.out HO.out HG.out
theorem dim_asl(op:Int)(a b c fr to n R cR:Nat)(wd:BitVec 64)(many:Value)(bk:Nat->Nat)(Q:Bool->Nat->Int->ByteArray->List Value->List Value->Prop)(w:World)(hop:40<=op/\op<46)(ha:a<4)(hb:b<4)(hc4:c<4)(hr:Row4 w R bk)
  (hc:∀w1,Fr (fun _=>False) w w1->w.heap.size+2<=w1.heap.size->Calls Tryz.prog 37 #[istV op a b c fr to n wd many,.pointer (some ⟨bk a,0,none⟩)] w1 (AskQ w1 op Q)):
  Calls Tryz.prog 30 #[istV op a b c fr to n wd many,.slice (some ⟨R,0,none⟩) 4 cR] w (AskQ w op Q):=by
 have ca:=hr.cell a ha
 have ia:(0:Int)<=(a:Int)/\(a:Int)<(4:Nat):=by omega
 have cb:=hr.cell b hb
 have ib:(0:Int)<=(b:Int)/\(b:Int)<(4:Nat):=by omega
 have hR:=hr.lt
 have n0:¬R=w.heap.size:=by omega
 have n1:¬R=w.heap.size+1:=by omega
 have l1:R<w.heap.size+1:=by omega
 have t22:(op==22)=false:=by simp;omega
 have t23:(op==23)=false:=by simp;omega
 have t16:decide (op<16)=false:=by simp;omega
 have t24:(op==24)=false:=by simp;omega
 have t25:(op==25)=false:=by simp;omega
 have t40:decide (op<40)=false:=by simp;omega
 have t46:decide (op<46)=true:=by simp;omega
 have HC:=Lib.hid hc
 have HR4:=Lib.hid hr
 clear hc hr hop
 unfold istV
 go_enter Tryz.func30,Tryz.ntmps30
 go_wp2
 go_quiet (fail)
 obtain ⟨w1,hw1,HD,HF1,HS1⟩:=diMid R op a b c fr to n nq wd many w
 unfold istO tldO at hw1
 rw [hw1];clear hw1
 obtain ⟨b0,b1,b2,b3,b4,b5,b6,b7,b8⟩:=HD.out.box
 go_wp2_with (go_at_call 37;refine (HC.out _ HF1.out HS1.out).mono ?_;rintro e w2 ⟨is,rn,z,s,xs,bs,hq,l,bb,rfl,hl,hb,hol,hob,hf⟩;refine Hid.out ?_)
 refine Lib.hid ?_
 obtain ⟨A1,c1,rfl,-⟩:=hl.src
 obtain ⟨A2,c2,rfl,-⟩:=hb.src
 have HK:=Lib.hid (HD.out.keep (hf.mono (fun r (h:False)=>h.elim)))
 have HQ:=Lib.hid hq;have HL:=Lib.hid hl;have HB:=Lib.hid hb;have HOL:=Lib.hid hol;have HOB:=Lib.hid hob;have HF:=Lib.hid hf
 clear hq hl hb hol hob hf b0 b1 b2 b3 b4 b5 b6 b7 b8
 generalize hn1:xs.length=n1 at*
 generalize hn2:bs.length=n2 at*
 have HN1:=Lib.hid hn1;have HN2:=Lib.hid hn2;clear hn1 hn2
 obtain ⟨e0,f0,e1,f1,e2,f2,e3,f3,e4,f4,e5,f5,e6,f6⟩:=sev HK.out.p1
 go_wp2
 clear e0 e1 e2 e3 e4 e5 e6 f0 f1 f2 f3 f4 f5 f6
 obtain ⟨w4,hw4,e0,e1,e2,e3,e4,e5,e6,HG⟩:=telEndY (w:=w) HK.out.p1 (.int .i64 (op)) (.bool is) (.int .u64 (rn:Int)) (.int .u64 z) (.string s) (.slice A1 n1 c1) (.slice A2 n2 c2)
 rw [hw4];clear hw4
 simp [bodyPost,results,Tryz.f30,go_sem,e0,e1,e2,e3,e4,e5,e6]
 exact askQ_end HN1.out HN2.out HQ.out HL.out HB.out HOL.out HOB.out HF1.out HS1.out HF.out HG.out
theorem dim_ash(op:Int)(a b c fr to n R cR:Nat)(wd:BitVec 64)(many:Value)(bk:Nat->Nat)(Q:Bool->Nat->Int->ByteArray->List Value->List Value->Prop)(w:World)(hop:61<op)(ha:a<4)(hb:b<4)(hc4:c<4)(hr:Row4 w R bk)
  (hc:∀w1,Fr (fun _=>False) w w1->w.heap.size+2<=w1.heap.size->Calls Tryz.prog 37 #[istV op a b c fr to n wd many,.pointer (some ⟨bk a,0,none⟩)] w1 (AskQ w1 op Q)):
  Calls Tryz.prog 30 #[istV op a b c fr to n wd many,.slice (some ⟨R,0,none⟩) 4 cR] w (AskQ w op Q):=by
 have ca:=hr.cell a ha
 have ia:(0:Int)<=(a:Int)/\(a:Int)<(4:Nat):=by omega
 have cb:=hr.cell b hb
 have ib:(0:Int)<=(b:Int)/\(b:Int)<(4:Nat):=by omega
 have hR:=hr.lt
 have n0:¬R=w.heap.size:=by omega
 have n1:¬R=w.heap.size+1:=by omega
 have l1:R<w.heap.size+1:=by omega
 have t22:(op==22)=false:=by simp;omega
 have t23:(op==23)=false:=by simp;omega
 have t16:decide (op<16)=false:=by simp;omega
 have t24:(op==24)=false:=by simp;omega
 have t25:(op==25)=false:=by simp;omega
 have t40:decide (op<40)=false:=by simp;omega
 have t46:decide (op<46)=false:=by simp;omega
 have t61:decide (61<op)=true:=by simp;omega
 have HC:=Lib.hid hc
 have HR4:=Lib.hid hr
 clear hc hr hop
 unfold istV
 go_enter Tryz.func30,Tryz.ntmps30
 go_wp2
 go_quiet (fail)
 obtain ⟨w1,hw1,HD,HF1,HS1⟩:=diMid R op a b c fr to n nq wd many w
 unfold istO tldO at hw1
 rw [hw1];clear hw1
 obtain ⟨b0,b1,b2,b3,b4,b5,b6,b7,b8⟩:=HD.out.box
 go_wp2_with (go_at_call 37;refine (HC.out _ HF1.out HS1.out).mono ?_;rintro e w2 ⟨is,rn,z,s,xs,bs,hq,l,bb,rfl,hl,hb,hol,hob,hf⟩;refine Hid.out ?_)
 refine Lib.hid ?_
 obtain ⟨A1,c1,rfl,-⟩:=hl.src
 obtain ⟨A2,c2,rfl,-⟩:=hb.src
 have HK:=Lib.hid (HD.out.keep (hf.mono (fun r (h:False)=>h.elim)))
 have HQ:=Lib.hid hq;have HL:=Lib.hid hl;have HB:=Lib.hid hb;have HOL:=Lib.hid hol;have HOB:=Lib.hid hob;have HF:=Lib.hid hf
 clear hq hl hb hol hob hf b0 b1 b2 b3 b4 b5 b6 b7 b8
 generalize hn1:xs.length=n1 at*
 generalize hn2:bs.length=n2 at*
 have HN1:=Lib.hid hn1;have HN2:=Lib.hid hn2;clear hn1 hn2
 obtain ⟨e0,f0,e1,f1,e2,f2,e3,f3,e4,f4,e5,f5,e6,f6⟩:=sev HK.out.p1
 go_wp2
 clear e0 e1 e2 e3 e4 e5 e6 f0 f1 f2 f3 f4 f5 f6
 obtain ⟨w4,hw4,e0,e1,e2,e3,e4,e5,e6,HG⟩:=telEndY (w:=w) HK.out.p1 (.int .i64 (op)) (.bool is) (.int .u64 (rn:Int)) (.int .u64 z) (.string s) (.slice A1 n1 c1) (.slice A2 n2 c2)
 rw [hw4];clear hw4
 simp [bodyPost,results,Tryz.f30,go_sem,e0,e1,e2,e3,e4,e5,e6]
 exact askQ_end HN1.out HN2.out HQ.out HL.out HB.out HOL.out HOB.out HF1.out HS1.out HF.out HG.out
theorem dim_cmp(op:Int)(a b c fr to n R cR:Nat)(wd:BitVec 64)(many:Value)(bk:Nat->Nat)(Q:Bool->Nat->Int->ByteArray->List Value->List Value->Prop)(w:World)(hop:46<=op/\op<53)(ha:a<4)(hb:b<4)(hc4:c<4)(hr:Row4 w R bk)
  (hc:∀w1,Fr (fun _=>False) w w1->w.heap.size+2<=w1.heap.size->Calls Tryz.prog 38 #[istV op a b c fr to n wd many,.pointer (some ⟨bk a,0,none⟩),.pointer (some ⟨bk b,0,none⟩)] w1 (AskQ w1 op Q)):
  Calls Tryz.prog 30 #[istV op a b c fr to n wd many,.slice (some ⟨R,0,none⟩) 4 cR] w (AskQ w op Q):=by
 have ca:=hr.cell a ha
 have ia:(0:Int)<=(a:Int)/\(a:Int)<(4:Nat):=by omega
 have cb:=hr.cell b hb
 have ib:(0:Int)<=(b:Int)/\(b:Int)<(4:Nat):=by omega
 have hR:=hr.lt
 have n0:¬R=w.heap.size:=by omega
 have n1:¬R=w.heap.size+1:=by omega
 have l1:R<w.heap.size+1:=by omega
 have t22:(op==22)=false:=by simp;omega
 have t23:(op==23)=false:=by simp;omega
 have t16:decide (op<16)=false:=by simp;omega
 have t24:(op==24)=false:=by simp;omega
 have t25:(op==25)=false:=by simp;omega
 have t40:decide (op<40)=false:=by simp;omega
 have t46:decide (op<46)=false:=by simp;omega
 have t61:decide (61<op)=false:=by simp;omega
 have t53:decide (op<53)=true:=by simp;omega
 have HC:=Lib.hid hc
 have HR4:=Lib.hid hr
 clear hc hr hop
 unfold istV
 go_enter Tryz.func30,Tryz.ntmps30
 go_wp2
 go_quiet (fail)
 obtain ⟨w1,hw1,HD,HF1,HS1⟩:=diMid R op a b c fr to n nq wd many w
 unfold istO tldO at hw1
 rw [hw1];clear hw1
 obtain ⟨b0,b1,b2,b3,b4,b5,b6,b7,b8⟩:=HD.out.box
 go_wp2_with (go_at_call 38;refine (HC.out _ HF1.out HS1.out).mono ?_;rintro e w2 ⟨is,rn,z,s,xs,bs,hq,l,bb,rfl,hl,hb,hol,hob,hf⟩;refine Hid.out ?_)
 refine Lib.hid ?_
 obtain ⟨A1,c1,rfl,-⟩:=hl.src
 obtain ⟨A2,c2,rfl,-⟩:=hb.src
 have HK:=Lib.hid (HD.out.keep (hf.mono (fun r (h:False)=>h.elim)))
 have HQ:=Lib.hid hq;have HL:=Lib.hid hl;have HB:=Lib.hid hb;have HOL:=Lib.hid hol;have HOB:=Lib.hid hob;have HF:=Lib.hid hf
 clear hq hl hb hol hob hf b0 b1 b2 b3 b4 b5 b6 b7 b8
 generalize hn1:xs.length=n1 at*
 generalize hn2:bs.length=n2 at*
 have HN1:=Lib.hid hn1;have HN2:=Lib.hid hn2;clear hn1 hn2
 obtain ⟨e0,f0,e1,f1,e2,f2,e3,f3,e4,f4,e5,f5,e6,f6⟩:=sev HK.out.p1
 go_wp2
 clear e0 e1 e2 e3 e4 e5 e6 f0 f1 f2 f3 f4 f5 f6
 obtain ⟨w4,hw4,e0,e1,e2,e3,e4,e5,e6,HG⟩:=telEndY (w:=w) HK.out.p1 (.int .i64 (op)) (.bool is) (.int .u64 (rn:Int)) (.int .u64 z) (.string s) (.slice A1 n1 c1) (.slice A2 n2 c2)
 rw [hw4];clear hw4
 simp [bodyPost,results,Tryz.f30,go_sem,e0,e1,e2,e3,e4,e5,e6]
 exact askQ_end HN1.out HN2.out HQ.out HL.out HB.out HOL.out HOB.out HF1.out HS1.out HF.out HG.out
theorem dim_sgt(op:Int)(a b c fr to n R cR:Nat)(wd:BitVec 64)(many:Value)(bk:Nat->Nat)(Q:Bool->Nat->Int->ByteArray->List Value->List Value->Prop)(w:World)(hop:53<=op/\op<=61)(ha:a<4)(hb:b<4)(hc4:c<4)(hr:Row4 w R bk)
  (hc:∀w1,Fr (fun _=>False) w w1->w.heap.size+2<=w1.heap.size->Calls Tryz.prog 39 #[istV op a b c fr to n wd many,.pointer (some ⟨bk a,0,none⟩)] w1 (AskQ w1 op Q)):
  Calls Tryz.prog 30 #[istV op a b c fr to n wd many,.slice (some ⟨R,0,none⟩) 4 cR] w (AskQ w op Q):=by
 have ca:=hr.cell a ha
 have ia:(0:Int)<=(a:Int)/\(a:Int)<(4:Nat):=by omega
 have cb:=hr.cell b hb
 have ib:(0:Int)<=(b:Int)/\(b:Int)<(4:Nat):=by omega
 have hR:=hr.lt
 have n0:¬R=w.heap.size:=by omega
 have n1:¬R=w.heap.size+1:=by omega
 have l1:R<w.heap.size+1:=by omega
 have t22:(op==22)=false:=by simp;omega
 have t23:(op==23)=false:=by simp;omega
 have t16:decide (op<16)=false:=by simp;omega
 have t24:(op==24)=false:=by simp;omega
 have t25:(op==25)=false:=by simp;omega
 have t40:decide (op<40)=false:=by simp;omega
 have t46:decide (op<46)=false:=by simp;omega
 have t61:decide (61<op)=false:=by simp;omega
 have t53:decide (op<53)=false:=by simp;omega
 have HC:=Lib.hid hc
 have HR4:=Lib.hid hr
 clear hc hr hop
 unfold istV
 go_enter Tryz.func30,Tryz.ntmps30
 go_wp2
 go_quiet (fail)
 obtain ⟨w1,hw1,HD,HF1,HS1⟩:=diMid R op a b c fr to n nq wd many w
 unfold istO tldO at hw1
 rw [hw1];clear hw1
 obtain ⟨b0,b1,b2,b3,b4,b5,b6,b7,b8⟩:=HD.out.box
 go_wp2_with (go_at_call 39;refine (HC.out _ HF1.out HS1.out).mono ?_;rintro e w2 ⟨is,rn,z,s,xs,bs,hq,l,bb,rfl,hl,hb,hol,hob,hf⟩;refine Hid.out ?_)
 refine Lib.hid ?_
 obtain ⟨A1,c1,rfl,-⟩:=hl.src
 obtain ⟨A2,c2,rfl,-⟩:=hb.src
 have HK:=Lib.hid (HD.out.keep (hf.mono (fun r (h:False)=>h.elim)))
 have HQ:=Lib.hid hq;have HL:=Lib.hid hl;have HB:=Lib.hid hb;have HOL:=Lib.hid hol;have HOB:=Lib.hid hob;have HF:=Lib.hid hf
 clear hq hl hb hol hob hf b0 b1 b2 b3 b4 b5 b6 b7 b8
 generalize hn1:xs.length=n1 at*
 generalize hn2:bs.length=n2 at*
 have HN1:=Lib.hid hn1;have HN2:=Lib.hid hn2;clear hn1 hn2
 obtain ⟨e0,f0,e1,f1,e2,f2,e3,f3,e4,f4,e5,f5,e6,f6⟩:=sev HK.out.p1
 go_wp2
 clear e0 e1 e2 e3 e4 e5 e6 f0 f1 f2 f3 f4 f5 f6
 obtain ⟨w4,hw4,e0,e1,e2,e3,e4,e5,e6,HG⟩:=telEndY (w:=w) HK.out.p1 (.int .i64 (op)) (.bool is) (.int .u64 (rn:Int)) (.int .u64 z) (.string s) (.slice A1 n1 c1) (.slice A2 n2 c2)
 rw [hw4];clear hw4
 simp [bodyPost,results,Tryz.f30,go_sem,e0,e1,e2,e3,e4,e5,e6]
 exact askQ_end HN1.out HN2.out HQ.out HL.out HB.out HOL.out HOB.out HF1.out HS1.out HF.out HG.out
def DoK(w:World)(R:Nat)(P:Nat->World->World->Prop)(e:Ending)(w':World):Prop:=
 ∃k:Nat,e= .returned (tldV 22 false (k:Int) 0 { data:= #[] } (.slice none 0 0) (.slice none 0 0))/\∃w1 w2,Fr (fun _=>False) w w1/\w.heap.size+2<=w1.heap.size/\P k w1 w2/\Fr (OldT w R) w1 w2/\Fr (· =w.heap.size+1) w2 w'
theorem cell7{w:World}{p R c:Nat}{x:Value}(h:w.cell? ⟨R,c,none⟩=some x)(hp:¬R=p)(y0 y1 y2 y3 y4 y5 y6:Value):(((((((w.setCell ⟨p,0,none⟩ y0).setCell ⟨p,1,none⟩ y1).setCell ⟨p,2,none⟩ y2).setCell ⟨p,3,none⟩ y3).setCell ⟨p,4,none⟩ y4).setCell ⟨p,5,none⟩ y5).setCell ⟨p,6,none⟩ y6).cell? ⟨R,c,none⟩=some x:=
 (Fr.cell (T:=(· =p)) (a:=⟨R,c,none⟩) ((((((((Fr.refl (· =p) w).setCell (a:=⟨p,0,none⟩) (.inl rfl) y0).setCell (a:=⟨p,1,none⟩) (.inl rfl) y1).setCell (a:=⟨p,2,none⟩) (.inl rfl) y2).setCell (a:=⟨p,3,none⟩) (.inl rfl) y3).setCell (a:=⟨p,4,none⟩) (.inl rfl) y4).setCell (a:=⟨p,5,none⟩) (.inl rfl) y5).setCell (a:=⟨p,6,none⟩) (.inl rfl) y6) (block_lt_of_cell h) hp).trans h
theorem dim_22(a b c fr to n R cR:Nat)(wd:BitVec 64)(many:Value)(bk:Nat->Nat)(P:Nat->World->World->Prop)(w:World)(ha:a<4)(hb:b<4)(hc4:c<4)(hr:Row4 w R bk)
  (hc:∀w1,Fr (fun _=>False) w w1->w.heap.size+2<=w1.heap.size->Calls Tryz.prog 33 #[.pointer (some ⟨bk a,0,none⟩),.pointer (some ⟨bk c,0,none⟩)] w1 (fun e w'=>∃k:Nat,e= .returned (.int .u64 (k:Int))/\P k w1 w'/\Fr (OldT w R) w1 w')):
  Calls Tryz.prog 30 #[istV 22 a b c fr to n wd many,.slice (some ⟨R,0,none⟩) 4 cR] w (DoK w R P):=by
 have ca:=hr.cell a ha
 have ia:(0:Int)<=(a:Int)/\(a:Int)<(4:Nat):=by omega
 have cb:=hr.cell b hb
 have ib:(0:Int)<=(b:Int)/\(b:Int)<(4:Nat):=by omega
 have hR:=hr.lt
 have n0:¬R=w.heap.size:=by omega
 have n1:¬R=w.heap.size+1:=by omega
 have l1:R<w.heap.size+1:=by omega
 have n2:¬w.heap.size=w.heap.size+1:=by omega
 have ic:(0:Int)<=(c:Int)/\(c:Int)<(4:Nat):=by omega
 have HC:=Lib.hid hc
 have HR4:=Lib.hid hr
 clear hc hr
 unfold istV
 go_enter Tryz.func30,Tryz.ntmps30
 go_wp2
 go_quiet (fail)
 obtain ⟨w1,hw1,HD,HF1,HS1⟩:=diMid R 22 a b c fr to n nq wd many w
 unfold istO tldO at hw1
 rw [hw1];clear hw1
 obtain ⟨b0,b1,b2,b3,b4,b5,b6,b7,b8⟩:=HD.out.box
 have cc:=(HF1.out.cell (a:=⟨R,c,none⟩) (show R<w.heap.size from hR) (fun h=>h)).trans (HR4.out.cell c hc4)
 have HDd:=Lib.hid (HD.out.keep ((Fr.refl (OldT w R) w1).drew))
 have HFd:=Lib.hid (HF1.out.drew)
 have HSd:Hid (w.heap.size+2<=w1.drew.heap.size):=Nat.le_trans HS1.out (Fr.size ((Fr.refl (OldT w R) w1).drew))
 have HCd:=Lib.hid ((((Fr.refl (OldT w R) w1).drew).cell (a:=⟨R,c,none⟩) (block_lt_of_cell cc) (fun h=>h.2 rfl)).trans cc)
 clear b1 b2 b4 b5 b6 b7 b8 ca cb
 go_wp2
 have bc:(0:Int)<=(c:Int)/\(c:Int)<4:=by omega
 go_region_held3 (fun w'=>w'.cell? ⟨w.heap.size,0,none⟩=some (.int .i64 22)/\w'.cell? ⟨w.heap.size,3,none⟩=some (.int .i64 (c:Int))/\w'.cell? ⟨R,c,none⟩=some (.pointer (some ⟨bk c,0,none⟩)))
  (first|(with_reducible exact HK3.out)|(exact And.intro (cell7 HK3.out.1 n2 _ _ _ _ _ _ _) (And.intro (cell7 HK3.out.2.1 n2 _ _ _ _ _ _ _) (cell7 HK3.out.2.2 n1 _ _ _ _ _ _ _)))|go_keep)
  (first|(go_at_call 33;refine (HC.out w1.drew HFd.out HSd.out).mono ?_;rintro e w2 ⟨k,rfl,hp,hf⟩;have HK:=Lib.hid (HDd.out.keep hf);have HK3:=Lib.hid (And.intro HK.out.box.1 (And.intro HK.out.box.2.2.2.1 ((hf.cell (a:=⟨R,c,none⟩) (block_lt_of_cell HCd.out) (fun h=>h.2 rfl)).trans HCd.out)));have HP:=Lib.hid hp;have HF:=Lib.hid hf;clear hp hf;obtain ⟨e0,f0,e1,f1,e2,f2,e3,f3,e4,f4,e5,f5,e6,f6⟩:=sev HK.out.p1)|fail)
 go_wp2
 clear e0 e1 e2 e3 e4 e5 e6 f0 f1 f2 f3 f4 f5 f6
 obtain ⟨w4,hw4,e0,e1,e2,e3,e4,e5,e6,HG⟩:=telEndY (w:=w) HK.out.p1 (.int .i64 22) (.bool false) (.int .u64 (k:Int)) (.int .u64 0) (.string { data:= #[] }) (.slice none 0 0) (.slice none 0 0)
 rw [hw4];clear hw4
 simp [bodyPost,results,Tryz.f30,go_sem,e0,e1,e2,e3,e4,e5,e6]
 exact ⟨k,rfl,_,w2,HFd.out,HSd.out,HP.out,HF.out,HG.out⟩
structure Imp(w:World)(R G:Nat)(bk:Nat->Nat)(vk:Nat->Value)(ls:Nat->List Bool):Prop where
 row:Row4 w R bk
 set:∀i,i<4->BA w (bk i) (vk i) (ls i).length (mOf (ls i))
 sep:∀i j,i<4->j<4->i≠j->Sep (bk i) (vk i) (bk j) (vk j)
 off:∀i,i<4->∀r,Own (bk i) (vk i) r->r≠R/\G<=r
 base:8<=G/\G<=R
 tab:Tab64 w
 pow:PowT w
def SetT(R:Nat)(bk:Nat->Nat)(vk:Nat->Value)(r:Nat):Prop:=r=R\/∃i,i<4/\Own (bk i) (vk i) r
structure AnsD where
 is:Bool
 n:Nat
 wd:BitVec 64
 s:ByteArray
 xs:List Value
 bs:List Value
def ImpP(w:World)(R G:Nat)(bk:Nat->Nat)(vk:Nat->Value)(op:Int)(A:AnsD)(ls':Nat->List Bool)(e:Ending)(w':World):Prop:=
 ∃(n:Nat) (l b:Value),e= .returned (tldV op A.is (n:Int) (wn A.wd) A.s l b)/\(A.is=true\/op<53\/56<op->n=A.n)/\Lst w' 28 1 l A.xs.length A.xs/\Lst w' 5 1 b A.bs.length A.bs/\
  ∃bk' vk',Imp w' R G bk' vk' ls'/\Fr (SetT R bk vk) w w'/\(∀r,SetT R bk' vk' r->SetT R bk vk r\/w.heap.size<=r)/\(∀r,l.ownBlock=some r\/b.ownBlock=some r->w.heap.size<=r/\¬SetT R bk' vk' r)
theorem Imp.lt{w:World}{R G:Nat}{bk:Nat->Nat}{vk:Nat->Value}{ls:Nat->List Bool}(h:Imp w R G bk vk ls){r:Nat}(hr:SetT R bk vk r):r<w.heap.size/\G<=r:=by
 rcases hr with rfl|⟨i,hi,ho⟩
 ·exact ⟨h.row.lt,h.base.2⟩
 ·exact ⟨(h.set i hi).2.own_lt r ho,(h.off i hi r ho).2⟩
theorem Imp.keep{w w':World}{T:Nat->Prop}{R G:Nat}{bk:Nat->Nat}{vk:Nat->Value}{ls:Nat->List Bool}(h:Imp w R G bk vk ls)(k:Fr T w w')(hT:∀r,SetT R bk vk r->¬T r)(h8:∀r,r<8->¬T r):Imp w' R G bk vk ls:=
 ⟨h.row.keep k (hT R (.inl rfl)),fun i hi=>(h.set i hi).keep k (fun r hr=>hT r (.inr ⟨i,hi,hr⟩)),h.sep,h.off,h.base,h.tab.keep k (h8 0 (by omega)),h.pow.keep k (h8 6 (by omega))⟩
theorem imp_ask{w w':World}{R G:Nat}{bk:Nat->Nat}{vk:Nat->Value}{ls:Nat->List Bool}{op:Int}{Q:Bool->Nat->Int->ByteArray->List Value->List Value->Prop}{A:AnsD}{e:Ending}(h:Imp w R G bk vk ls)(ha:AskQ w op Q e w')
  (hq:∀is n z s xs bs,Q is n z s xs bs->is=A.is/\(A.is=true\/op<53\/56<op->n=A.n)/\z=wn A.wd/\s=A.s/\xs=A.xs/\bs=A.bs):ImpP w R G bk vk op A ls e w':=by
 obtain ⟨is,n,z,s,xs,bs,q,l,b,rfl,hl,hb,hol,hob,hf⟩:=ha
 obtain ⟨rfl,hn,rfl,rfl,rfl,rfl⟩:=hq is n z s xs bs q
 refine ⟨n,l,b,rfl,hn,hl,hb,bk,vk,h.keep hf (fun _ _ h=>h) (fun _ _ h=>h),hf.mono (fun r (h:False)=>h.elim),fun r hr=> .inl hr,fun r hr=>?_⟩
 have h1:w.heap.size<=r:=hr.elim (hol r) (hob r)
 exact ⟨h1,fun hs=>by have:=(h.lt hs).1;omega⟩
theorem Imp.old{w w1 w2:World}{R G t:Nat}{bk:Nat->Nat}{vk:Nat->Value}{ls:Nat->List Bool}(h:Imp w R G bk vk ls)(ht:t<4){v':Value}(k:Ch w1 w2 (bk t) (vk t) v'):Fr (OldT w R) w1 w2:=
 k.fr.mono fun r hr=>⟨(h.set t ht).2.own_lt r hr,(h.off t ht r hr).1⟩
theorem imp_mut{w w1 w2 w':World}{R G t:Nat}{bk:Nat->Nat}{vk:Nat->Value}{ls:Nat->List Bool}(h:Imp w R G bk vk ls)(ht:t<4){v':Value}{L:Nat}{m:Nat->Bool}{l':List Bool}(hl:l'.length=L)(hm:mOf l'=m)
  (hf1:Fr (fun _=>False) w w1) (hs1:w.heap.size+2<=w1.heap.size) (hba:BA w2 (bk t) v' L m) (k:Ch w1 w2 (bk t) (vk t) v') (hg:Fr (· =w.heap.size+1) w2 w'):
  Imp w' R G bk (upd vk t v') (upd ls t l')/\Fr (SetT R bk vk) w w'/\(∀r,SetT R bk (upd vk t v') r->SetT R bk vk r\/w.heap.size<=r):=by
 subst hl;subst hm
 have hown:∀r,Own (bk t) v' r->Own (bk t) (vk t) r\/w1.heap.size<=r:=by
  rintro r (rfl|hr)
  ·exact .inl (.inl rfl)
  ·rcases k.own with e|e|⟨r',e,hr'⟩
   ·exact .inl (.inr (by rw [<- e];exact hr))
   ·rw [e]at hr;cases hr
   ·rw [e]at hr;cases hr;exact .inr hr'
 have hlt:=fun i hi=>(h.set i hi).2.own_lt
 have hne:∀r,Own (bk t) (vk t) r\/w1.heap.size<=r->r≠w.heap.size+1:=fun r hr e=>by
  rcases hr with hr|hr
  ·have:=hlt t ht r hr;omega
  ·omega
 have hR:=h.row.lt
 have hsep:∀i,i<4->i≠t->∀r,Own (bk i) (vk i) r->¬Own (bk t) v' r:=fun i hi hit r hr hr2=>by
  rcases hown r hr2 with h1|h1
  ·exact h.sep i t hi ht hit r hr h1
  ·have:=hlt i hi r hr;omega
 have ho:∀i,i<4->∀r,Own (bk i) (upd vk t v' i) r->Own (bk i) (vk i) r\/w1.heap.size<=r:=by
  intro i hi r hr
  unfold upd at hr
  split at hr
  ·next e=>subst e;exact hown r hr
  ·exact .inl hr
 refine ⟨⟨?_,?_,?_,?_,h.base,?_,?_⟩,?_,?_⟩
 ·exact ((h.row.keep hf1 (fun h=>h)).keep k.fr (fun hr=>(h.off t ht R hr).1 rfl)).keep hg (by omega)
 ·intro i hi
  unfold upd
  split
  ·next e=>subst e;exact hba.keep hg (fun r hr e=>hne r (hown r hr) e)
  ·next e=>exact (((h.set i hi).keep hf1 (fun _ _ h=>h)).keep k.fr (fun r hr hr2=>h.sep i t hi ht e r hr hr2)).keep hg (fun r hr e=>by have:=hlt i hi r hr;have e:r=_:=e;omega)
 ·intro i j hi hj hij r hr hr2
  unfold upd at hr hr2
  split at hr
  ·next e=>
   subst e
   rw [if_neg (fun e=>hij e.symm)]at hr2
   exact hsep j hj (fun e=>hij e.symm) r hr2 hr
  ·next e=>
   split at hr2
   ·next e2=>subst e2;exact hsep i hi e r hr hr2
   ·exact h.sep i j hi hj hij r hr hr2
 ·intro i hi r hr
  rcases ho i hi r hr with h1|h1
  ·exact h.off i hi r h1
  ·have:=h.base;omega
 ·exact ((h.tab.keep hf1 (fun h=>h)).keep k.fr (fun hr=>by have:=(h.off t ht 0 hr).2;have:=h.base;omega)).keep hg (by have:=h.base;omega)
 ·exact ((h.pow.keep hf1 (fun h=>h)).keep k.fr (fun hr=>by have:=(h.off t ht 6 hr).2;have:=h.base;omega)).keep hg (by have:=h.base;omega)
 ·exact ((hf1.mono (fun r (h:False)=>h.elim)).trans (k.fr.mono fun r hr=> .inr ⟨t,ht,hr⟩)).trans' hg (fun r hr=> .inr (by have hr:r=_:=hr;omega))
 ·rintro r (rfl|⟨i,hi,hr⟩)
  ·exact .inl (.inl rfl)
  ·rcases ho i hi r hr with h1|h1
   ·exact .inl (.inr ⟨i,hi,h1⟩)
   ·exact .inr (by omega)
theorem imp_c{w w':World}{R G t:Nat}{bk:Nat->Nat}{vk:Nat->Value}{ls:Nat->List Bool}(h:Imp w R G bk vk ls)(ht:t<4){op:Int}{L:Nat}{m:Nat->Bool}{l':List Bool}(hl:l'.length=L)(hm:mOf l'=m){e:Ending}
  (hd:DoC w R op (fun w1 w2=>∃v',BA w2 (bk t) v' L m/\Ch w1 w2 (bk t) (vk t) v') e w'):ImpP w R G bk vk op ⟨false,0,0,{ data:= #[] },[],[]⟩ (upd ls t l') e w':=by
 obtain ⟨rfl,w1,w2,hf1,hs1,⟨v',hba,k⟩,_,hg⟩:=hd
 obtain ⟨h1,h2,h3⟩:=imp_mut h ht hl hm hf1 hs1 hba k hg
 exact ⟨0,_,_,rfl,fun _=>rfl,Lst.nil _ 28 1,Lst.nil _ 5 1,bk,_,h1,h2,h3,fun r hr=>by rcases hr with hr|hr <;> cases hr⟩
theorem imp_k{w w':World}{R G t q:Nat}{bk:Nat->Nat}{vk:Nat->Value}{ls:Nat->List Bool}(h:Imp w R G bk vk ls)(ht:t<4){L:Nat}{m:Nat->Bool}{l':List Bool}(hl:l'.length=L)(hm:mOf l'=m){e:Ending}
  (hd:DoK w R (fun k w1 w2=>k=q/\∃v',BA w2 (bk t) v' L m/\Ch w1 w2 (bk t) (vk t) v') e w'):ImpP w R G bk vk 22 ⟨false,q,0,{ data:= #[] },[],[]⟩ (upd ls t l') e w':=by
 obtain ⟨n,rfl,w1,w2,hf1,hs1,⟨rfl,v',hba,k⟩,_,hg⟩:=hd
 obtain ⟨h1,h2,h3⟩:=imp_mut h ht hl hm hf1 hs1 hba k hg
 exact ⟨n,_,_,rfl,fun _=>rfl,Lst.nil _ 28 1,Lst.nil _ 5 1,bk,_,h1,h2,h3,fun r hr=>by rcases hr with hr|hr <;> cases hr⟩
theorem imp_new{w w':World}{R G c:Nat}{bk:Nat->Nat}{vk:Nat->Value}{ls:Nat->List Bool}(h:Imp w R G bk vk ls)(hc:c<4){op:Int}{is:Bool}{L:Nat}{m:Nat->Bool}{l':List Bool}(hl:l'.length=L)(hm:mOf l'=m){e:Ending}
  (hd:DoM w R bk c op is L m e w'):ImpP w R G bk vk op ⟨is,0,0,{ data:= #[] },[],[]⟩ (upd ls c l') e w':=by
 subst hl;subst hm
 obtain ⟨rfl,d,v,hba,ho,hf,hrow⟩:=hd
 have hlt:=fun i hi=>(h.set i hi).2.own_lt
 have hR:=h.row.lt
 have hown:∀i,i<4->∀r,Own (upd bk c d i) (upd vk c v i) r->(i≠c/\Own (bk i) (vk i) r)\/(i=c/\w.heap.size+2<=r):=by
  intro i hi r hr
  unfold upd at hr
  split at hr
  ·next e=>exact .inr ⟨e,ho r hr⟩
  ·next e=>exact .inl ⟨e,hr⟩
 refine ⟨0,_,_,rfl,fun _=>rfl,Lst.nil _ 28 1,Lst.nil _ 5 1,upd bk c d,upd vk c v,⟨hrow,?_,?_,?_,h.base,h.tab.keep hf (by have:=h.base;omega),h.pow.keep hf (by have:=h.base;omega)⟩,hf.mono fun r hr=> .inl hr,?_,fun r hr=>by rcases hr with hr|hr <;> cases hr⟩
 ·intro i hi
  unfold upd
  split
  ·exact hba
  ·exact (h.set i hi).keep hf (fun r hr e=>(h.off i hi r hr).1 e)
 ·intro i j hi hj hij r hr hr2
  rcases hown i hi r hr with ⟨e1,h1⟩|⟨e1,h1⟩ <;> rcases hown j hj r hr2 with ⟨e2,h2⟩|⟨e2,h2⟩
  ·exact h.sep i j hi hj hij r h1 h2
  ·have:=hlt i hi r h1;omega
  ·have:=hlt j hj r h2;omega
  ·omega
 ·intro i hi r hr
  rcases hown i hi r hr with ⟨e1,h1⟩|⟨e1,h1⟩
  ·exact h.off i hi r h1
  ·have:=h.base;omega
 ·rintro r (rfl|⟨i,hi,hr⟩)
  ·exact .inl (.inl rfl)
  ·rcases hown i hi r hr with ⟨e1,h1⟩|⟨e1,h1⟩
   ·exact .inl (.inr ⟨i,hi,h1⟩)
   ·exact .inr (by omega)
theorem mOf_map(N:Nat)(f:Nat->Bool)(i:Nat):mOf ((List.range N).map f) i=if i<N then f i else false:=by
 split
 ·next h=>exact mOf_range N f i h
 ·next h=>exact mOf_out _ (by simp;omega)
theorem mOf_app(x y:List Bool)(i:Nat):mOf (x++y) i=if i<x.length then mOf x i else mOf y (i-x.length):=by
 unfold mOf;simp only [List.getD,List.getElem?_append];split <;> rfl
theorem mOf_set(l:List Bool)(n:Nat)(b:Bool)(h:n<l.length)(i:Nat):mOf (l.set n b) i=if i=n then b else mOf l i:=by
 unfold mOf;simp only [List.getD,List.getElem?_set]
 by_cases e:n=i
 ·subst e;simp [h]
 ·rw [if_neg e,if_neg (fun h=>e h.symm)]
theorem mOf_take(l:List Bool)(n i:Nat):mOf (l.take n) i=if i<n then mOf l i else false:=by
 unfold mOf;simp only [List.getD,List.getElem?_take];split <;> simp
theorem mOf_drop(l:List Bool)(n i:Nat):mOf (l.drop n) i=mOf l (n+i):=by
 unfold mOf;simp only [List.getD,List.getElem?_drop]
theorem mOf_rep(n i:Nat):mOf (List.replicate n false) i=false:=by
 unfold mOf;simp only [List.getD,List.getElem?_replicate];split <;> rfl
theorem lw0(l:List Bool)(n:Nat):(putL l n true).length=max l.length (n+1)/\mOf (putL l n true)=fun j=>if j=n then true else mOf l j:=by
 refine ⟨by simp [putL,longL_length],funext fun j=>?_⟩
 rw [putL,mOf_set _ _ _ (by rw [longL_length];omega),mOf_long]
theorem lw1(l:List Bool)(n:Nat):(putL l n false).length=l.length/\mOf (putL l n false)=fun j=>if j=n then false else mOf l j:=by
 refine ⟨by simp [putL],funext fun j=>?_⟩
 rw [putL]
 by_cases h:n<l.length
 ·exact mOf_set _ _ _ h j
 ·rw [List.set_eq_of_length_le (by omega)]
  split
  ·next e=>subst e;exact mOf_out l (by omega)
  ·rfl
theorem lw3(l:List Bool)(n:Nat):(longL (putL l n (!mOf l n)) (n+1)).length=max l.length (n+1)/\mOf (longL (putL l n (!mOf l n)) (n+1))=fun j=>if j=n then !mOf l n else mOf l j:=by
 refine ⟨?_,funext fun j=>?_⟩
 ·rw [longL_length];cases h:mOf l n
  ·simp only [Bool.not_false];rw [(lw0 l n).1];omega
  ·simp only [Bool.not_true];rw [(lw1 l n).1]
 ·rw [mOf_long];cases h:mOf l n
  ·simp only [Bool.not_false];rw [(lw0 l n).2]
  ·simp only [Bool.not_true];rw [(lw1 l n).2]
theorem lwR(l:List Bool)(fr to:Nat)(al:Bool):(rngL l fr to al).length=max l.length to/\mOf (rngL l fr to al)=fun i=>if fr<=i/\i<to then (al|| !mOf l i) else mOf l i:=by
 refine ⟨by simp [rngL],funext fun i=>?_⟩
 rw [rngL,mOf_map]
 unfold rngF
 split
 ·rfl
 ·rw [if_neg (by omega),mOf_out l (by omega)]
theorem lw6(l:List Bool)(n:Nat)(h:n<l.length):(l.take n++false::l.drop n).length=l.length+1/\mOf (l.take n++false::l.drop n)=insB (mOf l) n:=by
 have ht:(l.take n).length=n:=by simp;omega
 refine ⟨by simp;omega,funext fun i=>?_⟩
 unfold insB
 rw [mOf_app,ht]
 split
 ·rw [mOf_take,if_pos (by assumption)]
 ·by_cases e:i=n
  ·subst e;rw [if_pos rfl,Nat.sub_self];rfl
  ·rw [if_neg e]
   obtain ⟨k,rfl⟩:∃k,i=n+(k+1):=⟨i-n-1,by omega⟩
   rw [show n+(k+1)-n=k+1 by omega,show n+(k+1)-1=n+k by omega]
   show mOf (l.drop n) k=_
   rw [mOf_drop]
theorem lw7(l:List Bool)(n:Nat)(h:n<l.length):(l.take n++l.drop (n+1)).length=l.length-1/\mOf (l.take n++l.drop (n+1))=delB (mOf l) n:=by
 have ht:(l.take n).length=n:=by simp;omega
 refine ⟨by simp;omega,funext fun i=>?_⟩
 unfold delB
 rw [mOf_app,ht]
 split
 ·rw [mOf_take,if_pos (by assumption)]
 ·rw [mOf_drop,show n+1+(i-n)=i+1 by omega]
theorem lw8(l:List Bool)(n:Nat)(h:n<l.length):(l.take (n+1)).length=n+1/\mOf (l.take (n+1))=fun i=>mOf l i&&decide (i<=n):=by
 refine ⟨by simp;omega,funext fun i=>?_⟩
 rw [mOf_take]
 split
 ·rw [decide_eq_true (by omega),Bool.and_true]
 ·rw [decide_eq_false (by omega),Bool.and_false]
theorem lw10(n:Nat):(List.replicate n false).length=n/\mOf (List.replicate n false)=fun _=>false:=⟨by simp,funext fun i=>mOf_rep n i⟩
theorem lwJ(a b:List Bool)(tb:Bool->Bool->Bool)(N:Nat)(f:Nat->Bool)(hf:∀i,f i=if i<N then tb (mOf a i) (mOf b i) else false):(joinL a b tb N).length=N/\mOf (joinL a b tb N)=f:=
 ⟨joinL_length a b tb N,funext fun i=>by rw [hf,joinL,mOf_map]⟩
theorem lw22(a c:List Bool):(copL a c (min ((a.length+63)/64*64) c.length)).length=c.length/\mOf (copL a c (min ((a.length+63)/64*64) c.length))=cpyB a.length c.length (mOf a) (mOf c):=by
 refine ⟨copL_length _ _ _,funext fun i=>?_⟩
 rw [copL,mOf_map]
 unfold cpyB below nw
 by_cases h1:i<c.length
 ·rw [if_pos h1]
  by_cases h2:i<64*((a.length+63)/64)
  ·rw [if_pos (by omega),if_pos h2,decide_eq_true h1,Bool.and_true]
  ·rw [if_neg (by omega),if_neg h2]
 ·rw [if_neg h1]
  split
  ·rw [decide_eq_false h1,Bool.and_false]
  ·exact (mOf_out c (by omega)).symm
theorem lw25(l:List Bool)(n:Nat):((List.range l.length).map (fun i=>mOf l (i+n))).length=l.length/\mOf ((List.range l.length).map (fun i=>mOf l (i+n)))=down (mOf l) n:=by
 refine ⟨by simp,funext fun i=>?_⟩
 rw [mOf_map]
 unfold down
 split
 ·rfl
 ·exact (mOf_out l (by omega)).symm
theorem ex_nums(a m:Nat->Bool)(n:Nat):(numsN m n).map a=exL a m n:=by
 induction n with
 |zero=>rfl
 |succ n ih=>unfold numsN exL;rw [List.map_append,ih];cases m n <;> rfl
theorem lw26(a b:List Bool):((numsN (mOf b) b.length).map (mOf a)).length=cntN (mOf b) b.length/\mOf ((numsN (mOf b) b.length).map (mOf a))=exM (mOf a) (mOf b) b.length:=by
 rw [ex_nums]
 exact ⟨exL_length _ _ _,rfl⟩
theorem lw27(a b:List Bool):((List.range b.length).map (fun i=>mOf b i&&mOf a (cntN (mOf b) i))).length=b.length/\mOf ((List.range b.length).map (fun i=>mOf b i&&mOf a (cntN (mOf b) i)))=dpB (mOf a) (mOf b):=by
 refine ⟨by simp,funext fun i=>?_⟩
 rw [mOf_map]
 unfold dpB
 split
 ·rfl
 ·rw [mOf_out b (by omega),Bool.false_and]
theorem lw28(ws:List (BitVec 64))(M:Nat)(h:M=ws.length):((List.range (64*M)).map (bitsOf ws)).length=64*M/\mOf ((List.range (64*M)).map (bitsOf ws))=mW ws:=by
 refine ⟨by simp,funext fun i=>?_⟩
 rw [mOf_map]
 split
 ·rfl
 ·exact (mW_out ws i (by omega)).symm
theorem topN_none(m:Nat->Bool)(n:Nat)(h:∀i,i<n->m i=false):topN m n=0:=by
 induction n with
 |zero=>rfl
 |succ n ih=>unfold topN;rw [h n (by omega)];exact ih fun i hi=>h i (by omega)
theorem topN_at(m:Nat->Bool)(n:Nat)(h:0<topN m n):m (topN m n-1)=true/\topN m n<=n:=by
 induction n with
 |zero=>exact absurd h (by simp [topN])
 |succ n ih=>
  unfold topN at h ⊢
  split at h
  ·next e=>rw [if_pos e];exact ⟨e,Nat.le_refl _⟩
  ·next e=>rw [if_neg e];have:=ih h;exact ⟨this.1,by omega⟩
theorem topN_over(l:List Bool)(j:Nat)(h:topN (mOf l) l.length<=j):mOf l j=false:=by
 by_cases hj:j<l.length
 ·cases e:mOf l j
  ·rfl
  ·have:=topN_gt (mOf l) l.length j hj e;omega
 ·exact mOf_out l (by omega)
theorem tops_k(l:List Bool)(k:Nat)(h:Tops (mOf l) k):k=(topN (mOf l) l.length+63)/64:=by
 obtain ⟨h1,h2⟩:=h
 rcases Nat.eq_zero_or_pos k with rfl|hk
 ·rw [topN_none _ _ (fun i _=>h1 i (by omega))]
 ·obtain ⟨i,a,b,c⟩:=h2 hk
  have hi:i<l.length:=by
   apply Classical.byContradiction;intro hn
   rw [mOf_out l (by omega)]at c;cases c
  have h3:=topN_gt (mOf l) l.length i hi c
  have h4:=topN_at (mOf l) l.length (by omega)
  have h5:topN (mOf l) l.length-1<64*k:=by
   apply Classical.byContradiction;intro hn
   rw [h1 _ (by omega)]at h4;exact absurd h4.1 (by simp)
  omega
theorem lw9(l:List Bool)(N:Nat)(h:N<l.length)(ht:topN (mOf l) l.length<=N):(l.take N).length=N/\mOf (l.take N)=mOf l:=by
 refine ⟨by simp;omega,funext fun i=>?_⟩
 rw [mOf_take]
 split
 ·rfl
 ·exact (topN_over l i (by omega)).symm
theorem lw24(l:List Bool)(n:Nat)(h0:0<topN (mOf l) l.length):((List.range (max l.length (topN (mOf l) l.length+n))).map (shF (mOf l) n l.length)).length=max l.length (topN (mOf l) l.length-1+n+1)/\mOf ((List.range (max l.length (topN (mOf l) l.length+n))).map (shF (mOf l) n l.length))=up (mOf l) n:=by
 refine ⟨by simp;omega,funext fun i=>?_⟩
 rw [mOf_map]
 unfold shF up
 by_cases h1:n<=i
 ·rw [decide_eq_true h1]
  split
  ·by_cases h2:i<l.length+n
   ·rw [decide_eq_true h2];simp
   ·rw [decide_eq_false h2,mOf_out l (by omega)];simp
  ·rw [topN_over l (i-n) (by omega)];simp
 ·rw [decide_eq_false h1];simp
structure StD where
 op:Int
 a:Nat
 b:Nat
 c:Nat
 fr:Nat
 to:Nat
 n:Nat
 wd:BitVec 64
 ws:List (BitVec 64)
abbrev StD.v(s:StD)(many:Value):Value:=istV s.op s.a s.b s.c s.fr s.to s.n s.wd many
def StepOK(s:StD)(ls ls':Nat->List Bool)(A:AnsD):Prop:=
 ∀(w:World) (R G cR:Nat) (bk:Nat->Nat) (vk:Nat->Value) (many:Value),Imp w R G bk vk ls->Src w 1 many s.ws.length (s.ws.map WV)->
  Calls Tryz.prog 30 #[s.v many,.slice (some ⟨R,0,none⟩) 4 cR] w (ImpP w R G bk vk s.op A ls')
def ans0D:AnsD:=⟨false,0,0,{ data:= #[] },[],[]⟩
theorem Ch.pre{w w1 w2:World}{b:Nat}{v v':Value}(hf:Fr (fun _=>False) w w1)(k:Ch w1 w2 b v v'):Ch w w2 b v v':=by
 refine ⟨(hf.mono (fun r (h:False)=>h.elim)).trans k.fr,?_⟩
 have:=hf.size
 rcases k.own with e|e|⟨r,e,hr⟩
 ·exact .inl e
 ·exact .inr (.inl e)
 ·exact .inr (.inr ⟨r,e,by omega⟩)
theorem upd_same{α:Type}(f:Nat->α)(t:Nat):upd f t (f t)=f:=funext fun i=>by unfold upd;split <;> simp_all
theorem Imp.two{w:World}{R G:Nat}{bk:Nat->Nat}{vk:Nat->Value}{ls:Nat->List Bool}(h:Imp w R G bk vk ls){a b:Nat}(ha:a<4)(hb:b<4):
  (bk b=bk a/\mOf (ls b)=mOf (ls a))\/Sep (bk a) (vk a) (bk b) (vk b):=by
 by_cases e:b=a
 ·subst e;exact .inl ⟨rfl,rfl⟩
 ·exact .inr (h.sep a b ha hb (fun h=>e h.symm))
theorem stepC(s:StD)(ls:Nat->List Bool)(hop:s.op<16\/s.op=24\/s.op=25)(ha:s.a<4)(hb:s.b<4)(hc:s.c<4){L:Nat}{m:Nat->Bool}{l':List Bool}(hl:l'.length=L/\mOf l'=m)
  (hcall:∀(w:World) (R G:Nat) (bk:Nat->Nat) (vk:Nat->Value) (many:Value),Imp w R G bk vk ls->Calls Tryz.prog 35 #[s.v many,.pointer (some ⟨bk s.a,0,none⟩),.pointer (some ⟨bk s.b,0,none⟩)] w (MutA w (bk s.a) (vk s.a) L m (.tuple #[]))):
  StepOK s ls (upd ls s.a l') ans0D:=by
 intro w R G cR bk vk many h _
 have hcc:∀w1,Fr (fun _=>False) w w1->w.heap.size+2<=w1.heap.size->Calls Tryz.prog 35 #[s.v many,.pointer (some ⟨bk s.a,0,none⟩),.pointer (some ⟨bk s.b,0,none⟩)] w1 fun e w'=>e= .returned (.tuple #[])/\(∃v',BA w' (bk s.a) v' L m/\Ch w1 w' (bk s.a) (vk s.a) v')/\Fr (OldT w R) w1 w':=fun w1 hf _=>
  (hcall w1 R G bk vk many (h.keep hf (fun _ _ h=>h) (fun _ _ h=>h))).mono fun e w' ⟨he,v',hv,hk⟩=>⟨he,⟨v',hv,hk⟩,h.old ha hk⟩
 have hfin:=fun e w' hd=>imp_c (w':=w') (op:=s.op) (e:=e) h ha hl.1 hl.2 hd
 obtain ⟨op,a,b,c,fr,to,n,wd,ws⟩:=s
 rcases hop with hop|rfl|rfl
 ·exact (dim_lo op a b c fr to n R cR wd many bk _ w hop ha hb hc h.row hcc).mono hfin
 ·exact (dim_24 a b c fr to n R cR wd many bk _ w ha hb hc h.row hcc).mono hfin
 ·exact (dim_25 a b c fr to n R cR wd many bk _ w ha hb hc h.row hcc).mono hfin
theorem stepN(s:StD)(ls:Nat->List Bool)(is:Bool)(hop:(16<=s.op/\s.op<40/\s.op≠22/\s.op≠23/\s.op≠24/\s.op≠25/\s.op≠29/\is=false)\/(s.op=29/\is=true))(ha:s.a<4)(hb:s.b<4)(hc:s.c<4){L:Nat}{m:Nat->Bool}{l':List Bool}(hl:l'.length=L/\mOf l'=m)
  (hcall:∀(w:World) (R G:Nat) (bk:Nat->Nat) (vk:Nat->Value) (many:Value),Imp w R G bk vk ls->Src w 1 many s.ws.length (s.ws.map WV)->Calls Tryz.prog 36 #[s.v many,.pointer (some ⟨bk s.a,0,none⟩),.pointer (some ⟨bk s.b,0,none⟩)] w (ReadP w L m)):
  StepOK s ls (upd ls s.c l') { ans0D with is:=is }:=by
 intro w R G cR bk vk many h hs
 have hcc:=fun w1 (hf:Fr (fun _=>False) w w1) (_:w.heap.size+2<=w1.heap.size)=>hcall w1 R G bk vk many (h.keep hf (fun _ _ h=>h) (fun _ _ h=>h)) (hs.keep hf (fun _ _ h=>h))
 have hfin:=fun e w' hd=>imp_new (w':=w') (op:=s.op) (is:=is) (e:=e) h hc hl.1 hl.2 hd
 obtain ⟨op,a,b,c,fr,to,n,wd,ws⟩:=s
 rcases hop with ⟨h1,h2,h3,h4,h5,h6,h7,rfl⟩|⟨rfl,rfl⟩
 ·exact (dim_made op a b c fr to n R cR wd many bk L m w ⟨h1,h2,h3,h4,h5,h6,h7⟩ ha hb hc h.row hcc).mono hfin
 ·exact (dim_29 a b c fr to n R cR wd many bk L m w ha hb hc h.row hcc).mono hfin
theorem stepQ(s:StD)(ls:Nat->List Bool)(A:AnsD)(Q:Bool->Nat->Int->ByteArray->List Value->List Value->Prop)(ha:s.a<4)(hb:s.b<4)(hc:s.c<4)
  (hq:∀is n z t xs bs,Q is n z t xs bs->is=A.is/\(A.is=true\/s.op<53\/56<s.op->n=A.n)/\z=wn A.wd/\t=A.s/\xs=A.xs/\bs=A.bs)
  (hop:(((40<=s.op/\s.op<46)\/61<s.op)/\∀(w:World) (R G:Nat) (bk:Nat->Nat) (vk:Nat->Value) (many:Value),Imp w R G bk vk ls->Calls Tryz.prog 37 #[s.v many,.pointer (some ⟨bk s.a,0,none⟩)] w (AskQ w s.op Q))\/
   ((46<=s.op/\s.op<53)/\∀(w:World) (R G:Nat) (bk:Nat->Nat) (vk:Nat->Value) (many:Value),Imp w R G bk vk ls->Calls Tryz.prog 38 #[s.v many,.pointer (some ⟨bk s.a,0,none⟩),.pointer (some ⟨bk s.b,0,none⟩)] w (AskQ w s.op Q))\/
   ((53<=s.op/\s.op<=61)/\∀(w:World) (R G:Nat) (bk:Nat->Nat) (vk:Nat->Value) (many:Value),Imp w R G bk vk ls->Calls Tryz.prog 39 #[s.v many,.pointer (some ⟨bk s.a,0,none⟩)] w (AskQ w s.op Q))):
  StepOK s ls ls A:=by
 intro w R G cR bk vk many h hs
 have hk:=fun w1 (hf:Fr (fun _=>False) w w1)=>h.keep hf (fun _ _ h=>h) (fun _ _ h=>h)
 have hfin:=fun e w' hd=>imp_ask (w':=w') (e:=e) h hd hq
 obtain ⟨op,a,b,c,fr,to,n,wd,ws⟩:=s
 rcases hop with ⟨ho|ho,hcall⟩|⟨ho,hcall⟩|⟨ho,hcall⟩
 ·exact (dim_asl op a b c fr to n R cR wd many bk Q w ho ha hb hc h.row fun w1 hf _=>hcall w1 R G bk vk many (hk w1 hf)).mono hfin
 ·exact (dim_ash op a b c fr to n R cR wd many bk Q w ho ha hb hc h.row fun w1 hf _=>hcall w1 R G bk vk many (hk w1 hf)).mono hfin
 ·exact (dim_cmp op a b c fr to n R cR wd many bk Q w ho ha hb hc h.row fun w1 hf _=>hcall w1 R G bk vk many (hk w1 hf)).mono hfin
 ·exact (dim_sgt op a b c fr to n R cR wd many bk Q w ho ha hb hc h.row fun w1 hf _=>hcall w1 R G bk vk many (hk w1 hf)).mono hfin
theorem right_lo(op:Int)(a b c fr to n R cR M cM:Nat)(oM:Option Addr)(wd:BitVec 64)(w:World)(hop:0<=op/\op<=30/\op≠24)(ha:a<4)(hb:b<4)(hc:c<4)(hfr:fr<=2000)(hto:to<=2000)(hn:n<=2000)(hM:M<=20):
  Calls Tryz.prog 29 #[istV op a b c fr to n wd (.slice oM M cM),.slice (some ⟨R,0,none⟩) 4 cR] w fun e w'=>e= .returned (.bool true)/\Fr (fun _=>False) w w':=by
 have za:decide ((a:Int)<0)=false:=by simp
 have zb:decide ((b:Int)<0)=false:=by simp
 have zc:decide ((c:Int)<0)=false:=by simp
 have da:decide (3<(a:Int))=false:=by simp;omega
 have db:decide ((3:Int)<(b:Int))=false:=by simp;omega
 have dc:decide ((3:Int)<(c:Int))=false:=by simp;omega
 have df:decide ((20000:Int)<(fr:Int))=false:=by simp;omega
 have dt:decide ((20000:Int)<(to:Int))=false:=by simp;omega
 have dn:decide ((20000:Int)<(n:Int))=false:=by simp;omega
 have dm:decide ((100:Int)<(M:Int))=false:=by simp;omega
 have t24:(op==24)=false:=by simp;omega
 have t0:decide (0<=op)=true:=by simp;omega
 have t30:decide (op<=30)=true:=by simp;omega
 clear hop
 unfold istV
 go_enter Tryz.func29,Tryz.ntmps29
 go_wp2
 go_ret
 exact ⟨rfl,(Fr.refl _ w).alloc _⟩
theorem right_hi(op:Int)(a b c fr to n R cR M cM:Nat)(oM:Option Addr)(wd:BitVec 64)(w:World)(hop:40<=op/\op<=64)(ha:a<4)(hb:b<4)(hc:c<4)(hfr:fr<=2000)(hto:to<=2000)(hn:n<=2000)(hM:M<=20):
  Calls Tryz.prog 29 #[istV op a b c fr to n wd (.slice oM M cM),.slice (some ⟨R,0,none⟩) 4 cR] w fun e w'=>e= .returned (.bool true)/\Fr (fun _=>False) w w':=by
 have za:decide ((a:Int)<0)=false:=by simp
 have zb:decide ((b:Int)<0)=false:=by simp
 have zc:decide ((c:Int)<0)=false:=by simp
 have da:decide (3<(a:Int))=false:=by simp;omega
 have db:decide ((3:Int)<(b:Int))=false:=by simp;omega
 have dc:decide ((3:Int)<(c:Int))=false:=by simp;omega
 have df:decide ((20000:Int)<(fr:Int))=false:=by simp;omega
 have dt:decide ((20000:Int)<(to:Int))=false:=by simp;omega
 have dn:decide ((20000:Int)<(n:Int))=false:=by simp;omega
 have dm:decide ((100:Int)<(M:Int))=false:=by simp;omega
 have t24:(op==24)=false:=by simp;omega
 have t0:decide (0<=op)=true:=by simp;omega
 have t30:decide (op<=30)=false:=by simp;omega
 have t40:decide (40<=op)=true:=by simp;omega
 have t64:decide (op<=64)=true:=by simp;omega
 clear hop
 unfold istV
 go_enter Tryz.func29,Tryz.ntmps29
 go_wp2
 go_ret
 exact ⟨rfl,(Fr.refl _ w).alloc _⟩
theorem right_24(a b c fr to n R cR M cM:Nat)(oM:Option Addr)(wd:BitVec 64)(w:World)(ha:a<4)(hb:b<4)(hc:c<4)(hfr:fr<=2000)(hto:to<=2000)(hn:n<=2000)(hM:M<=20)(x L:Nat)(hx:w.cell? ⟨R,a,none⟩=some (.pointer (some ⟨x,0,none⟩)))(hL:w.cell? ⟨x,0,none⟩=some (.int .u64 (L:Int)))(hl:L<=3000):
  Calls Tryz.prog 29 #[istV 24 a b c fr to n wd (.slice oM M cM),.slice (some ⟨R,0,none⟩) 4 cR] w fun e w'=>e= .returned (.bool true)/\Fr (fun _=>False) w w':=by
 have za:decide ((a:Int)<0)=false:=by simp
 have zb:decide ((b:Int)<0)=false:=by simp
 have zc:decide ((c:Int)<0)=false:=by simp
 have da:decide (3<(a:Int))=false:=by simp;omega
 have db:decide ((3:Int)<(b:Int))=false:=by simp;omega
 have dc:decide ((3:Int)<(c:Int))=false:=by simp;omega
 have df:decide ((20000:Int)<(fr:Int))=false:=by simp;omega
 have dt:decide ((20000:Int)<(to:Int))=false:=by simp;omega
 have dn:decide ((20000:Int)<(n:Int))=false:=by simp;omega
 have dm:decide ((100:Int)<(M:Int))=false:=by simp;omega
 have hR:=block_lt_of_cell hx
 have hX:=block_lt_of_cell hL
 simp only at hR hX
 have n0:¬R=w.heap.size:=by omega
 have n1:¬x=w.heap.size:=by omega
 have ia:(0:Int)<=(a:Int)/\(a:Int)<(4:Nat):=by omega
 have hs:IntKind.u64.wrap ((L:Int)+(n:Int))=((L+n:Nat):Int):=by rw [IntKind.wrap_u64];omega
 have dl:decide (((L+n:Nat):Int)<=40000)=true:=by simp;omega
 have dl3:decide ((L:Int)+(n:Int)<=40000)=true:=by simp;omega
 have dl2:decide ((L+n:Nat)<=40000)=true:=by simp;omega
 have HL1:∀o,(w.alloc o).cell? ⟨x,0,none⟩=some (.int .u64 (L:Int)):=fun o=>(((Fr.refl (fun _=>False) w).alloc o).cell (a:=⟨x,0,none⟩) hX (fun h=>h)).trans hL
 clear hfr hto hn hM ha hb hc hl
 unfold istV
 go_enter Tryz.func29,Tryz.ntmps29
 go_wp2
 go_quiet ((go_at_call 31;exact Calls.quiet_of_same (len_c x L _ (HL1 _))))
 go_wp2
 go_ret
 exact ⟨by first|rfl|(rw [<- dl3];rfl),((Fr.refl _ w).alloc _).drewN _⟩
end Go.Proofs.YtobdfhlmipcjbaaGreatDoor
