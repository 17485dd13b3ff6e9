/- impl.asked, compared, sought, step by step: what the called function answers is what the step. -/
import Derived.Test.YtobdfhlmipcjbaaGreatDoorG36
set_option linter.unusedVariables false
set_option linter.unusedSimpArgs false
set_option maxRecDepth 100000
namespace Go.Proofs.YtobdfhlmipcjbaaGreatDoor
open Go.RowKit
def TlB(w:World)(k:Int)(Q:Bool->Prop)(e:Ending)(w':World):Prop:=∃r,Q r/\TellP w k r 0 (.int .u64 0) { data:= #[] } [] [] e w'
def TlN(w:World)(k:Int)(Q:Nat->Prop)(e:Ending)(w':World):Prop:=∃r,Q r/\TellP w k false r (.int .u64 0) { data:= #[] } [] [] e w'
def TlV(w:World)(k:Int)(Q:BitVec 64->Prop)(e:Ending)(w':World):Prop:=∃r,Q r/\TellP w k false 0 (WV r) { data:= #[] } [] [] e w'
def TlS(w:World)(k:Int)(Q:ByteArray->Prop)(e:Ending)(w':World):Prop:=∃r,Q r/\TellP w k false 0 (.int .u64 0) r [] [] e w'
def TlX(w:World)(k:Int)(Q:Nat->Bool->Prop)(e:Ending)(w':World):Prop:=∃i r,Q i r/\TellP w k r i (.int .u64 0) { data:= #[] } [] [] e w'
theorem tls_40(a b c fr to n x:Nat)(wd:BitVec 64)(many:Value)(Q:Bool->Prop)(w:World)(hc:∀w1,Fr (fun _=>False) w w1->Calls Tryz.prog 72 #[.pointer (some ⟨x,0,none⟩),.int .u64 (n:Int)] w1 fun e w'=>(∃r,e= .returned (.bool r)/\Q r)/\Fr (fun _=>False) w1 w'):
  Calls Tryz.prog 37 #[istV 40 a b c fr to n wd many,.pointer (some ⟨x,0,none⟩)] w (TlB w 40 Q):=by
 have HM:=Lib.hid (telMid 40 a b c fr to n wd many w)
 have HC:=Lib.hid (hc _ HM.out.fr)
 clear hc
 unfold tldO istO at HM HC
 unfold istV
 go_enter Tryz.func37,Tryz.ntmps37
 go_wp2_with (go_at_call 72;refine HC.out.mono ?_;rintro e w2 ⟨⟨r,rfl,hq⟩,hf⟩;refine Hid.out ?_)
 refine Lib.hid ?_
 have HQ:=Lib.hid hq;clear hq
 have HT:=Lib.hid (TelW.keep HM.out hf);clear hf
 obtain ⟨⟨e0,f0,e1,f1,e2,f2,e3,f3,e4,f4,e5,f5,e6,f6⟩,⟨g0,h0,g1,h1,g2,h2,g3,h3,g4,h4,g5,h5,g6,h6⟩⟩:=HT.out.sev
 go_wp2
 clear e0 e1 e2 e3 e4 e5 e6 f0 f1 f2 f3 f4 f5 f6 g0 h0 g1 h1 g2 h2 g3 h3 g4 h4 g5 h5 g6 h6
 obtain ⟨w4,hw4,e0,e1,e2,e3,e4,e5,e6,HF,HG⟩:=telEnd (w3:=(w2.setCell ⟨w.heap.size+1+1,1,none⟩ (.bool r))) HT.out ((Fr.refl (· =w.heap.size+1+1) w2).setCell (.inl rfl) _) (.int .i64 40) (.bool r) (.int .u64 0) (.int .u64 0) (.string { data:= #[] }) (.slice none 0 0) (.slice none 0 0)
 rw [hw4];clear hw4
 simp [bodyPost,results,Tryz.f37,go_sem,e0,e1,e2,e3,e4,e5,e6]
 exact ⟨r,HQ.out,_,_,rfl,Lst.nil _ 28 1,Lst.nil _ 5 1,by intro r h;exact absurd h (by simp [Value.ownBlock]),by intro r h;exact absurd h (by simp [Value.ownBlock]),HF.out⟩
theorem tls_41(a b c fr to n x:Nat)(wd:BitVec 64)(many:Value)(Q:Nat->Prop)(w:World)(hc:∀w1,Fr (fun _=>False) w w1->Calls Tryz.prog 73 #[.pointer (some ⟨x,0,none⟩)] w1 fun e w'=>(∃r:Nat,e= .returned (.int .u64 (r:Int))/\Q r)/\Fr (fun _=>False) w1 w'):
  Calls Tryz.prog 37 #[istV 41 a b c fr to n wd many,.pointer (some ⟨x,0,none⟩)] w (TlN w 41 Q):=by
 have HM:=Lib.hid (telMid 41 a b c fr to n wd many w)
 have HC:=Lib.hid (hc _ HM.out.fr)
 clear hc
 unfold tldO istO at HM HC
 unfold istV
 go_enter Tryz.func37,Tryz.ntmps37
 go_wp2_with (go_at_call 73;refine HC.out.mono ?_;rintro e w2 ⟨⟨r,rfl,hq⟩,hf⟩;refine Hid.out ?_)
 refine Lib.hid ?_
 have HQ:=Lib.hid hq;clear hq
 have HT:=Lib.hid (TelW.keep HM.out hf);clear hf
 obtain ⟨⟨e0,f0,e1,f1,e2,f2,e3,f3,e4,f4,e5,f5,e6,f6⟩,⟨g0,h0,g1,h1,g2,h2,g3,h3,g4,h4,g5,h5,g6,h6⟩⟩:=HT.out.sev
 go_wp2
 clear e0 e1 e2 e3 e4 e5 e6 f0 f1 f2 f3 f4 f5 f6 g0 h0 g1 h1 g2 h2 g3 h3 g4 h4 g5 h5 g6 h6
 obtain ⟨w4,hw4,e0,e1,e2,e3,e4,e5,e6,HF,HG⟩:=telEnd (w3:=(w2.setCell ⟨w.heap.size+1+1,2,none⟩ (.int .u64 (r:Int)))) HT.out ((Fr.refl (· =w.heap.size+1+1) w2).setCell (.inl rfl) _) (.int .i64 41) (.bool false) (.int .u64 (r:Int)) (.int .u64 0) (.string { data:= #[] }) (.slice none 0 0) (.slice none 0 0)
 rw [hw4];clear hw4
 simp [bodyPost,results,Tryz.f37,go_sem,e0,e1,e2,e3,e4,e5,e6]
 exact ⟨r,HQ.out,_,_,rfl,Lst.nil _ 28 1,Lst.nil _ 5 1,by intro r h;exact absurd h (by simp [Value.ownBlock]),by intro r h;exact absurd h (by simp [Value.ownBlock]),HF.out⟩
theorem tls_42(a b c fr to n x:Nat)(wd:BitVec 64)(many:Value)(Q:Nat->Prop)(w:World)(hc:∀w1,Fr (fun _=>False) w w1->Calls Tryz.prog 31 #[.pointer (some ⟨x,0,none⟩)] w1 fun e w'=>(∃r:Nat,e= .returned (.int .u64 (r:Int))/\Q r)/\Fr (fun _=>False) w1 w'):
  Calls Tryz.prog 37 #[istV 42 a b c fr to n wd many,.pointer (some ⟨x,0,none⟩)] w (TlN w 42 Q):=by
 have HM:=Lib.hid (telMid 42 a b c fr to n wd many w)
 have HC:=Lib.hid (hc _ HM.out.fr)
 clear hc
 unfold tldO istO at HM HC
 unfold istV
 go_enter Tryz.func37,Tryz.ntmps37
 go_wp2_with (go_at_call 31;refine HC.out.mono ?_;rintro e w2 ⟨⟨r,rfl,hq⟩,hf⟩;refine Hid.out ?_)
 refine Lib.hid ?_
 have HQ:=Lib.hid hq;clear hq
 have HT:=Lib.hid (TelW.keep HM.out hf);clear hf
 obtain ⟨⟨e0,f0,e1,f1,e2,f2,e3,f3,e4,f4,e5,f5,e6,f6⟩,⟨g0,h0,g1,h1,g2,h2,g3,h3,g4,h4,g5,h5,g6,h6⟩⟩:=HT.out.sev
 go_wp2
 clear e0 e1 e2 e3 e4 e5 e6 f0 f1 f2 f3 f4 f5 f6 g0 h0 g1 h1 g2 h2 g3 h3 g4 h4 g5 h5 g6 h6
 obtain ⟨w4,hw4,e0,e1,e2,e3,e4,e5,e6,HF,HG⟩:=telEnd (w3:=(w2.setCell ⟨w.heap.size+1+1,2,none⟩ (.int .u64 (r:Int)))) HT.out ((Fr.refl (· =w.heap.size+1+1) w2).setCell (.inl rfl) _) (.int .i64 42) (.bool false) (.int .u64 (r:Int)) (.int .u64 0) (.string { data:= #[] }) (.slice none 0 0) (.slice none 0 0)
 rw [hw4];clear hw4
 simp [bodyPost,results,Tryz.f37,go_sem,e0,e1,e2,e3,e4,e5,e6]
 exact ⟨r,HQ.out,_,_,rfl,Lst.nil _ 28 1,Lst.nil _ 5 1,by intro r h;exact absurd h (by simp [Value.ownBlock]),by intro r h;exact absurd h (by simp [Value.ownBlock]),HF.out⟩
theorem tls_43(a b c fr to n x:Nat)(wd:BitVec 64)(many:Value)(Q:Bool->Prop)(w:World)(hc:∀w1,Fr (fun _=>False) w w1->Calls Tryz.prog 74 #[.pointer (some ⟨x,0,none⟩)] w1 fun e w'=>(∃r,e= .returned (.bool r)/\Q r)/\Fr (fun _=>False) w1 w'):
  Calls Tryz.prog 37 #[istV 43 a b c fr to n wd many,.pointer (some ⟨x,0,none⟩)] w (TlB w 43 Q):=by
 have HM:=Lib.hid (telMid 43 a b c fr to n wd many w)
 have HC:=Lib.hid (hc _ HM.out.fr)
 clear hc
 unfold tldO istO at HM HC
 unfold istV
 go_enter Tryz.func37,Tryz.ntmps37
 go_wp2_with (go_at_call 74;refine HC.out.mono ?_;rintro e w2 ⟨⟨r,rfl,hq⟩,hf⟩;refine Hid.out ?_)
 refine Lib.hid ?_
 have HQ:=Lib.hid hq;clear hq
 have HT:=Lib.hid (TelW.keep HM.out hf);clear hf
 obtain ⟨⟨e0,f0,e1,f1,e2,f2,e3,f3,e4,f4,e5,f5,e6,f6⟩,⟨g0,h0,g1,h1,g2,h2,g3,h3,g4,h4,g5,h5,g6,h6⟩⟩:=HT.out.sev
 go_wp2
 clear e0 e1 e2 e3 e4 e5 e6 f0 f1 f2 f3 f4 f5 f6 g0 h0 g1 h1 g2 h2 g3 h3 g4 h4 g5 h5 g6 h6
 obtain ⟨w4,hw4,e0,e1,e2,e3,e4,e5,e6,HF,HG⟩:=telEnd (w3:=(w2.setCell ⟨w.heap.size+1+1,1,none⟩ (.bool r))) HT.out ((Fr.refl (· =w.heap.size+1+1) w2).setCell (.inl rfl) _) (.int .i64 43) (.bool r) (.int .u64 0) (.int .u64 0) (.string { data:= #[] }) (.slice none 0 0) (.slice none 0 0)
 rw [hw4];clear hw4
 simp [bodyPost,results,Tryz.f37,go_sem,e0,e1,e2,e3,e4,e5,e6]
 exact ⟨r,HQ.out,_,_,rfl,Lst.nil _ 28 1,Lst.nil _ 5 1,by intro r h;exact absurd h (by simp [Value.ownBlock]),by intro r h;exact absurd h (by simp [Value.ownBlock]),HF.out⟩
theorem tls_44(a b c fr to n x:Nat)(wd:BitVec 64)(many:Value)(Q:Bool->Prop)(w:World)(hc:∀w1,Fr (fun _=>False) w w1->Calls Tryz.prog 75 #[.pointer (some ⟨x,0,none⟩)] w1 fun e w'=>(∃r,e= .returned (.bool r)/\Q r)/\Fr (fun _=>False) w1 w'):
  Calls Tryz.prog 37 #[istV 44 a b c fr to n wd many,.pointer (some ⟨x,0,none⟩)] w (TlB w 44 Q):=by
 have HM:=Lib.hid (telMid 44 a b c fr to n wd many w)
 have HC:=Lib.hid (hc _ HM.out.fr)
 clear hc
 unfold tldO istO at HM HC
 unfold istV
 go_enter Tryz.func37,Tryz.ntmps37
 go_wp2_with (go_at_call 75;refine HC.out.mono ?_;rintro e w2 ⟨⟨r,rfl,hq⟩,hf⟩;refine Hid.out ?_)
 refine Lib.hid ?_
 have HQ:=Lib.hid hq;clear hq
 have HT:=Lib.hid (TelW.keep HM.out hf);clear hf
 obtain ⟨⟨e0,f0,e1,f1,e2,f2,e3,f3,e4,f4,e5,f5,e6,f6⟩,⟨g0,h0,g1,h1,g2,h2,g3,h3,g4,h4,g5,h5,g6,h6⟩⟩:=HT.out.sev
 go_wp2
 clear e0 e1 e2 e3 e4 e5 e6 f0 f1 f2 f3 f4 f5 f6 g0 h0 g1 h1 g2 h2 g3 h3 g4 h4 g5 h5 g6 h6
 obtain ⟨w4,hw4,e0,e1,e2,e3,e4,e5,e6,HF,HG⟩:=telEnd (w3:=(w2.setCell ⟨w.heap.size+1+1,1,none⟩ (.bool r))) HT.out ((Fr.refl (· =w.heap.size+1+1) w2).setCell (.inl rfl) _) (.int .i64 44) (.bool r) (.int .u64 0) (.int .u64 0) (.string { data:= #[] }) (.slice none 0 0) (.slice none 0 0)
 rw [hw4];clear hw4
 simp [bodyPost,results,Tryz.f37,go_sem,e0,e1,e2,e3,e4,e5,e6]
 exact ⟨r,HQ.out,_,_,rfl,Lst.nil _ 28 1,Lst.nil _ 5 1,by intro r h;exact absurd h (by simp [Value.ownBlock]),by intro r h;exact absurd h (by simp [Value.ownBlock]),HF.out⟩
theorem tls_45(a b c fr to n x:Nat)(wd:BitVec 64)(many:Value)(Q:Bool->Prop)(w:World)(hc:∀w1,Fr (fun _=>False) w w1->Calls Tryz.prog 76 #[.pointer (some ⟨x,0,none⟩)] w1 fun e w'=>(∃r,e= .returned (.bool r)/\Q r)/\Fr (fun _=>False) w1 w'):
  Calls Tryz.prog 37 #[istV 45 a b c fr to n wd many,.pointer (some ⟨x,0,none⟩)] w (TlB w 45 Q):=by
 have HM:=Lib.hid (telMid 45 a b c fr to n wd many w)
 have HC:=Lib.hid (hc _ HM.out.fr)
 clear hc
 unfold tldO istO at HM HC
 unfold istV
 go_enter Tryz.func37,Tryz.ntmps37
 go_wp2_with (go_at_call 76;refine HC.out.mono ?_;rintro e w2 ⟨⟨r,rfl,hq⟩,hf⟩;refine Hid.out ?_)
 refine Lib.hid ?_
 have HQ:=Lib.hid hq;clear hq
 have HT:=Lib.hid (TelW.keep HM.out hf);clear hf
 obtain ⟨⟨e0,f0,e1,f1,e2,f2,e3,f3,e4,f4,e5,f5,e6,f6⟩,⟨g0,h0,g1,h1,g2,h2,g3,h3,g4,h4,g5,h5,g6,h6⟩⟩:=HT.out.sev
 go_wp2
 clear e0 e1 e2 e3 e4 e5 e6 f0 f1 f2 f3 f4 f5 f6 g0 h0 g1 h1 g2 h2 g3 h3 g4 h4 g5 h5 g6 h6
 obtain ⟨w4,hw4,e0,e1,e2,e3,e4,e5,e6,HF,HG⟩:=telEnd (w3:=(w2.setCell ⟨w.heap.size+1+1,1,none⟩ (.bool r))) HT.out ((Fr.refl (· =w.heap.size+1+1) w2).setCell (.inl rfl) _) (.int .i64 45) (.bool r) (.int .u64 0) (.int .u64 0) (.string { data:= #[] }) (.slice none 0 0) (.slice none 0 0)
 rw [hw4];clear hw4
 simp [bodyPost,results,Tryz.f37,go_sem,e0,e1,e2,e3,e4,e5,e6]
 exact ⟨r,HQ.out,_,_,rfl,Lst.nil _ 28 1,Lst.nil _ 5 1,by intro r h;exact absurd h (by simp [Value.ownBlock]),by intro r h;exact absurd h (by simp [Value.ownBlock]),HF.out⟩
theorem tls_62(a b c fr to n x:Nat)(wd:BitVec 64)(many:Value)(Q:ByteArray->Prop)(w:World)(hc:∀w1,Fr (fun _=>False) w w1->Calls Tryz.prog 77 #[.pointer (some ⟨x,0,none⟩)] w1 fun e w'=>(∃r,e= .returned (.string r)/\Q r)/\Fr (fun _=>False) w1 w'):
  Calls Tryz.prog 37 #[istV 62 a b c fr to n wd many,.pointer (some ⟨x,0,none⟩)] w (TlS w 62 Q):=by
 have HM:=Lib.hid (telMid 62 a b c fr to n wd many w)
 have HC:=Lib.hid (hc _ HM.out.fr)
 clear hc
 unfold tldO istO at HM HC
 unfold istV
 go_enter Tryz.func37,Tryz.ntmps37
 go_wp2_with (go_at_call 77;refine HC.out.mono ?_;rintro e w2 ⟨⟨r,rfl,hq⟩,hf⟩;refine Hid.out ?_)
 refine Lib.hid ?_
 have HQ:=Lib.hid hq;clear hq
 have HT:=Lib.hid (TelW.keep HM.out hf);clear hf
 obtain ⟨⟨e0,f0,e1,f1,e2,f2,e3,f3,e4,f4,e5,f5,e6,f6⟩,⟨g0,h0,g1,h1,g2,h2,g3,h3,g4,h4,g5,h5,g6,h6⟩⟩:=HT.out.sev
 go_wp2
 clear e0 e1 e2 e3 e4 e5 e6 f0 f1 f2 f3 f4 f5 f6 g0 h0 g1 h1 g2 h2 g3 h3 g4 h4 g5 h5 g6 h6
 obtain ⟨w4,hw4,e0,e1,e2,e3,e4,e5,e6,HF,HG⟩:=telEnd (w3:=(w2.setCell ⟨w.heap.size+1+1,4,none⟩ (.string r))) HT.out ((Fr.refl (· =w.heap.size+1+1) w2).setCell (.inl rfl) _) (.int .i64 62) (.bool false) (.int .u64 0) (.int .u64 0) (.string r) (.slice none 0 0) (.slice none 0 0)
 rw [hw4];clear hw4
 simp [bodyPost,results,Tryz.f37,go_sem,e0,e1,e2,e3,e4,e5,e6]
 exact ⟨r,HQ.out,_,_,rfl,Lst.nil _ 28 1,Lst.nil _ 5 1,by intro r h;exact absurd h (by simp [Value.ownBlock]),by intro r h;exact absurd h (by simp [Value.ownBlock]),HF.out⟩
theorem tls_46(a b c fr to n x y:Nat)(wd:BitVec 64)(many:Value)(Q:Bool->Prop)(w:World)(hc:∀w1,Fr (fun _=>False) w w1->Calls Tryz.prog 81 #[.pointer (some ⟨x,0,none⟩),.pointer (some ⟨y,0,none⟩)] w1 fun e w'=>(∃r,e= .returned (.bool r)/\Q r)/\Fr (fun _=>False) w1 w'):
  Calls Tryz.prog 38 #[istV 46 a b c fr to n wd many,.pointer (some ⟨x,0,none⟩),.pointer (some ⟨y,0,none⟩)] w (TlB w 46 Q):=by
 have HM:=Lib.hid (telMid 46 a b c fr to n wd many w)
 have HC:=Lib.hid (hc _ HM.out.fr)
 clear hc
 unfold tldO istO at HM HC
 unfold istV
 go_enter Tryz.func38,Tryz.ntmps38
 go_wp2_with (go_at_call 81;refine HC.out.mono ?_;rintro e w2 ⟨⟨r,rfl,hq⟩,hf⟩;refine Hid.out ?_)
 refine Lib.hid ?_
 have HQ:=Lib.hid hq;clear hq
 have HT:=Lib.hid (TelW.keep HM.out hf);clear hf
 obtain ⟨⟨e0,f0,e1,f1,e2,f2,e3,f3,e4,f4,e5,f5,e6,f6⟩,⟨g0,h0,g1,h1,g2,h2,g3,h3,g4,h4,g5,h5,g6,h6⟩⟩:=HT.out.sev
 go_wp2
 clear e0 e1 e2 e3 e4 e5 e6 f0 f1 f2 f3 f4 f5 f6 g0 h0 g1 h1 g2 h2 g3 h3 g4 h4 g5 h5 g6 h6
 obtain ⟨w4,hw4,e0,e1,e2,e3,e4,e5,e6,HF,HG⟩:=telEnd (w3:=(w2.setCell ⟨w.heap.size+1+1,1,none⟩ (.bool r))) HT.out ((Fr.refl (· =w.heap.size+1+1) w2).setCell (.inl rfl) _) (.int .i64 46) (.bool r) (.int .u64 0) (.int .u64 0) (.string { data:= #[] }) (.slice none 0 0) (.slice none 0 0)
 rw [hw4];clear hw4
 simp [bodyPost,results,Tryz.f38,go_sem,e0,e1,e2,e3,e4,e5,e6]
 exact ⟨r,HQ.out,_,_,rfl,Lst.nil _ 28 1,Lst.nil _ 5 1,by intro r h;exact absurd h (by simp [Value.ownBlock]),by intro r h;exact absurd h (by simp [Value.ownBlock]),HF.out⟩
theorem tls_47(a b c fr to n x y:Nat)(wd:BitVec 64)(many:Value)(Q:Bool->Prop)(w:World)(hc:∀w1,Fr (fun _=>False) w w1->Calls Tryz.prog 82 #[.pointer (some ⟨x,0,none⟩),.pointer (some ⟨y,0,none⟩)] w1 fun e w'=>(∃r,e= .returned (.bool r)/\Q r)/\Fr (fun _=>False) w1 w'):
  Calls Tryz.prog 38 #[istV 47 a b c fr to n wd many,.pointer (some ⟨x,0,none⟩),.pointer (some ⟨y,0,none⟩)] w (TlB w 47 Q):=by
 have HM:=Lib.hid (telMid 47 a b c fr to n wd many w)
 have HC:=Lib.hid (hc _ HM.out.fr)
 clear hc
 unfold tldO istO at HM HC
 unfold istV
 go_enter Tryz.func38,Tryz.ntmps38
 go_wp2_with (go_at_call 82;refine HC.out.mono ?_;rintro e w2 ⟨⟨r,rfl,hq⟩,hf⟩;refine Hid.out ?_)
 refine Lib.hid ?_
 have HQ:=Lib.hid hq;clear hq
 have HT:=Lib.hid (TelW.keep HM.out hf);clear hf
 obtain ⟨⟨e0,f0,e1,f1,e2,f2,e3,f3,e4,f4,e5,f5,e6,f6⟩,⟨g0,h0,g1,h1,g2,h2,g3,h3,g4,h4,g5,h5,g6,h6⟩⟩:=HT.out.sev
 go_wp2
 clear e0 e1 e2 e3 e4 e5 e6 f0 f1 f2 f3 f4 f5 f6 g0 h0 g1 h1 g2 h2 g3 h3 g4 h4 g5 h5 g6 h6
 obtain ⟨w4,hw4,e0,e1,e2,e3,e4,e5,e6,HF,HG⟩:=telEnd (w3:=(w2.setCell ⟨w.heap.size+1+1,1,none⟩ (.bool r))) HT.out ((Fr.refl (· =w.heap.size+1+1) w2).setCell (.inl rfl) _) (.int .i64 47) (.bool r) (.int .u64 0) (.int .u64 0) (.string { data:= #[] }) (.slice none 0 0) (.slice none 0 0)
 rw [hw4];clear hw4
 simp [bodyPost,results,Tryz.f38,go_sem,e0,e1,e2,e3,e4,e5,e6]
 exact ⟨r,HQ.out,_,_,rfl,Lst.nil _ 28 1,Lst.nil _ 5 1,by intro r h;exact absurd h (by simp [Value.ownBlock]),by intro r h;exact absurd h (by simp [Value.ownBlock]),HF.out⟩
theorem tls_48(a b c fr to n x y:Nat)(wd:BitVec 64)(many:Value)(Q:Bool->Prop)(w:World)(hc:∀w1,Fr (fun _=>False) w w1->Calls Tryz.prog 83 #[.pointer (some ⟨x,0,none⟩),.pointer (some ⟨y,0,none⟩)] w1 fun e w'=>(∃r,e= .returned (.bool r)/\Q r)/\Fr (fun _=>False) w1 w'):
  Calls Tryz.prog 38 #[istV 48 a b c fr to n wd many,.pointer (some ⟨x,0,none⟩),.pointer (some ⟨y,0,none⟩)] w (TlB w 48 Q):=by
 have HM:=Lib.hid (telMid 48 a b c fr to n wd many w)
 have HC:=Lib.hid (hc _ HM.out.fr)
 clear hc
 unfold tldO istO at HM HC
 unfold istV
 go_enter Tryz.func38,Tryz.ntmps38
 go_wp2_with (go_at_call 83;refine HC.out.mono ?_;rintro e w2 ⟨⟨r,rfl,hq⟩,hf⟩;refine Hid.out ?_)
 refine Lib.hid ?_
 have HQ:=Lib.hid hq;clear hq
 have HT:=Lib.hid (TelW.keep HM.out hf);clear hf
 obtain ⟨⟨e0,f0,e1,f1,e2,f2,e3,f3,e4,f4,e5,f5,e6,f6⟩,⟨g0,h0,g1,h1,g2,h2,g3,h3,g4,h4,g5,h5,g6,h6⟩⟩:=HT.out.sev
 go_wp2
 clear e0 e1 e2 e3 e4 e5 e6 f0 f1 f2 f3 f4 f5 f6 g0 h0 g1 h1 g2 h2 g3 h3 g4 h4 g5 h5 g6 h6
 obtain ⟨w4,hw4,e0,e1,e2,e3,e4,e5,e6,HF,HG⟩:=telEnd (w3:=(w2.setCell ⟨w.heap.size+1+1,1,none⟩ (.bool r))) HT.out ((Fr.refl (· =w.heap.size+1+1) w2).setCell (.inl rfl) _) (.int .i64 48) (.bool r) (.int .u64 0) (.int .u64 0) (.string { data:= #[] }) (.slice none 0 0) (.slice none 0 0)
 rw [hw4];clear hw4
 simp [bodyPost,results,Tryz.f38,go_sem,e0,e1,e2,e3,e4,e5,e6]
 exact ⟨r,HQ.out,_,_,rfl,Lst.nil _ 28 1,Lst.nil _ 5 1,by intro r h;exact absurd h (by simp [Value.ownBlock]),by intro r h;exact absurd h (by simp [Value.ownBlock]),HF.out⟩
theorem tls_49(a b c fr to n x y:Nat)(wd:BitVec 64)(many:Value)(Q:Nat->Prop)(w:World)(hc:∀w1,Fr (fun _=>False) w w1->Calls Tryz.prog 84 #[.pointer (some ⟨x,0,none⟩),.pointer (some ⟨y,0,none⟩)] w1 fun e w'=>(∃r:Nat,e= .returned (.int .u64 (r:Int))/\Q r)/\Fr (fun _=>False) w1 w'):
  Calls Tryz.prog 38 #[istV 49 a b c fr to n wd many,.pointer (some ⟨x,0,none⟩),.pointer (some ⟨y,0,none⟩)] w (TlN w 49 Q):=by
 have HM:=Lib.hid (telMid 49 a b c fr to n wd many w)
 have HC:=Lib.hid (hc _ HM.out.fr)
 clear hc
 unfold tldO istO at HM HC
 unfold istV
 go_enter Tryz.func38,Tryz.ntmps38
 go_wp2_with (go_at_call 84;refine HC.out.mono ?_;rintro e w2 ⟨⟨r,rfl,hq⟩,hf⟩;refine Hid.out ?_)
 refine Lib.hid ?_
 have HQ:=Lib.hid hq;clear hq
 have HT:=Lib.hid (TelW.keep HM.out hf);clear hf
 obtain ⟨⟨e0,f0,e1,f1,e2,f2,e3,f3,e4,f4,e5,f5,e6,f6⟩,⟨g0,h0,g1,h1,g2,h2,g3,h3,g4,h4,g5,h5,g6,h6⟩⟩:=HT.out.sev
 go_wp2
 clear e0 e1 e2 e3 e4 e5 e6 f0 f1 f2 f3 f4 f5 f6 g0 h0 g1 h1 g2 h2 g3 h3 g4 h4 g5 h5 g6 h6
 obtain ⟨w4,hw4,e0,e1,e2,e3,e4,e5,e6,HF,HG⟩:=telEnd (w3:=(w2.setCell ⟨w.heap.size+1+1,2,none⟩ (.int .u64 (r:Int)))) HT.out ((Fr.refl (· =w.heap.size+1+1) w2).setCell (.inl rfl) _) (.int .i64 49) (.bool false) (.int .u64 (r:Int)) (.int .u64 0) (.string { data:= #[] }) (.slice none 0 0) (.slice none 0 0)
 rw [hw4];clear hw4
 simp [bodyPost,results,Tryz.f38,go_sem,e0,e1,e2,e3,e4,e5,e6]
 exact ⟨r,HQ.out,_,_,rfl,Lst.nil _ 28 1,Lst.nil _ 5 1,by intro r h;exact absurd h (by simp [Value.ownBlock]),by intro r h;exact absurd h (by simp [Value.ownBlock]),HF.out⟩
theorem tls_50(a b c fr to n x y:Nat)(wd:BitVec 64)(many:Value)(Q:Nat->Prop)(w:World)(hc:∀w1,Fr (fun _=>False) w w1->Calls Tryz.prog 85 #[.pointer (some ⟨x,0,none⟩),.pointer (some ⟨y,0,none⟩)] w1 fun e w'=>(∃r:Nat,e= .returned (.int .u64 (r:Int))/\Q r)/\Fr (fun _=>False) w1 w'):
  Calls Tryz.prog 38 #[istV 50 a b c fr to n wd many,.pointer (some ⟨x,0,none⟩),.pointer (some ⟨y,0,none⟩)] w (TlN w 50 Q):=by
 have HM:=Lib.hid (telMid 50 a b c fr to n wd many w)
 have HC:=Lib.hid (hc _ HM.out.fr)
 clear hc
 unfold tldO istO at HM HC
 unfold istV
 go_enter Tryz.func38,Tryz.ntmps38
 go_wp2_with (go_at_call 85;refine HC.out.mono ?_;rintro e w2 ⟨⟨r,rfl,hq⟩,hf⟩;refine Hid.out ?_)
 refine Lib.hid ?_
 have HQ:=Lib.hid hq;clear hq
 have HT:=Lib.hid (TelW.keep HM.out hf);clear hf
 obtain ⟨⟨e0,f0,e1,f1,e2,f2,e3,f3,e4,f4,e5,f5,e6,f6⟩,⟨g0,h0,g1,h1,g2,h2,g3,h3,g4,h4,g5,h5,g6,h6⟩⟩:=HT.out.sev
 go_wp2
 clear e0 e1 e2 e3 e4 e5 e6 f0 f1 f2 f3 f4 f5 f6 g0 h0 g1 h1 g2 h2 g3 h3 g4 h4 g5 h5 g6 h6
 obtain ⟨w4,hw4,e0,e1,e2,e3,e4,e5,e6,HF,HG⟩:=telEnd (w3:=(w2.setCell ⟨w.heap.size+1+1,2,none⟩ (.int .u64 (r:Int)))) HT.out ((Fr.refl (· =w.heap.size+1+1) w2).setCell (.inl rfl) _) (.int .i64 50) (.bool false) (.int .u64 (r:Int)) (.int .u64 0) (.string { data:= #[] }) (.slice none 0 0) (.slice none 0 0)
 rw [hw4];clear hw4
 simp [bodyPost,results,Tryz.f38,go_sem,e0,e1,e2,e3,e4,e5,e6]
 exact ⟨r,HQ.out,_,_,rfl,Lst.nil _ 28 1,Lst.nil _ 5 1,by intro r h;exact absurd h (by simp [Value.ownBlock]),by intro r h;exact absurd h (by simp [Value.ownBlock]),HF.out⟩
theorem tls_51(a b c fr to n x y:Nat)(wd:BitVec 64)(many:Value)(Q:Nat->Prop)(w:World)(hc:∀w1,Fr (fun _=>False) w w1->Calls Tryz.prog 86 #[.pointer (some ⟨x,0,none⟩),.pointer (some ⟨y,0,none⟩)] w1 fun e w'=>(∃r:Nat,e= .returned (.int .u64 (r:Int))/\Q r)/\Fr (fun _=>False) w1 w'):
  Calls Tryz.prog 38 #[istV 51 a b c fr to n wd many,.pointer (some ⟨x,0,none⟩),.pointer (some ⟨y,0,none⟩)] w (TlN w 51 Q):=by
 have HM:=Lib.hid (telMid 51 a b c fr to n wd many w)
 have HC:=Lib.hid (hc _ HM.out.fr)
 clear hc
 unfold tldO istO at HM HC
 unfold istV
 go_enter Tryz.func38,Tryz.ntmps38
 go_wp2_with (go_at_call 86;refine HC.out.mono ?_;rintro e w2 ⟨⟨r,rfl,hq⟩,hf⟩;refine Hid.out ?_)
 refine Lib.hid ?_
 have HQ:=Lib.hid hq;clear hq
 have HT:=Lib.hid (TelW.keep HM.out hf);clear hf
 obtain ⟨⟨e0,f0,e1,f1,e2,f2,e3,f3,e4,f4,e5,f5,e6,f6⟩,⟨g0,h0,g1,h1,g2,h2,g3,h3,g4,h4,g5,h5,g6,h6⟩⟩:=HT.out.sev
 go_wp2
 clear e0 e1 e2 e3 e4 e5 e6 f0 f1 f2 f3 f4 f5 f6 g0 h0 g1 h1 g2 h2 g3 h3 g4 h4 g5 h5 g6 h6
 obtain ⟨w4,hw4,e0,e1,e2,e3,e4,e5,e6,HF,HG⟩:=telEnd (w3:=(w2.setCell ⟨w.heap.size+1+1,2,none⟩ (.int .u64 (r:Int)))) HT.out ((Fr.refl (· =w.heap.size+1+1) w2).setCell (.inl rfl) _) (.int .i64 51) (.bool false) (.int .u64 (r:Int)) (.int .u64 0) (.string { data:= #[] }) (.slice none 0 0) (.slice none 0 0)
 rw [hw4];clear hw4
 simp [bodyPost,results,Tryz.f38,go_sem,e0,e1,e2,e3,e4,e5,e6]
 exact ⟨r,HQ.out,_,_,rfl,Lst.nil _ 28 1,Lst.nil _ 5 1,by intro r h;exact absurd h (by simp [Value.ownBlock]),by intro r h;exact absurd h (by simp [Value.ownBlock]),HF.out⟩
theorem tls_52(a b c fr to n x y:Nat)(wd:BitVec 64)(many:Value)(Q:Nat->Prop)(w:World)(hc:∀w1,Fr (fun _=>False) w w1->Calls Tryz.prog 87 #[.pointer (some ⟨x,0,none⟩),.pointer (some ⟨y,0,none⟩)] w1 fun e w'=>(∃r:Nat,e= .returned (.int .u64 (r:Int))/\Q r)/\Fr (fun _=>False) w1 w'):
  Calls Tryz.prog 38 #[istV 52 a b c fr to n wd many,.pointer (some ⟨x,0,none⟩),.pointer (some ⟨y,0,none⟩)] w (TlN w 52 Q):=by
 have HM:=Lib.hid (telMid 52 a b c fr to n wd many w)
 have HC:=Lib.hid (hc _ HM.out.fr)
 clear hc
 unfold tldO istO at HM HC
 unfold istV
 go_enter Tryz.func38,Tryz.ntmps38
 go_wp2_with (go_at_call 87;refine HC.out.mono ?_;rintro e w2 ⟨⟨r,rfl,hq⟩,hf⟩;refine Hid.out ?_)
 refine Lib.hid ?_
 have HQ:=Lib.hid hq;clear hq
 have HT:=Lib.hid (TelW.keep HM.out hf);clear hf
 obtain ⟨⟨e0,f0,e1,f1,e2,f2,e3,f3,e4,f4,e5,f5,e6,f6⟩,⟨g0,h0,g1,h1,g2,h2,g3,h3,g4,h4,g5,h5,g6,h6⟩⟩:=HT.out.sev
 go_wp2
 clear e0 e1 e2 e3 e4 e5 e6 f0 f1 f2 f3 f4 f5 f6 g0 h0 g1 h1 g2 h2 g3 h3 g4 h4 g5 h5 g6 h6
 obtain ⟨w4,hw4,e0,e1,e2,e3,e4,e5,e6,HF,HG⟩:=telEnd (w3:=(w2.setCell ⟨w.heap.size+1+1,2,none⟩ (.int .u64 (r:Int)))) HT.out ((Fr.refl (· =w.heap.size+1+1) w2).setCell (.inl rfl) _) (.int .i64 52) (.bool false) (.int .u64 (r:Int)) (.int .u64 0) (.string { data:= #[] }) (.slice none 0 0) (.slice none 0 0)
 rw [hw4];clear hw4
 simp [bodyPost,results,Tryz.f38,go_sem,e0,e1,e2,e3,e4,e5,e6]
 exact ⟨r,HQ.out,_,_,rfl,Lst.nil _ 28 1,Lst.nil _ 5 1,by intro r h;exact absurd h (by simp [Value.ownBlock]),by intro r h;exact absurd h (by simp [Value.ownBlock]),HF.out⟩
theorem tls_53(a b c fr to n x:Nat)(wd:BitVec 64)(many:Value)(Q:Nat->Bool->Prop)(w:World)(hc:∀w1,Fr (fun _=>False) w w1->Calls Tryz.prog 88 #[.pointer (some ⟨x,0,none⟩),.int .u64 (n:Int)] w1 fun e w'=>(∃(i:Nat) (r:Bool),e= .returned (.tuple #[.int .u64 (i:Int),.bool r])/\Q i r)/\Fr (fun _=>False) w1 w'):
  Calls Tryz.prog 39 #[istV 53 a b c fr to n wd many,.pointer (some ⟨x,0,none⟩)] w (TlX w 53 Q):=by
 have HM:=Lib.hid (telMid 53 a b c fr to n wd many w)
 have HC:=Lib.hid (hc _ HM.out.fr)
 clear hc
 unfold tldO istO at HM HC
 unfold istV
 go_enter Tryz.func39,Tryz.ntmps39
 go_wp2_with (go_at_call 88;refine HC.out.mono ?_;rintro e w2 ⟨⟨i,r,rfl,hq⟩,hf⟩;refine Hid.out ?_)
 refine Lib.hid ?_
 have HQ:=Lib.hid hq;clear hq
 have HT:=Lib.hid (TelW.keep HM.out hf);clear hf
 obtain ⟨⟨e0,f0,e1,f1,e2,f2,e3,f3,e4,f4,e5,f5,e6,f6⟩,⟨g0,h0,g1,h1,g2,h2,g3,h3,g4,h4,g5,h5,g6,h6⟩⟩:=HT.out.sev
 go_wp2
 clear e0 e1 e2 e3 e4 e5 e6 f0 f1 f2 f3 f4 f5 f6 g0 h0 g1 h1 g2 h2 g3 h3 g4 h4 g5 h5 g6 h6
 obtain ⟨w4,hw4,e0,e1,e2,e3,e4,e5,e6,HF,HG⟩:=telEnd (w3:=((w2.setCell ⟨w.heap.size+1+1,2,none⟩ (.int .u64 (i:Int))).setCell ⟨w.heap.size+1+1,1,none⟩ (.bool r))) HT.out (((Fr.refl (· =w.heap.size+1+1) w2).setCell (.inl rfl) _).setCell (.inl rfl) _) (.int .i64 53) (.bool r) (.int .u64 (i:Int)) (.int .u64 0) (.string { data:= #[] }) (.slice none 0 0) (.slice none 0 0)
 rw [hw4];clear hw4
 simp [bodyPost,results,Tryz.f39,go_sem,e0,e1,e2,e3,e4,e5,e6]
 exact ⟨i,r,HQ.out,_,_,rfl,Lst.nil _ 28 1,Lst.nil _ 5 1,by intro r h;exact absurd h (by simp [Value.ownBlock]),by intro r h;exact absurd h (by simp [Value.ownBlock]),HF.out⟩
theorem tls_54(a b c fr to n x:Nat)(wd:BitVec 64)(many:Value)(Q:Nat->Bool->Prop)(w:World)(hc:∀w1,Fr (fun _=>False) w w1->Calls Tryz.prog 89 #[.pointer (some ⟨x,0,none⟩),.int .u64 (n:Int)] w1 fun e w'=>(∃(i:Nat) (r:Bool),e= .returned (.tuple #[.int .u64 (i:Int),.bool r])/\Q i r)/\Fr (fun _=>False) w1 w'):
  Calls Tryz.prog 39 #[istV 54 a b c fr to n wd many,.pointer (some ⟨x,0,none⟩)] w (TlX w 54 Q):=by
 have HM:=Lib.hid (telMid 54 a b c fr to n wd many w)
 have HC:=Lib.hid (hc _ HM.out.fr)
 clear hc
 unfold tldO istO at HM HC
 unfold istV
 go_enter Tryz.func39,Tryz.ntmps39
 go_wp2_with (go_at_call 89;refine HC.out.mono ?_;rintro e w2 ⟨⟨i,r,rfl,hq⟩,hf⟩;refine Hid.out ?_)
 refine Lib.hid ?_
 have HQ:=Lib.hid hq;clear hq
 have HT:=Lib.hid (TelW.keep HM.out hf);clear hf
 obtain ⟨⟨e0,f0,e1,f1,e2,f2,e3,f3,e4,f4,e5,f5,e6,f6⟩,⟨g0,h0,g1,h1,g2,h2,g3,h3,g4,h4,g5,h5,g6,h6⟩⟩:=HT.out.sev
 go_wp2
 clear e0 e1 e2 e3 e4 e5 e6 f0 f1 f2 f3 f4 f5 f6 g0 h0 g1 h1 g2 h2 g3 h3 g4 h4 g5 h5 g6 h6
 obtain ⟨w4,hw4,e0,e1,e2,e3,e4,e5,e6,HF,HG⟩:=telEnd (w3:=((w2.setCell ⟨w.heap.size+1+1,2,none⟩ (.int .u64 (i:Int))).setCell ⟨w.heap.size+1+1,1,none⟩ (.bool r))) HT.out (((Fr.refl (· =w.heap.size+1+1) w2).setCell (.inl rfl) _).setCell (.inl rfl) _) (.int .i64 54) (.bool r) (.int .u64 (i:Int)) (.int .u64 0) (.string { data:= #[] }) (.slice none 0 0) (.slice none 0 0)
 rw [hw4];clear hw4
 simp [bodyPost,results,Tryz.f39,go_sem,e0,e1,e2,e3,e4,e5,e6]
 exact ⟨i,r,HQ.out,_,_,rfl,Lst.nil _ 28 1,Lst.nil _ 5 1,by intro r h;exact absurd h (by simp [Value.ownBlock]),by intro r h;exact absurd h (by simp [Value.ownBlock]),HF.out⟩
theorem tls_55(a b c fr to n x:Nat)(wd:BitVec 64)(many:Value)(Q:Nat->Bool->Prop)(w:World)(hc:∀w1,Fr (fun _=>False) w w1->Calls Tryz.prog 90 #[.pointer (some ⟨x,0,none⟩),.int .u64 (n:Int)] w1 fun e w'=>(∃(i:Nat) (r:Bool),e= .returned (.tuple #[.int .u64 (i:Int),.bool r])/\Q i r)/\Fr (fun _=>False) w1 w'):
  Calls Tryz.prog 39 #[istV 55 a b c fr to n wd many,.pointer (some ⟨x,0,none⟩)] w (TlX w 55 Q):=by
 have HM:=Lib.hid (telMid 55 a b c fr to n wd many w)
 have HC:=Lib.hid (hc _ HM.out.fr)
 clear hc
 unfold tldO istO at HM HC
 unfold istV
 go_enter Tryz.func39,Tryz.ntmps39
 go_wp2_with (go_at_call 90;refine HC.out.mono ?_;rintro e w2 ⟨⟨i,r,rfl,hq⟩,hf⟩;refine Hid.out ?_)
 refine Lib.hid ?_
 have HQ:=Lib.hid hq;clear hq
 have HT:=Lib.hid (TelW.keep HM.out hf);clear hf
 obtain ⟨⟨e0,f0,e1,f1,e2,f2,e3,f3,e4,f4,e5,f5,e6,f6⟩,⟨g0,h0,g1,h1,g2,h2,g3,h3,g4,h4,g5,h5,g6,h6⟩⟩:=HT.out.sev
 go_wp2
 clear e0 e1 e2 e3 e4 e5 e6 f0 f1 f2 f3 f4 f5 f6 g0 h0 g1 h1 g2 h2 g3 h3 g4 h4 g5 h5 g6 h6
 obtain ⟨w4,hw4,e0,e1,e2,e3,e4,e5,e6,HF,HG⟩:=telEnd (w3:=((w2.setCell ⟨w.heap.size+1+1,2,none⟩ (.int .u64 (i:Int))).setCell ⟨w.heap.size+1+1,1,none⟩ (.bool r))) HT.out (((Fr.refl (· =w.heap.size+1+1) w2).setCell (.inl rfl) _).setCell (.inl rfl) _) (.int .i64 55) (.bool r) (.int .u64 (i:Int)) (.int .u64 0) (.string { data:= #[] }) (.slice none 0 0) (.slice none 0 0)
 rw [hw4];clear hw4
 simp [bodyPost,results,Tryz.f39,go_sem,e0,e1,e2,e3,e4,e5,e6]
 exact ⟨i,r,HQ.out,_,_,rfl,Lst.nil _ 28 1,Lst.nil _ 5 1,by intro r h;exact absurd h (by simp [Value.ownBlock]),by intro r h;exact absurd h (by simp [Value.ownBlock]),HF.out⟩
theorem tls_56(a b c fr to n x:Nat)(wd:BitVec 64)(many:Value)(Q:Nat->Bool->Prop)(w:World)(hc:∀w1,Fr (fun _=>False) w w1->Calls Tryz.prog 91 #[.pointer (some ⟨x,0,none⟩),.int .u64 (n:Int)] w1 fun e w'=>(∃(i:Nat) (r:Bool),e= .returned (.tuple #[.int .u64 (i:Int),.bool r])/\Q i r)/\Fr (fun _=>False) w1 w'):
  Calls Tryz.prog 39 #[istV 56 a b c fr to n wd many,.pointer (some ⟨x,0,none⟩)] w (TlX w 56 Q):=by
 have HM:=Lib.hid (telMid 56 a b c fr to n wd many w)
 have HC:=Lib.hid (hc _ HM.out.fr)
 clear hc
 unfold tldO istO at HM HC
 unfold istV
 go_enter Tryz.func39,Tryz.ntmps39
 go_wp2_with (go_at_call 91;refine HC.out.mono ?_;rintro e w2 ⟨⟨i,r,rfl,hq⟩,hf⟩;refine Hid.out ?_)
 refine Lib.hid ?_
 have HQ:=Lib.hid hq;clear hq
 have HT:=Lib.hid (TelW.keep HM.out hf);clear hf
 obtain ⟨⟨e0,f0,e1,f1,e2,f2,e3,f3,e4,f4,e5,f5,e6,f6⟩,⟨g0,h0,g1,h1,g2,h2,g3,h3,g4,h4,g5,h5,g6,h6⟩⟩:=HT.out.sev
 go_wp2
 clear e0 e1 e2 e3 e4 e5 e6 f0 f1 f2 f3 f4 f5 f6 g0 h0 g1 h1 g2 h2 g3 h3 g4 h4 g5 h5 g6 h6
 obtain ⟨w4,hw4,e0,e1,e2,e3,e4,e5,e6,HF,HG⟩:=telEnd (w3:=((w2.setCell ⟨w.heap.size+1+1,2,none⟩ (.int .u64 (i:Int))).setCell ⟨w.heap.size+1+1,1,none⟩ (.bool r))) HT.out (((Fr.refl (· =w.heap.size+1+1) w2).setCell (.inl rfl) _).setCell (.inl rfl) _) (.int .i64 56) (.bool r) (.int .u64 (i:Int)) (.int .u64 0) (.string { data:= #[] }) (.slice none 0 0) (.slice none 0 0)
 rw [hw4];clear hw4
 simp [bodyPost,results,Tryz.f39,go_sem,e0,e1,e2,e3,e4,e5,e6]
 exact ⟨i,r,HQ.out,_,_,rfl,Lst.nil _ 28 1,Lst.nil _ 5 1,by intro r h;exact absurd h (by simp [Value.ownBlock]),by intro r h;exact absurd h (by simp [Value.ownBlock]),HF.out⟩
theorem tls_58(a b c fr to n x:Nat)(wd:BitVec 64)(many:Value)(Q:Nat->Prop)(w:World)(hc:∀w1,Fr (fun _=>False) w w1->Calls Tryz.prog 94 #[.pointer (some ⟨x,0,none⟩),.int .u64 (n:Int)] w1 fun e w'=>(∃r:Nat,e= .returned (.int .u64 (r:Int))/\Q r)/\Fr (fun _=>False) w1 w'):
  Calls Tryz.prog 39 #[istV 58 a b c fr to n wd many,.pointer (some ⟨x,0,none⟩)] w (TlN w 58 Q):=by
 have HM:=Lib.hid (telMid 58 a b c fr to n wd many w)
 have HC:=Lib.hid (hc _ HM.out.fr)
 clear hc
 unfold tldO istO at HM HC
 unfold istV
 go_enter Tryz.func39,Tryz.ntmps39
 go_wp2_with (go_at_call 94;refine HC.out.mono ?_;rintro e w2 ⟨⟨r,rfl,hq⟩,hf⟩;refine Hid.out ?_)
 refine Lib.hid ?_
 have HQ:=Lib.hid hq;clear hq
 have HT:=Lib.hid (TelW.keep HM.out hf);clear hf
 obtain ⟨⟨e0,f0,e1,f1,e2,f2,e3,f3,e4,f4,e5,f5,e6,f6⟩,⟨g0,h0,g1,h1,g2,h2,g3,h3,g4,h4,g5,h5,g6,h6⟩⟩:=HT.out.sev
 go_wp2
 clear e0 e1 e2 e3 e4 e5 e6 f0 f1 f2 f3 f4 f5 f6 g0 h0 g1 h1 g2 h2 g3 h3 g4 h4 g5 h5 g6 h6
 obtain ⟨w4,hw4,e0,e1,e2,e3,e4,e5,e6,HF,HG⟩:=telEnd (w3:=(w2.setCell ⟨w.heap.size+1+1,2,none⟩ (.int .u64 (r:Int)))) HT.out ((Fr.refl (· =w.heap.size+1+1) w2).setCell (.inl rfl) _) (.int .i64 58) (.bool false) (.int .u64 (r:Int)) (.int .u64 0) (.string { data:= #[] }) (.slice none 0 0) (.slice none 0 0)
 rw [hw4];clear hw4
 simp [bodyPost,results,Tryz.f39,go_sem,e0,e1,e2,e3,e4,e5,e6]
 exact ⟨r,HQ.out,_,_,rfl,Lst.nil _ 28 1,Lst.nil _ 5 1,by intro r h;exact absurd h (by simp [Value.ownBlock]),by intro r h;exact absurd h (by simp [Value.ownBlock]),HF.out⟩
theorem tls_59(a b c fr to n x:Nat)(wd:BitVec 64)(many:Value)(Q:Nat->Prop)(w:World)(hc:∀w1,Fr (fun _=>False) w w1->Calls Tryz.prog 95 #[.pointer (some ⟨x,0,none⟩),.int .u64 (n:Int)] w1 fun e w'=>(∃r:Nat,e= .returned (.int .u64 (r:Int))/\Q r)/\Fr (fun _=>False) w1 w'):
  Calls Tryz.prog 39 #[istV 59 a b c fr to n wd many,.pointer (some ⟨x,0,none⟩)] w (TlN w 59 Q):=by
 have HM:=Lib.hid (telMid 59 a b c fr to n wd many w)
 have HC:=Lib.hid (hc _ HM.out.fr)
 clear hc
 unfold tldO istO at HM HC
 unfold istV
 go_enter Tryz.func39,Tryz.ntmps39
 go_wp2_with (go_at_call 95;refine HC.out.mono ?_;rintro e w2 ⟨⟨r,rfl,hq⟩,hf⟩;refine Hid.out ?_)
 refine Lib.hid ?_
 have HQ:=Lib.hid hq;clear hq
 have HT:=Lib.hid (TelW.keep HM.out hf);clear hf
 obtain ⟨⟨e0,f0,e1,f1,e2,f2,e3,f3,e4,f4,e5,f5,e6,f6⟩,⟨g0,h0,g1,h1,g2,h2,g3,h3,g4,h4,g5,h5,g6,h6⟩⟩:=HT.out.sev
 go_wp2
 clear e0 e1 e2 e3 e4 e5 e6 f0 f1 f2 f3 f4 f5 f6 g0 h0 g1 h1 g2 h2 g3 h3 g4 h4 g5 h5 g6 h6
 obtain ⟨w4,hw4,e0,e1,e2,e3,e4,e5,e6,HF,HG⟩:=telEnd (w3:=(w2.setCell ⟨w.heap.size+1+1,2,none⟩ (.int .u64 (r:Int)))) HT.out ((Fr.refl (· =w.heap.size+1+1) w2).setCell (.inl rfl) _) (.int .i64 59) (.bool false) (.int .u64 (r:Int)) (.int .u64 0) (.string { data:= #[] }) (.slice none 0 0) (.slice none 0 0)
 rw [hw4];clear hw4
 simp [bodyPost,results,Tryz.f39,go_sem,e0,e1,e2,e3,e4,e5,e6]
 exact ⟨r,HQ.out,_,_,rfl,Lst.nil _ 28 1,Lst.nil _ 5 1,by intro r h;exact absurd h (by simp [Value.ownBlock]),by intro r h;exact absurd h (by simp [Value.ownBlock]),HF.out⟩
theorem tls_60(a b c fr to n x:Nat)(wd:BitVec 64)(many:Value)(Q:Nat->Prop)(w:World)(hc:∀w1,Fr (fun _=>False) w w1->Calls Tryz.prog 96 #[.pointer (some ⟨x,0,none⟩),.int .u64 (fr:Int),.int .u64 (to:Int)] w1 fun e w'=>(∃r:Nat,e= .returned (.int .u64 (r:Int))/\Q r)/\Fr (fun _=>False) w1 w'):
  Calls Tryz.prog 39 #[istV 60 a b c fr to n wd many,.pointer (some ⟨x,0,none⟩)] w (TlN w 60 Q):=by
 have HM:=Lib.hid (telMid 60 a b c fr to n wd many w)
 have HC:=Lib.hid (hc _ HM.out.fr)
 clear hc
 unfold tldO istO at HM HC
 unfold istV
 go_enter Tryz.func39,Tryz.ntmps39
 go_wp2_with (go_at_call 96;refine HC.out.mono ?_;rintro e w2 ⟨⟨r,rfl,hq⟩,hf⟩;refine Hid.out ?_)
 refine Lib.hid ?_
 have HQ:=Lib.hid hq;clear hq
 have HT:=Lib.hid (TelW.keep HM.out hf);clear hf
 obtain ⟨⟨e0,f0,e1,f1,e2,f2,e3,f3,e4,f4,e5,f5,e6,f6⟩,⟨g0,h0,g1,h1,g2,h2,g3,h3,g4,h4,g5,h5,g6,h6⟩⟩:=HT.out.sev
 go_wp2
 clear e0 e1 e2 e3 e4 e5 e6 f0 f1 f2 f3 f4 f5 f6 g0 h0 g1 h1 g2 h2 g3 h3 g4 h4 g5 h5 g6 h6
 obtain ⟨w4,hw4,e0,e1,e2,e3,e4,e5,e6,HF,HG⟩:=telEnd (w3:=(w2.setCell ⟨w.heap.size+1+1,2,none⟩ (.int .u64 (r:Int)))) HT.out ((Fr.refl (· =w.heap.size+1+1) w2).setCell (.inl rfl) _) (.int .i64 60) (.bool false) (.int .u64 (r:Int)) (.int .u64 0) (.string { data:= #[] }) (.slice none 0 0) (.slice none 0 0)
 rw [hw4];clear hw4
 simp [bodyPost,results,Tryz.f39,go_sem,e0,e1,e2,e3,e4,e5,e6]
 exact ⟨r,HQ.out,_,_,rfl,Lst.nil _ 28 1,Lst.nil _ 5 1,by intro r h;exact absurd h (by simp [Value.ownBlock]),by intro r h;exact absurd h (by simp [Value.ownBlock]),HF.out⟩
theorem tls_61(a b c fr to n x:Nat)(wd:BitVec 64)(many:Value)(Q:BitVec 64->Prop)(w:World)(hc:∀w1,Fr (fun _=>False) w w1->Calls Tryz.prog 97 #[.pointer (some ⟨x,0,none⟩),.int .u64 (n:Int)] w1 fun e w'=>(∃r,e= .returned (WV r)/\Q r)/\Fr (fun _=>False) w1 w'):
  Calls Tryz.prog 39 #[istV 61 a b c fr to n wd many,.pointer (some ⟨x,0,none⟩)] w (TlV w 61 Q):=by
 have HM:=Lib.hid (telMid 61 a b c fr to n wd many w)
 have HC:=Lib.hid (hc _ HM.out.fr)
 clear hc
 unfold tldO istO at HM HC
 unfold istV
 go_enter Tryz.func39,Tryz.ntmps39
 go_wp2_with (go_at_call 97;refine HC.out.mono ?_;rintro e w2 ⟨⟨r,rfl,hq⟩,hf⟩;refine Hid.out ?_)
 refine Lib.hid ?_
 have HQ:=Lib.hid hq;clear hq
 have HT:=Lib.hid (TelW.keep HM.out hf);clear hf
 obtain ⟨⟨e0,f0,e1,f1,e2,f2,e3,f3,e4,f4,e5,f5,e6,f6⟩,⟨g0,h0,g1,h1,g2,h2,g3,h3,g4,h4,g5,h5,g6,h6⟩⟩:=HT.out.sev
 go_wp2
 clear e0 e1 e2 e3 e4 e5 e6 f0 f1 f2 f3 f4 f5 f6 g0 h0 g1 h1 g2 h2 g3 h3 g4 h4 g5 h5 g6 h6
 obtain ⟨w4,hw4,e0,e1,e2,e3,e4,e5,e6,HF,HG⟩:=telEnd (w3:=(w2.setCell ⟨w.heap.size+1+1,3,none⟩ (WV r))) HT.out ((Fr.refl (· =w.heap.size+1+1) w2).setCell (.inl rfl) _) (.int .i64 61) (.bool false) (.int .u64 0) (WV r) (.string { data:= #[] }) (.slice none 0 0) (.slice none 0 0)
 rw [hw4];clear hw4
 simp [bodyPost,results,Tryz.f39,go_sem,e0,e1,e2,e3,e4,e5,e6]
 exact ⟨r,HQ.out,_,_,rfl,Lst.nil _ 28 1,Lst.nil _ 5 1,by intro r h;exact absurd h (by simp [Value.ownBlock]),by intro r h;exact absurd h (by simp [Value.ownBlock]),HF.out⟩
end Go.Proofs.YtobdfhlmipcjbaaGreatDoor
