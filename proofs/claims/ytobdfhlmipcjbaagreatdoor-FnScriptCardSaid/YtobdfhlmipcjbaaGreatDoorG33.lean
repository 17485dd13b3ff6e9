/- impl.change, step by step: what the called function leaves is what the step leaves. DepositTo into a new, empty set of the mask's length; Deposit. Conditions: the two sets may be one. impl.words with a word in each cell of its row; From, FromWithLength. Conditions: at most 500 words. spec.Do: steps that change nothing after a look. Conditions: places of four, numbers of at most 2,000. -/
import Derived.Test.YtobdfhlmipcjbaaGreatDoorG01
import Derived.Test.YtobdfhlmipcjbaaGreatDoorG05
import Derived.Test.YtobdfhlmipcjbaaGreatDoorG30
import Derived.Test.YtobdfhlmipcjbaaGreatDoorG31
set_option linter.unusedVariables false
set_option linter.unusedSimpArgs false
set_option maxHeartbeats 4000000
set_option maxRecDepth 100000
namespace Go.Proofs.YtobdfhlmipcjbaaGreatDoor
open Go.RowKit
def istV(op:Int)(a b c:Nat)(fr to n:Nat)(wd:BitVec 64)(many:Value):Value:= .agg #[.int .i64 op,.int .i64 (a:Int),.int .i64 (b:Int),.int .i64 (c:Int),.int .u64 (fr:Int),.int .u64 (to:Int),.int .u64 (n:Int),WV wd,many]
def istO(op:Int)(a b c:Nat)(fr to n:Nat)(wd:BitVec 64)(many:Value):Obj:= .cells #[.int .i64 op,.int .i64 (a:Int),.int .i64 (b:Int),.int .i64 (c:Int),.int .u64 (fr:Int),.int .u64 (to:Int),.int .u64 (n:Int),WV wd,many] 32
theorem chg_0(a b c fr to n x y:Nat)(wd:BitVec 64)(many r:Value)(P:World->World->Prop)(w:World)(hc:∀w1,Fr (fun _=>False) w w1->Calls Tryz.prog 42 #[.pointer (some ⟨x,0,none⟩),.int .u64 (n:Int)] w1 fun e w'=>e= .returned r/\P w1 w'):
  Calls Tryz.prog 35 #[istV 0 a b c fr to n wd many,.pointer (some ⟨x,0,none⟩),.pointer (some ⟨y,0,none⟩)] w fun e w'=>e= .returned (.tuple #[])/\∃w1,Fr (fun _=>False) w w1/\P w1 w':=by
 have HC:=Lib.hid (hc _ ((Fr.refl _ w).alloc (.cells #[.int .i64 0,.int .i64 (a:Int),.int .i64 (b:Int),.int .i64 (c:Int),.int .u64 (fr:Int),.int .u64 (to:Int),.int .u64 (n:Int),WV wd,many] 32)))
 clear hc
 unfold istV
 go_enter Tryz.func35,Tryz.ntmps35
 go_wp2_with (go_at_call 42;refine HC.out.mono ?_;rintro e w' ⟨rfl,hp⟩;refine Hid.out ?_)
 refine Lib.hid ?_
 have HP:=Lib.hid hp;clear hp
 go_wp2
 go_end0
 exact ⟨rfl,_,(Fr.refl _ w).alloc _,HP.out⟩
theorem chg_1(a b c fr to n x y:Nat)(wd:BitVec 64)(many r:Value)(P:World->World->Prop)(w:World)(hc:∀w1,Fr (fun _=>False) w w1->Calls Tryz.prog 43 #[.pointer (some ⟨x,0,none⟩),.int .u64 (n:Int)] w1 fun e w'=>e= .returned r/\P w1 w'):
  Calls Tryz.prog 35 #[istV 1 a b c fr to n wd many,.pointer (some ⟨x,0,none⟩),.pointer (some ⟨y,0,none⟩)] w fun e w'=>e= .returned (.tuple #[])/\∃w1,Fr (fun _=>False) w w1/\P w1 w':=by
 have HC:=Lib.hid (hc _ ((Fr.refl _ w).alloc (.cells #[.int .i64 1,.int .i64 (a:Int),.int .i64 (b:Int),.int .i64 (c:Int),.int .u64 (fr:Int),.int .u64 (to:Int),.int .u64 (n:Int),WV wd,many] 32)))
 clear hc
 unfold istV
 go_enter Tryz.func35,Tryz.ntmps35
 go_wp2_with (go_at_call 43;refine HC.out.mono ?_;rintro e w' ⟨rfl,hp⟩;refine Hid.out ?_)
 refine Lib.hid ?_
 have HP:=Lib.hid hp;clear hp
 go_wp2
 go_end0
 exact ⟨rfl,_,(Fr.refl _ w).alloc _,HP.out⟩
theorem chg_2(a b c fr to n x y:Nat)(wd:BitVec 64)(many r:Value)(P:World->World->Prop)(w:World)(hc:∀w1,Fr (fun _=>False) w w1->Calls Tryz.prog 44 #[.pointer (some ⟨x,0,none⟩),.int .u64 (n:Int),.bool (oddB wd)] w1 fun e w'=>e= .returned r/\P w1 w'):
  Calls Tryz.prog 35 #[istV 2 a b c fr to n wd many,.pointer (some ⟨x,0,none⟩),.pointer (some ⟨y,0,none⟩)] w fun e w'=>e= .returned (.tuple #[])/\∃w1,Fr (fun _=>False) w w1/\P w1 w':=by
 have HC:=Lib.hid (hc _ ((Fr.refl _ w).alloc (.cells #[.int .i64 2,.int .i64 (a:Int),.int .i64 (b:Int),.int .i64 (c:Int),.int .u64 (fr:Int),.int .u64 (to:Int),.int .u64 (n:Int),WV wd,many] 32)))
 clear hc
 have ho:=odd_test wd
 unfold istV
 go_enter Tryz.func35,Tryz.ntmps35
 go_wp2_with (go_at_call 44;refine HC.out.mono ?_;rintro e w' ⟨rfl,hp⟩;refine Hid.out ?_)
 refine Lib.hid ?_
 have HP:=Lib.hid hp;clear hp
 go_wp2
 go_end0
 exact ⟨rfl,_,(Fr.refl _ w).alloc _,HP.out⟩
theorem chg_3(a b c fr to n x y:Nat)(wd:BitVec 64)(many r:Value)(P:World->World->Prop)(w:World)(hc:∀w1,Fr (fun _=>False) w w1->Calls Tryz.prog 45 #[.pointer (some ⟨x,0,none⟩),.int .u64 (n:Int)] w1 fun e w'=>e= .returned r/\P w1 w'):
  Calls Tryz.prog 35 #[istV 3 a b c fr to n wd many,.pointer (some ⟨x,0,none⟩),.pointer (some ⟨y,0,none⟩)] w fun e w'=>e= .returned (.tuple #[])/\∃w1,Fr (fun _=>False) w w1/\P w1 w':=by
 have HC:=Lib.hid (hc _ ((Fr.refl _ w).alloc (.cells #[.int .i64 3,.int .i64 (a:Int),.int .i64 (b:Int),.int .i64 (c:Int),.int .u64 (fr:Int),.int .u64 (to:Int),.int .u64 (n:Int),WV wd,many] 32)))
 clear hc
 unfold istV
 go_enter Tryz.func35,Tryz.ntmps35
 go_wp2_with (go_at_call 45;refine HC.out.mono ?_;rintro e w' ⟨rfl,hp⟩;refine Hid.out ?_)
 refine Lib.hid ?_
 have HP:=Lib.hid hp;clear hp
 go_wp2
 go_end0
 exact ⟨rfl,_,(Fr.refl _ w).alloc _,HP.out⟩
theorem chg_4(a b c fr to n x y:Nat)(wd:BitVec 64)(many r:Value)(P:World->World->Prop)(w:World)(hc:∀w1,Fr (fun _=>False) w w1->Calls Tryz.prog 46 #[.pointer (some ⟨x,0,none⟩),.int .u64 (fr:Int),.int .u64 (to:Int)] w1 fun e w'=>e= .returned r/\P w1 w'):
  Calls Tryz.prog 35 #[istV 4 a b c fr to n wd many,.pointer (some ⟨x,0,none⟩),.pointer (some ⟨y,0,none⟩)] w fun e w'=>e= .returned (.tuple #[])/\∃w1,Fr (fun _=>False) w w1/\P w1 w':=by
 have HC:=Lib.hid (hc _ ((Fr.refl _ w).alloc (.cells #[.int .i64 4,.int .i64 (a:Int),.int .i64 (b:Int),.int .i64 (c:Int),.int .u64 (fr:Int),.int .u64 (to:Int),.int .u64 (n:Int),WV wd,many] 32)))
 clear hc
 unfold istV
 go_enter Tryz.func35,Tryz.ntmps35
 go_wp2_with (go_at_call 46;refine HC.out.mono ?_;rintro e w' ⟨rfl,hp⟩;refine Hid.out ?_)
 refine Lib.hid ?_
 have HP:=Lib.hid hp;clear hp
 go_wp2
 go_end0
 exact ⟨rfl,_,(Fr.refl _ w).alloc _,HP.out⟩
theorem chg_5(a b c fr to n x y:Nat)(wd:BitVec 64)(many r:Value)(P:World->World->Prop)(w:World)(hc:∀w1,Fr (fun _=>False) w w1->Calls Tryz.prog 47 #[.pointer (some ⟨x,0,none⟩),.int .u64 (fr:Int),.int .u64 (to:Int)] w1 fun e w'=>e= .returned r/\P w1 w'):
  Calls Tryz.prog 35 #[istV 5 a b c fr to n wd many,.pointer (some ⟨x,0,none⟩),.pointer (some ⟨y,0,none⟩)] w fun e w'=>e= .returned (.tuple #[])/\∃w1,Fr (fun _=>False) w w1/\P w1 w':=by
 have HC:=Lib.hid (hc _ ((Fr.refl _ w).alloc (.cells #[.int .i64 5,.int .i64 (a:Int),.int .i64 (b:Int),.int .i64 (c:Int),.int .u64 (fr:Int),.int .u64 (to:Int),.int .u64 (n:Int),WV wd,many] 32)))
 clear hc
 unfold istV
 go_enter Tryz.func35,Tryz.ntmps35
 go_wp2_with (go_at_call 47;refine HC.out.mono ?_;rintro e w' ⟨rfl,hp⟩;refine Hid.out ?_)
 refine Lib.hid ?_
 have HP:=Lib.hid hp;clear hp
 go_wp2
 go_end0
 exact ⟨rfl,_,(Fr.refl _ w).alloc _,HP.out⟩
theorem chg_6(a b c fr to n x y:Nat)(wd:BitVec 64)(many r:Value)(P:World->World->Prop)(w:World)(hc:∀w1,Fr (fun _=>False) w w1->Calls Tryz.prog 48 #[.pointer (some ⟨x,0,none⟩),.int .u64 (n:Int)] w1 fun e w'=>e= .returned r/\P w1 w'):
  Calls Tryz.prog 35 #[istV 6 a b c fr to n wd many,.pointer (some ⟨x,0,none⟩),.pointer (some ⟨y,0,none⟩)] w fun e w'=>e= .returned (.tuple #[])/\∃w1,Fr (fun _=>False) w w1/\P w1 w':=by
 have HC:=Lib.hid (hc _ ((Fr.refl _ w).alloc (.cells #[.int .i64 6,.int .i64 (a:Int),.int .i64 (b:Int),.int .i64 (c:Int),.int .u64 (fr:Int),.int .u64 (to:Int),.int .u64 (n:Int),WV wd,many] 32)))
 clear hc
 unfold istV
 go_enter Tryz.func35,Tryz.ntmps35
 go_wp2_with (go_at_call 48;refine HC.out.mono ?_;rintro e w' ⟨rfl,hp⟩;refine Hid.out ?_)
 refine Lib.hid ?_
 have HP:=Lib.hid hp;clear hp
 go_wp2
 go_end0
 exact ⟨rfl,_,(Fr.refl _ w).alloc _,HP.out⟩
theorem chg_7(a b c fr to n x y:Nat)(wd:BitVec 64)(many r:Value)(P:World->World->Prop)(w:World)(hc:∀w1,Fr (fun _=>False) w w1->Calls Tryz.prog 49 #[.pointer (some ⟨x,0,none⟩),.int .u64 (n:Int)] w1 fun e w'=>e= .returned r/\P w1 w'):
  Calls Tryz.prog 35 #[istV 7 a b c fr to n wd many,.pointer (some ⟨x,0,none⟩),.pointer (some ⟨y,0,none⟩)] w fun e w'=>e= .returned (.tuple #[])/\∃w1,Fr (fun _=>False) w w1/\P w1 w':=by
 have HC:=Lib.hid (hc _ ((Fr.refl _ w).alloc (.cells #[.int .i64 7,.int .i64 (a:Int),.int .i64 (b:Int),.int .i64 (c:Int),.int .u64 (fr:Int),.int .u64 (to:Int),.int .u64 (n:Int),WV wd,many] 32)))
 clear hc
 unfold istV
 go_enter Tryz.func35,Tryz.ntmps35
 go_wp2_with (go_at_call 49;refine HC.out.mono ?_;rintro e w' ⟨rfl,hp⟩;refine Hid.out ?_)
 refine Lib.hid ?_
 have HP:=Lib.hid hp;clear hp
 go_wp2
 go_end0
 exact ⟨rfl,_,(Fr.refl _ w).alloc _,HP.out⟩
theorem chg_8(a b c fr to n x y:Nat)(wd:BitVec 64)(many r:Value)(P:World->World->Prop)(w:World)(hc:∀w1,Fr (fun _=>False) w w1->Calls Tryz.prog 50 #[.pointer (some ⟨x,0,none⟩),.int .u64 (n:Int)] w1 fun e w'=>e= .returned r/\P w1 w'):
  Calls Tryz.prog 35 #[istV 8 a b c fr to n wd many,.pointer (some ⟨x,0,none⟩),.pointer (some ⟨y,0,none⟩)] w fun e w'=>e= .returned (.tuple #[])/\∃w1,Fr (fun _=>False) w w1/\P w1 w':=by
 have HC:=Lib.hid (hc _ ((Fr.refl _ w).alloc (.cells #[.int .i64 8,.int .i64 (a:Int),.int .i64 (b:Int),.int .i64 (c:Int),.int .u64 (fr:Int),.int .u64 (to:Int),.int .u64 (n:Int),WV wd,many] 32)))
 clear hc
 unfold istV
 go_enter Tryz.func35,Tryz.ntmps35
 go_wp2_with (go_at_call 50;refine HC.out.mono ?_;rintro e w' ⟨rfl,hp⟩;refine Hid.out ?_)
 refine Lib.hid ?_
 have HP:=Lib.hid hp;clear hp
 go_wp2
 go_end0
 exact ⟨rfl,_,(Fr.refl _ w).alloc _,HP.out⟩
theorem chg_9(a b c fr to n x y:Nat)(wd:BitVec 64)(many r:Value)(P:World->World->Prop)(w:World)(hc:∀w1,Fr (fun _=>False) w w1->Calls Tryz.prog 51 #[.pointer (some ⟨x,0,none⟩)] w1 fun e w'=>e= .returned r/\P w1 w'):
  Calls Tryz.prog 35 #[istV 9 a b c fr to n wd many,.pointer (some ⟨x,0,none⟩),.pointer (some ⟨y,0,none⟩)] w fun e w'=>e= .returned (.tuple #[])/\∃w1,Fr (fun _=>False) w w1/\P w1 w':=by
 have HC:=Lib.hid (hc _ ((Fr.refl _ w).alloc (.cells #[.int .i64 9,.int .i64 (a:Int),.int .i64 (b:Int),.int .i64 (c:Int),.int .u64 (fr:Int),.int .u64 (to:Int),.int .u64 (n:Int),WV wd,many] 32)))
 clear hc
 unfold istV
 go_enter Tryz.func35,Tryz.ntmps35
 go_wp2_with (go_at_call 51;refine HC.out.mono ?_;rintro e w' ⟨rfl,hp⟩;refine Hid.out ?_)
 refine Lib.hid ?_
 have HP:=Lib.hid hp;clear hp
 go_wp2
 go_end0
 exact ⟨rfl,_,(Fr.refl _ w).alloc _,HP.out⟩
theorem chg_10(a b c fr to n x y:Nat)(wd:BitVec 64)(many r:Value)(P:World->World->Prop)(w:World)(hc:∀w1,Fr (fun _=>False) w w1->Calls Tryz.prog 52 #[.pointer (some ⟨x,0,none⟩)] w1 fun e w'=>e= .returned r/\P w1 w'):
  Calls Tryz.prog 35 #[istV 10 a b c fr to n wd many,.pointer (some ⟨x,0,none⟩),.pointer (some ⟨y,0,none⟩)] w fun e w'=>e= .returned (.tuple #[])/\∃w1,Fr (fun _=>False) w w1/\P w1 w':=by
 have HC:=Lib.hid (hc _ ((Fr.refl _ w).alloc (.cells #[.int .i64 10,.int .i64 (a:Int),.int .i64 (b:Int),.int .i64 (c:Int),.int .u64 (fr:Int),.int .u64 (to:Int),.int .u64 (n:Int),WV wd,many] 32)))
 clear hc
 unfold istV
 go_enter Tryz.func35,Tryz.ntmps35
 go_wp2_with (go_at_call 52;refine HC.out.mono ?_;rintro e w' ⟨rfl,hp⟩;refine Hid.out ?_)
 refine Lib.hid ?_
 have HP:=Lib.hid hp;clear hp
 go_wp2
 go_end0
 exact ⟨rfl,_,(Fr.refl _ w).alloc _,HP.out⟩
theorem chg_11(a b c fr to n x y:Nat)(wd:BitVec 64)(many r:Value)(P:World->World->Prop)(w:World)(hc:∀w1,Fr (fun _=>False) w w1->Calls Tryz.prog 53 #[.pointer (some ⟨x,0,none⟩)] w1 fun e w'=>e= .returned r/\P w1 w'):
  Calls Tryz.prog 35 #[istV 11 a b c fr to n wd many,.pointer (some ⟨x,0,none⟩),.pointer (some ⟨y,0,none⟩)] w fun e w'=>e= .returned (.tuple #[])/\∃w1,Fr (fun _=>False) w w1/\P w1 w':=by
 have HC:=Lib.hid (hc _ ((Fr.refl _ w).alloc (.cells #[.int .i64 11,.int .i64 (a:Int),.int .i64 (b:Int),.int .i64 (c:Int),.int .u64 (fr:Int),.int .u64 (to:Int),.int .u64 (n:Int),WV wd,many] 32)))
 clear hc
 unfold istV
 go_enter Tryz.func35,Tryz.ntmps35
 go_wp2_with (go_at_call 53;refine HC.out.mono ?_;rintro e w' ⟨rfl,hp⟩;refine Hid.out ?_)
 refine Lib.hid ?_
 have HP:=Lib.hid hp;clear hp
 go_wp2
 go_end0
 exact ⟨rfl,_,(Fr.refl _ w).alloc _,HP.out⟩
theorem chg_12(a b c fr to n x y:Nat)(wd:BitVec 64)(many r:Value)(P:World->World->Prop)(w:World)(hc:∀w1,Fr (fun _=>False) w w1->Calls Tryz.prog 54 #[.pointer (some ⟨x,0,none⟩),.pointer (some ⟨y,0,none⟩)] w1 fun e w'=>e= .returned r/\P w1 w'):
  Calls Tryz.prog 35 #[istV 12 a b c fr to n wd many,.pointer (some ⟨x,0,none⟩),.pointer (some ⟨y,0,none⟩)] w fun e w'=>e= .returned (.tuple #[])/\∃w1,Fr (fun _=>False) w w1/\P w1 w':=by
 have HC:=Lib.hid (hc _ ((Fr.refl _ w).alloc (.cells #[.int .i64 12,.int .i64 (a:Int),.int .i64 (b:Int),.int .i64 (c:Int),.int .u64 (fr:Int),.int .u64 (to:Int),.int .u64 (n:Int),WV wd,many] 32)))
 clear hc
 unfold istV
 go_enter Tryz.func35,Tryz.ntmps35
 go_wp2_with (go_at_call 54;refine HC.out.mono ?_;rintro e w' ⟨rfl,hp⟩;refine Hid.out ?_)
 refine Lib.hid ?_
 have HP:=Lib.hid hp;clear hp
 go_wp2
 go_end0
 exact ⟨rfl,_,(Fr.refl _ w).alloc _,HP.out⟩
theorem chg_13(a b c fr to n x y:Nat)(wd:BitVec 64)(many r:Value)(P:World->World->Prop)(w:World)(hc:∀w1,Fr (fun _=>False) w w1->Calls Tryz.prog 55 #[.pointer (some ⟨x,0,none⟩),.pointer (some ⟨y,0,none⟩)] w1 fun e w'=>e= .returned r/\P w1 w'):
  Calls Tryz.prog 35 #[istV 13 a b c fr to n wd many,.pointer (some ⟨x,0,none⟩),.pointer (some ⟨y,0,none⟩)] w fun e w'=>e= .returned (.tuple #[])/\∃w1,Fr (fun _=>False) w w1/\P w1 w':=by
 have HC:=Lib.hid (hc _ ((Fr.refl _ w).alloc (.cells #[.int .i64 13,.int .i64 (a:Int),.int .i64 (b:Int),.int .i64 (c:Int),.int .u64 (fr:Int),.int .u64 (to:Int),.int .u64 (n:Int),WV wd,many] 32)))
 clear hc
 unfold istV
 go_enter Tryz.func35,Tryz.ntmps35
 go_wp2_with (go_at_call 55;refine HC.out.mono ?_;rintro e w' ⟨rfl,hp⟩;refine Hid.out ?_)
 refine Lib.hid ?_
 have HP:=Lib.hid hp;clear hp
 go_wp2
 go_end0
 exact ⟨rfl,_,(Fr.refl _ w).alloc _,HP.out⟩
theorem chg_14(a b c fr to n x y:Nat)(wd:BitVec 64)(many r:Value)(P:World->World->Prop)(w:World)(hc:∀w1,Fr (fun _=>False) w w1->Calls Tryz.prog 56 #[.pointer (some ⟨x,0,none⟩),.pointer (some ⟨y,0,none⟩)] w1 fun e w'=>e= .returned r/\P w1 w'):
  Calls Tryz.prog 35 #[istV 14 a b c fr to n wd many,.pointer (some ⟨x,0,none⟩),.pointer (some ⟨y,0,none⟩)] w fun e w'=>e= .returned (.tuple #[])/\∃w1,Fr (fun _=>False) w w1/\P w1 w':=by
 have HC:=Lib.hid (hc _ ((Fr.refl _ w).alloc (.cells #[.int .i64 14,.int .i64 (a:Int),.int .i64 (b:Int),.int .i64 (c:Int),.int .u64 (fr:Int),.int .u64 (to:Int),.int .u64 (n:Int),WV wd,many] 32)))
 clear hc
 unfold istV
 go_enter Tryz.func35,Tryz.ntmps35
 go_wp2_with (go_at_call 56;refine HC.out.mono ?_;rintro e w' ⟨rfl,hp⟩;refine Hid.out ?_)
 refine Lib.hid ?_
 have HP:=Lib.hid hp;clear hp
 go_wp2
 go_end0
 exact ⟨rfl,_,(Fr.refl _ w).alloc _,HP.out⟩
theorem chg_15(a b c fr to n x y:Nat)(wd:BitVec 64)(many r:Value)(P:World->World->Prop)(w:World)(hc:∀w1,Fr (fun _=>False) w w1->Calls Tryz.prog 57 #[.pointer (some ⟨x,0,none⟩),.pointer (some ⟨y,0,none⟩)] w1 fun e w'=>e= .returned r/\P w1 w'):
  Calls Tryz.prog 35 #[istV 15 a b c fr to n wd many,.pointer (some ⟨x,0,none⟩),.pointer (some ⟨y,0,none⟩)] w fun e w'=>e= .returned (.tuple #[])/\∃w1,Fr (fun _=>False) w w1/\P w1 w':=by
 have HC:=Lib.hid (hc _ ((Fr.refl _ w).alloc (.cells #[.int .i64 15,.int .i64 (a:Int),.int .i64 (b:Int),.int .i64 (c:Int),.int .u64 (fr:Int),.int .u64 (to:Int),.int .u64 (n:Int),WV wd,many] 32)))
 clear hc
 unfold istV
 go_enter Tryz.func35,Tryz.ntmps35
 go_wp2_with (go_at_call 57;refine HC.out.mono ?_;rintro e w' ⟨rfl,hp⟩;refine Hid.out ?_)
 refine Lib.hid ?_
 have HP:=Lib.hid hp;clear hp
 go_wp2
 go_end0
 exact ⟨rfl,_,(Fr.refl _ w).alloc _,HP.out⟩
theorem chg_24(a b c fr to n x y:Nat)(wd:BitVec 64)(many r:Value)(P:World->World->Prop)(w:World)(hc:∀w1,Fr (fun _=>False) w w1->Calls Tryz.prog 58 #[.pointer (some ⟨x,0,none⟩),.int .u64 (n:Int)] w1 fun e w'=>e= .returned r/\P w1 w'):
  Calls Tryz.prog 35 #[istV 24 a b c fr to n wd many,.pointer (some ⟨x,0,none⟩),.pointer (some ⟨y,0,none⟩)] w fun e w'=>e= .returned (.tuple #[])/\∃w1,Fr (fun _=>False) w w1/\P w1 w':=by
 have HC:=Lib.hid (hc _ ((Fr.refl _ w).alloc (.cells #[.int .i64 24,.int .i64 (a:Int),.int .i64 (b:Int),.int .i64 (c:Int),.int .u64 (fr:Int),.int .u64 (to:Int),.int .u64 (n:Int),WV wd,many] 32)))
 clear hc
 unfold istV
 go_enter Tryz.func35,Tryz.ntmps35
 go_wp2_with (go_at_call 58;refine HC.out.mono ?_;rintro e w' ⟨rfl,hp⟩;refine Hid.out ?_)
 refine Lib.hid ?_
 have HP:=Lib.hid hp;clear hp
 go_wp2
 go_end0
 exact ⟨rfl,_,(Fr.refl _ w).alloc _,HP.out⟩
theorem chg_25(a b c fr to n x y:Nat)(wd:BitVec 64)(many r:Value)(P:World->World->Prop)(w:World)(hc:∀w1,Fr (fun _=>False) w w1->Calls Tryz.prog 59 #[.pointer (some ⟨x,0,none⟩),.int .u64 (n:Int)] w1 fun e w'=>e= .returned r/\P w1 w'):
  Calls Tryz.prog 35 #[istV 25 a b c fr to n wd many,.pointer (some ⟨x,0,none⟩),.pointer (some ⟨y,0,none⟩)] w fun e w'=>e= .returned (.tuple #[])/\∃w1,Fr (fun _=>False) w w1/\P w1 w':=by
 have HC:=Lib.hid (hc _ ((Fr.refl _ w).alloc (.cells #[.int .i64 25,.int .i64 (a:Int),.int .i64 (b:Int),.int .i64 (c:Int),.int .u64 (fr:Int),.int .u64 (to:Int),.int .u64 (n:Int),WV wd,many] 32)))
 clear hc
 unfold istV
 go_enter Tryz.func35,Tryz.ntmps35
 go_wp2_with (go_at_call 59;refine HC.out.mono ?_;rintro e w' ⟨rfl,hp⟩;refine Hid.out ?_)
 refine Lib.hid ?_
 have HP:=Lib.hid hp;clear hp
 go_wp2
 go_end0
 exact ⟨rfl,_,(Fr.refl _ w).alloc _,HP.out⟩
end Go.Proofs.YtobdfhlmipcjbaaGreatDoor
namespace Go.Proofs.YtobdfhlmipcjbaaGreatDoor
open Go.RowKit Pop
def DepP(w:World)(d sd Ld c:Nat)(a m:Nat->Bool)(e:Ending)(w':World):Prop:=
 e= .returned (.tuple #[])/\∃g,RS w' d sd Ld c g/\(∀j,j<nw Ld->g j=pk (dpB a m) j)/\Fr (· =sd) w w'
theorem dp_late{a m:Nat->Bool}{La k:Nat}(ha:∀i,La<=i->a i=false)(h:La<=cntN m (64*k))(j:Nat)(hj:k<=j):pk (dpB a m) j=0:=(pk_ext fun i _=>by
 have:=cntN_up m (show 64*k<=64*j+i by omega)
 simp [dpB,ha _ (show La<=cntN m (64*j+i) by omega)]).symm
theorem dp_zero{a m:Nat->Bool}{k:Nat}(h:pk m k=0):pk (dpB a m) k=0:=(pk_ext fun i hi=>by
 have h2:=getLsbD_pk m k i
 rw [h]at h2
 have h3:m (64*k+i)=false:=by simpa [hi] using h2.symm
 simp [dpB,h3]).symm
theorem pkAt_last{a:Nat->Bool}{n W o:Nat}(ha:∀i,64*n<=i->a i=false)(ho:o<64)(h:n<=W+1\/o=0):pk a W>>>o=pkAt a (64*W+o):=by
 rw [<- pkAt_two a W o ho]
 rcases h with h|rfl
 ·rw [show pk a (W+1)=0 from (pk_ext fun i _=>by rw [ha _ (by omega)];simp).symm];simp
 ·apply BitVec.eq_of_getLsbD_eq
  intro i hi
  rw [BitVec.getLsbD_or,BitVec.getLsbD_shiftLeft]
  simp [hi]
theorem depositTo_raw(p q d sd La Lm nx cx sx ny cy sy c:Nat)(A B:Option Addr)(a m:Nat->Bool)(g0:Nat->BitVec 64)(w:World)
  (hx:Vw w p La nx cx sx A a) (hy:Vw w q Lm ny cy sy B m) (hr:RS w d sd Lm c g0) (h0:∀j,j<nw Lm->g0 j=0)
  (hs1:p≠sd) (hs2:sx≠sd) (hs3:q≠sd) (hs4:sy≠sd):
  Calls Tryz.prog 107 #[.pointer (some ⟨p,0,none⟩),.pointer (some ⟨q,0,none⟩),.pointer (some ⟨d,0,none⟩)] w (DepP w d sd Lm c a m):=by
 obtain ⟨x1,x2,x3,x4,x5,x6,x7⟩:=hx
 obtain ⟨y1,y2,y3,y4,y5,y6,y7⟩:=hy
 have hnx:nx<=1000:=by rw [x5];exact nw_bound x6
 have hny:ny<=1000:=by rw [y5];exact nw_bound y6
 have hax:∀i,64*nx<=i->a i=false:=fun i hi=>x7 i (by unfold nw at x5;omega)
 have hN5:∀k,cntN m (64*k)<=50000:=fun k=>by
  rcases Nat.le_total (64*k) Lm with h|h
  ·have:=cntN_le m (64*k);omega
  ·rw [cntN_past y7 h];have:=cntN_le m Lm;omega
 have d1:=hr.h1
 have hneD:=hr.ne
 have hcD:=hr.hn
 rw [<- y5]at d1 hcD
 have HR:=Lib.hid hr;have H0:=Lib.hid h0;have HAX:=Lib.hid hax;have HN5:=Lib.hid hN5;have HY5:=Lib.hid y5;have HX4:=Lib.hid x4;have HY4:=Lib.hid y4;have HX7:=Lib.hid x7
 have HX5:=Lib.hid (show La<=64*nx by rw [x5];unfold nw;omega)
 clear hr h0 hax hN5 y5 x5 x4 y4 x7 y7 x6 y6
 by_cases hz:ny=0\/nx=0
 ·have hfin:Hid (DepP w d sd Lm c a m (.returned (.tuple #[])) w):=by
   refine ⟨rfl,g0,HR.out,fun j hj=>?_,Fr.refl _ _⟩
   rw [<- HY5.out]at hj
   have hx0:nx=0:=by omega
   rw [H0.out j (by rw [<- HY5.out];exact hj)]
   exact (dp_late (La:=0) (k:=0) (fun i _=>HAX.out i (by omega)) (Nat.zero_le _) j (Nat.zero_le _)).symm
  clear x3 y3
  by_cases hz1:ny=0
  ·subst hz1
   go_enter Tryz.func107,Tryz.ntmps107
   go_wp2_with (go_at_call 103;refine (panicIfNull_c _ _).mono ?_;rintro e w' ⟨rfl,hw⟩;obtain rfl:=hw.symm)
   go_end0
   exact hfin.out
  ·have hz2:nx=0:=by omega
   have t1:((ny:Int)==0)=false:=by simp;omega
   subst hz2
   go_enter Tryz.func107,Tryz.ntmps107
   go_wp2_with (go_at_call 103;refine (panicIfNull_c _ _).mono ?_;rintro e w' ⟨rfl,hw⟩;obtain rfl:=hw.symm)
   go_end0
   exact hfin.out
 ·have t1:((ny:Int)==0)=false:=by simp;omega
  have t2:((nx:Int)==0)=false:=by simp;omega
  have t3:decide (ny<ny)=false:=by simp
  obtain rfl:=x3 (by omega)
  obtain rfl:=y3 (by omega)
  clear x3 y3 hz
  have H1:=Lib.hid x1;have H2:=Lib.hid y1
  go_enter Tryz.func107,Tryz.ntmps107
  go_wp2_with (go_at_call 103;refine (panicIfNull_c _ _).mono ?_;rintro e w' ⟨rfl,hw⟩;obtain rfl:=hw.symm)
  clear x1 y1 d1
  go_loopw [6,8] (fun x i wr=>∃(k:Nat) (g:Nat->BitVec 64),k<=ny/\i= .int .i64 (k:Int)/\x= .int .u64 ((cntN m (64*k):Nat):Int)/\RS wr d sd Lm c g/\(∀j,j<ny->g j=if j<k then pk (dpB a m) j else 0)/\Fr (· =sd) w wr) (fun x i _=>ny-(intOf i).toNat)
  case atStart=>exact ⟨0,g0,by omega,rfl,rfl,HR.out,fun j hj=>by rw [if_neg (by omega)];exact H0.out j (by rw [<- HY5.out];exact hj),Fr.refl _ _⟩
  case round=>
   obtain ⟨k,g,hk,rfl,rfl,hr,hg,hf⟩:=hrel
   obtain ⟨N,hN⟩:∃N,N=cntN m (64*k):=⟨_,rfl⟩
   rw [<- hN]
   have hNb:N<=50000:=by rw [hN];exact HN5.out k
   have x1:=(hf.cell (block_lt_of_cell H1.out) hs1).trans H1.out
   have y1:=(hf.cell (block_lt_of_cell H2.out) hs3).trans H2.out
   have d1:=hr.h1
   rw [<- HY5.out]at d1
   have HR2:=Lib.hid hr;have HG:=Lib.hid hg;have HF:=Lib.hid hf;have HN:=Lib.hid hN
   by_cases hlt2:k<ny
   ·have cy_:=(hf.cell (block_lt_of_cell (HY4.out k hlt2)) hs4).trans (HY4.out k hlt2)
    have hcx:∀i,i<nx->wr.cell? ⟨sx,i,none⟩=some (WV (pk a i)):=fun i hi=>(hf.cell (block_lt_of_cell (HX4.out i hi)) hs2).trans (HX4.out i hi)
    have hN2:N+pc (pk m k)=cntN m (64*(k+1)):=by rw [hN,<- cnt_word]
    obtain ⟨y,hy⟩:∃y,y=pk m k:=⟨_,rfl⟩
    rw [<- hy]at cy_ hN2
    have dk:=hr.at (i:=k) (by rw [<- HY5.out];exact hlt2)
    have dkf:=hr.fr k
    have hgk:g k=0:=by rw [hg k hlt2,if_neg (by omega)]
    clear hr hg hf hN
    have HY:=Lib.hid hy;have HN2:=Lib.hid hN2;have HCX:=Lib.hid hcx;clear hy hN2 hcx
    by_cases hz0:y=0
    ·have tz:(wn y==0)=true:=by rw [hz0];rfl
     have HZ0:=Lib.hid hz0;have HGK:=Lib.hid hgk;clear hz0 dk dkf hgk
     go_wp2
     go_roundw
     case rel=>
      refine ⟨k+1,g,by omega,by go_num,?_,HR2.out,fun j hj=>?_,HF.out⟩
      ·rw [<- HN2.out,HZ0.out,show pc (0:BitVec 64)=0 from (pc_zero_iff 0).2 rfl];rfl
      ·by_cases e:j=k
       ·rw [if_pos (by omega),e,HGK.out];exact (dp_zero (by rw [<- HY.out];exact HZ0.out)).symm
       ·rw [HG.out j hj]
        by_cases e2:j<k
        ·rw [if_pos e2,if_pos (by omega)]
        ·rw [if_neg e2,if_neg (by omega)]
     case measure=>simp [intOf];omega
    ·have tz:(wn y==0)=false:=by
      rw [beq_eq_false_iff_ne];intro e;rw [wn_eq_zero]at e;exact hz0 e
     have hpl:=pc_le y
     obtain ⟨t,ht⟩:∃t,t=pc y:=⟨_,rfl⟩
     rw [<- ht]at hpl
     have CO:∀w,Calls Tryz.prog 125 #[WV y] w fun e w'=>e= .returned (.int .i64 (t:Int))/\w'=w:=fun w=>by rw [ht];exact ones_c y w
     obtain ⟨W,hW⟩:∃W,W=N/64:=⟨_,rfl⟩
     obtain ⟨o,ho⟩:∃o,o=N%64:=⟨_,rfl⟩
     have hNW:N=64*W+o:=by omega
     have ho64:o<64:=by omega
     have f1:(N:Int)/64=(W:Int):=by omega
     have f2:bits .and .u64 (N:Int) 63=(o:Int):=by rw [and63 N (by omega),ho]
     have HT:=Lib.hid ht;have HNW:=Lib.hid hNW;have HCO:=Lib.hid CO
     clear ht hNW CO hW ho hz0
     by_cases hWx:nx<=W
     ·have t4:decide ((nx:Int)<=(W:Int))=true:=by simp;omega
      have hfin:Hid (DepP w d sd Lm c a m (.returned (.tuple #[])) wr):=by
       refine ⟨rfl,g,HR2.out,fun j hj=>?_,HF.out⟩
       rw [<- HY5.out]at hj
       rw [HG.out j hj]
       split
       ·rfl
       ·exact (dp_late HX7.out (by rw [<- HN.out];have:=HNW.out;have:=HX5.out;omega) j (by omega)).symm
      clear dk dkf hgk
      go_wp2
      go_end0
      exact hfin.out
     ·have t4:decide ((nx:Int)<=(W:Int))=false:=by simp;omega
      have cx1:=HCX.out W (by omega)
      obtain ⟨X1,hX1⟩:∃X1,X1=pk a W:=⟨_,rfl⟩
      rw [<- hX1]at cx1
      obtain ⟨V,hV⟩:∃V,V=pkAt a N:=⟨_,rfl⟩
      obtain ⟨P,hP⟩:∃P,P=pk (dpB V.getLsbD y.getLsbD) 0:=⟨_,rfl⟩
      have hPk:P=pk (dpB a m) k:=by rw [hP,hV,HY.out,HN.out];exact dep_word a m k
      have CP:∀w,Calls Tryz.prog 130 #[WV V,WV y] w fun e w'=>e= .returned (WV P)/\w'=w:=fun w=>by rw [hP];exact pdep_e V y w
      obtain ⟨G0,hG0⟩:∃G0,G0=g k:=⟨_,rfl⟩
      rw [<- hG0]at dk
      obtain ⟨G1,hG1⟩:∃G1,G1=G0&&& ~~~ y:=⟨_,rfl⟩
      have m1:bits .andNot .u64 (wn G0) (wn y)=wn G1:=by rw [hG1];exact wn_andNot _ _
      obtain ⟨G2,hG2⟩:∃G2,G2=G1|||P:=⟨_,rfl⟩
      have m2:bits .or .u64 (wn G1) (wn P)=wn G2:=by rw [hG2];exact wn_or _ _
      have hfin:Hid (G2=pk (dpB a m) k):=by
       show _=_
       rw [hG2,hG1,hG0,hgk,<- hPk];simp
      have hne1:¬d=sd:=fun e=>hneD e.symm
      have HX1:=Lib.hid hX1;have HV:=Lib.hid hV;have HCP:=Lib.hid CP
      clear hX1 hV hP hPk CP hG0 hG1 hG2 hgk
      rcases(by omega:(W+1<nx/\¬o=0)\/nx<=W+1\/(W+1<nx/\o=0)) with ⟨h17,h18⟩|h17|⟨h17,h18⟩
      ·have t5:decide ((W:Int)+1<(nx:Int))=true:=by simp;omega
       have t6:((o:Int)==0)=false:=by simp;omega
       have t7:((o:Int) != 0)=true:=by simp;omega
       have cx2:=HCX.out (W+1) h17
       obtain ⟨X2,hX2⟩:∃X2,X2=pk a (W+1):=⟨_,rfl⟩
       rw [<- hX2]at cx2
       obtain ⟨s,hs⟩:∃s,s=64-o:=⟨_,rfl⟩
       have i3:((64:Int)-(o:Int)).toNat=s:=by omega
       obtain ⟨R1,hR1⟩:∃R1,R1=X1>>>o:=⟨_,rfl⟩
       have m3:wn X1/(2:Int)^o=wn R1:=by rw [hR1];exact wn_shr _ _
       obtain ⟨S1,hS1⟩:∃S1,S1=X2<<<s:=⟨_,rfl⟩
       have m4:IntKind.u64.wrap (wn X2*(2:Int)^s)=wn S1:=by rw [hS1];exact wn_shl _ _
       have m5:bits .or .u64 (wn R1) (wn S1)=wn V:=by
        rw [hR1,hS1,HX1.out,hX2,hs,HV.out,HNW.out,<- pkAt_two a W o ho64];exact wn_or _ _
       clear hX2 hs hR1 hS1
       go_wp2
       refine wp_region_quiet_tail 31 (by kernel_rfl) (by kernel_rfl) ?_
       simp only [List.take_succ_cons,List.take_zero,List.drop_succ_cons,List.drop_zero]
       repeat (go_big_quiet_step ((go_at_call 130;exact Calls.quiet_of_same (HCP.out _))))
       refine wpQuiet_nil ?_
       intro _ ⟨nq,hw'⟩
       subst hw'
       go_wp2_with (go_at_call 125;refine (HCO.out _).mono ?_;rintro e w' ⟨rfl,hw⟩;obtain rfl:=hw.symm)
       go_roundw
       case rel=>
        refine ⟨k+1,_,by omega,by go_num,by rw [<- HN2.out,HT.out];simp,(HR2.out.drewN nq).set k G2,fun j hj=>?_,(HF.out.drewN nq).setCell (a:=⟨sd,k,none⟩) (.inl rfl) _⟩
        by_cases e:j=k
        ·rw [if_pos e,if_pos (by omega),e];exact hfin.out
        ·rw [if_neg e,HG.out j hj]
         by_cases e2:j<k
         ·rw [if_pos e2,if_pos (by omega)]
         ·rw [if_neg e2,if_neg (by omega)]
       case measure=>simp [intOf];omega
      ·have t5:decide ((W:Int)+1<(nx:Int))=false:=by simp;omega
       have m3:wn X1/(2:Int)^o=wn V:=by
        rw [HX1.out,HV.out,HNW.out,<- pkAt_last HAX.out ho64 (.inl h17)];exact wn_shr _ _
       go_wp2
       refine wp_region_quiet_tail 31 (by kernel_rfl) (by kernel_rfl) ?_
       simp only [List.take_succ_cons,List.take_zero,List.drop_succ_cons,List.drop_zero]
       repeat (go_big_quiet_step ((go_at_call 130;exact Calls.quiet_of_same (HCP.out _))))
       refine wpQuiet_nil ?_
       intro _ ⟨nq,hw'⟩
       subst hw'
       go_wp2_with (go_at_call 125;refine (HCO.out _).mono ?_;rintro e w' ⟨rfl,hw⟩;obtain rfl:=hw.symm)
       go_roundw
       case rel=>
        refine ⟨k+1,_,by omega,by go_num,by rw [<- HN2.out,HT.out];simp,(HR2.out.drewN nq).set k G2,fun j hj=>?_,(HF.out.drewN nq).setCell (a:=⟨sd,k,none⟩) (.inl rfl) _⟩
        by_cases e:j=k
        ·rw [if_pos e,if_pos (by omega),e];exact hfin.out
        ·rw [if_neg e,HG.out j hj]
         by_cases e2:j<k
         ·rw [if_pos e2,if_pos (by omega)]
         ·rw [if_neg e2,if_neg (by omega)]
       case measure=>simp [intOf];omega
      ·have t5:decide ((W:Int)+1<(nx:Int))=true:=by simp;omega
       have m3:wn X1/(2:Int)^o=wn V:=by
        rw [HX1.out,HV.out,HNW.out,<- pkAt_last HAX.out ho64 (.inr h18)];exact wn_shr _ _
       have t6:((o:Int)==0)=true:=by simp;omega
       have t7:((o:Int) != 0)=false:=by simp;omega
       have H18:=Lib.hid h18;clear h18
       go_wp2
       refine wp_region_quiet_tail 31 (by kernel_rfl) (by kernel_rfl) ?_
       simp only [List.take_succ_cons,List.take_zero,List.drop_succ_cons,List.drop_zero]
       repeat (go_big_quiet_step ((go_at_call 130;exact Calls.quiet_of_same (HCP.out _))))
       refine wpQuiet_nil ?_
       intro _ ⟨nq,hw'⟩
       subst hw'
       go_wp2_with (go_at_call 125;refine (HCO.out _).mono ?_;rintro e w' ⟨rfl,hw⟩;obtain rfl:=hw.symm)
       go_roundw
       case rel=>
        refine ⟨k+1,_,by omega,by go_num,by rw [<- HN2.out,HT.out];simp,(HR2.out.drewN nq).set k G2,fun j hj=>?_,(HF.out.drewN nq).setCell (a:=⟨sd,k,none⟩) (.inl rfl) _⟩
        by_cases e:j=k
        ·rw [if_pos e,if_pos (by omega),e];exact hfin.out
        ·rw [if_neg e,HG.out j hj]
         by_cases e2:j<k
         ·rw [if_pos e2,if_pos (by omega)]
         ·rw [if_neg e2,if_neg (by omega)]
       case measure=>simp [intOf];omega
   ·have hkl:k=ny:=by omega
    have HKL:=Lib.hid hkl
    clear hr hg hf hN hkl
    go_wp2
    go_end0
    refine ⟨rfl,g,HR2.out,fun j hj=>?_,HF.out⟩
    rw [<- HY5.out]at hj
    rw [HG.out j hj,if_pos (by have:=HKL.out;omega)]
theorem deposit_c(p q La Lm:Nat)(va vm:Value)(a m:Nat->Bool)(w:World)(hx:BA w p va La a)(hy:BA w q vm Lm m):
  Calls Tryz.prog 67 #[.pointer (some ⟨p,0,none⟩),.pointer (some ⟨q,0,none⟩)] w (MadeA w Lm (dpB a m)):=by
 have y0:=hp_cell hy.2.blk 0 rfl
 have hLb:=hy.2.lim
 have HX:=Lib.hid hx;have HY:=Lib.hid hy
 clear hx hy
 go_enter Tryz.func67,Tryz.ntmps67
 go_wp2_with (go_at_call 71;refine (new_c Lm _ (by omega)).mono ?_;rintro e w1 ⟨d,sd,c,g0,rfl,hr,hg,hf,hd,hsd⟩;refine Hid.out ?_)
 refine Lib.hid ?_
 have hox:=HX.out.2.own_lt
 have hoy:=HY.out.2.own_lt
 have hx1:=HX.out.keepF hf (fun _ _ h=>h)
 have hy1:=HY.out.keepF hf (fun _ _ h=>h)
 obtain ⟨nx,cx,sx,A,vx,ox⟩:=hx1.vw
 obtain ⟨ny,cy,sy,B,vy,oy⟩:=hy1.vw
 have hE:=depositTo_raw p q d sd La Lm nx cx sx ny cy sy c A B a m g0 w1 vx vy hr hg (by have:=hox p (.inl rfl);omega) (by have:=hox sx ox;omega) (by have:=hoy q (.inl rfl);omega) (by have:=hoy sy oy;omega)
 have hfin:Hid (∀g w2,RS w2 d sd Lm c g->(∀j,j<nw Lm->g j=pk (dpB a m) j)->Fr (· =sd) w1 w2->MadeA w Lm (dpB a m) (.returned (.pointer (some ⟨d,0,none⟩))) w2):=fun g w2 h1 h2 h3=>by
  refine ⟨d,_,rfl,h1.ba h2 (fun i hi=>by unfold dpB;rw [HY.out.1 i hi];rfl),hf.trans' h3 (fun r hr=> .inr (by omega)),?_⟩
  rintro r (rfl|hr2)
  ·exact hd
  ·simp [Value.ownBlock]at hr2;omega
 have HE:=Lib.hid hE
 clear hE vx vy ox oy hx1 hy1 hox hoy hr hg hf hd hsd y0
 go_wp2_with (go_at_call 107;refine HE.out.mono ?_;rintro e w2 ⟨rfl,g,h1,h2,h3⟩;refine Hid.out ?_)
 refine Lib.hid ?_
 have HF:=Lib.hid (hfin.out g w2 h1 h2 h3)
 clear h1 h2 h3
 go_wp2
 go_ret
 exact HF.out
end Go.Proofs.YtobdfhlmipcjbaaGreatDoor
namespace Go.Proofs.YtobdfhlmipcjbaaGreatDoor
open Go.RowKit
def AllW(w:World)(v:Value):Prop:=∀g,v.ownBlock=some g->∀cur fz,w.heap[g]? =some (.cells cur 29 fz)->∀y∈cur.toList,∃x,y=WV x
theorem zero_words(n:Nat):∀y∈(Builtin.zeroCells (Value.cells (.int .u64 0)) n).toList,∃x,y=WV x:=by
 intro y hy
 unfold Builtin.zeroCells at hy
 simp only [Array.toList_map,List.mem_map]at hy
 obtain ⟨i,_,rfl⟩:=hy
 refine ⟨0,?_⟩
 show (#[Value.int .u64 0])[i%1]! =_
 rw [Nat.mod_one];rfl
theorem app_words(ty:TypeId)(w:World)(v:Value)(n:Nat)(xs:List Value)(hv:Lst w 29 1 v n xs)(hw:AllW w v)(hxs:∀y∈xs,∃x,y=WV x)(ad:Addr)(m c:Nat)(ys:List Value)(hl:ys.length=m)
  (hnews:∀j u,ys[j]? =some u->w.cell? (ad.add j)=some u) (h1:∀u∈ys,u.oneCell'=true) (hys:∀y∈ys,∃x,y=WV x) (hm:0<m) (hb:n+m<=1000000) (v':Value) (w':World)
  (hrun:(Builtin.append_ #[33,33] ty #[v,.slice (some ad) m c]).run Tryz.prog w= .ok v' w'):AllW w' v':=by
 obtain ⟨i0,hi0,hz0,hz1,hz2⟩:=info_parts info29
 have hl1:ys.length=m*i0.size:=by rw [hz1,Nat.mul_one];exact hl
 rcases hv.2 with ⟨rfl,rfl⟩|⟨g,cap,cur,rfl,hbg,hg,hnc,hcm,hcs,htake⟩
 ·rw [run_append_nil w 33 ty 29 i0 _ Tryz.underlying33 hi0 hz0 ad m c ys hl1 hnews hm (by omega) (by rw [hz2];omega)]at hrun
  cases hrun
  intro g2 hg2 cur2 fz h2 y hy
  cases hg2
  have h3:=(heap_alloc_new w.drew _).symm.trans h2
  cases h3
  simp only [Array.toList_append,List.mem_append]at hy
  rcases hy with hy|hy
  ·exact hys y (by simpa using hy)
  ·exact zero_words _ y hy
 ·by_cases hroom:n+m<=cap
  ·have hfit:n*i0.size+ys.length<=cur.size:=by rw [hcs,hz1];omega
   rw [run_append_room w 33 ty 29 i0 Tryz.underlying33 hi0 g n cap cur hg ad m c ys hl1 hnews h1 hroom hfit]at hrun
   cases hrun
   intro g2 hg2 cur2 fz h2 y hy
   cases hg2
   rw [setRow_heap w g cur _ 29 _ hg]at h2
   cases h2
   have hold:=hw g rfl cur _ hg
   simp only [List.mem_append]at hy
   rcases hy with (hy|hy)|hy
   ·exact hold y (List.mem_of_mem_take hy)
   ·exact hys y hy
   ·exact hold y (List.mem_of_mem_drop hy)
  ·have holds:∀j u,xs[j]? =some u->w.cell? ((⟨g,0,none⟩:Addr).add j)=some u:=World.ownsRow.cells hv rfl
   rw [run_append_grow w 33 ty 29 i0 _ Tryz.underlying33 hi0 hz0 ⟨g,0,none⟩ n cap xs (by rw [hz1];exact hv.1) holds ad m c ys hl1 hnews (by omega) (by omega) (growslice_fits (by omega) (by rw [hz2];omega))]at hrun
   cases hrun
   intro g2 hg2 cur2 fz h2 y hy
   cases hg2
   have h3:=(heap_alloc_new w.drew _).symm.trans h2
   cases h3
   simp only [Array.toList_append,List.mem_append]at hy
   rcases hy with (hy|hy)|hy
   ·exact hxs y (by simpa using hy)
   ·exact hys y (by simpa using hy)
   ·exact zero_words _ y hy
theorem wpList_appW(s x:Operand)
  {ops:Array Oper} {rest:List Oper} {o:Oper} {a:Act} {Q:Exit->Act->World->Prop} (hgd:o.guard=none) (ho:o.op= .call { callee:= .builtin .append,args:= #[s,x],argTypes:= #[33,33] }) (w:World)
  (v:Value) (n:Nat) (xs:List Value) (hv:Lst w 29 1 v n xs) (hw:AllW w v) (hxs:∀y∈xs,∃x,y=WV x) (u:Value) (m:Nat) (ys:List Value) (hu:Src w 1 u m ys) (h1:∀y∈ys,y.oneCell'=true) (hys:∀y∈ys,∃x,y=WV x)
  (hm:0<m) (hlen:n+m<=1000000) (hs:a.eval s=v) (hx:a.eval x=u)
  (h:∀v' w',Lst w' 29 1 v' (n+m) (xs++ys)->AllW w' v'->Fr (fun r=>v.ownBlock=some r) w w'->(v'.ownBlock=v.ownBlock\/v'.ownBlock=some w.heap.size)->wpList Tryz.prog ops Q rest (a.put o.dst v') w'):
  wpList Tryz.prog ops Q (o::rest) a w:=by
 obtain ⟨i0,hi0,hz0,hz1,hz2⟩:=info_parts info29
 refine wpList_plain hgd fun K hK=>?_
 obtain ⟨v',w',hr,h2,h3,h4⟩:=run_app 33 o.type 29 i0 _ 1 8 Tryz.underlying33 hi0 hz0 hz1 hz2 rfl (by omega) w v n xs hv u m ys hu h1 hlen (by omega)
 have hW:AllW w' v':=by
  obtain ⟨A,c,rfl,hl,hh⟩:=hu
  obtain ⟨ad,rfl,hc⟩:=hh hm
  exact app_words o.type w v n xs hv hw hxs ad m c ys (by omega) hc h1 hys hm hlen v' w' hr
 unfold Oper.wp execOp
 simp only [ho,resolve,invoke,builtin,Sem.run_bind,Sem.run_pure,Result.andThen_ok,List.map_toArray,List.map_cons,List.map_nil,hs,hx,hr]
 exact hK _ _ (h v' w' h2 hW h3 h4)
def NewWds(w:World)(n:Nat)(ws:List (BitVec 64))(en:Ending)(w':World):Prop:=
 ∃v,en= .returned v/\Lst w' 29 1 v n (ws.map WV)/\AllW w' v/\Fr (fun _=>False) w w'/\∀r,v.ownBlock=some r->w.heap.size<=r
theorem words_mem(l:List (BitVec 64)):∀y∈l.map WV,∃x,y=WV x:=by
 intro y hy
 obtain ⟨x,_,rfl⟩:=List.mem_map.1 hy
 exact ⟨x,rfl⟩
theorem AllW.alloc{w:World}{v:Value}(h:AllW w v)(hb:∀r,v.ownBlock=some r->r<w.heap.size)(o:Obj):AllW (w.alloc o) v:=fun g hg cur fz hc=>h g hg cur fz (by rw [<- hp_alloc w o (hb g hg)];exact hc)
theorem words69_w(u:Value)(m:Nat)(ws:List (BitVec 64))(w:World)(hu:Src w 1 u m (ws.map WV))(hm:m<=1000):
  Calls Tryz.prog 69 #[u] w (NewWds w m ws):=by
 obtain ⟨A,c,rfl,hl,hc⟩:=hu
 have HC:=Lib.hid hc;have HL:=Lib.hid hl;clear hc hl
 go_enter Tryz.func69,Tryz.ntmps69
 go_wp2
 go_loopw [3,8] (fun v i wr=>∃k:Nat,k<=m/\i= .int .i64 (k:Int)/\Lst wr 29 1 v k ((ws.take k).map WV)/\AllW wr v/\Fr (fun _=>False) w wr/\∀r,v.ownBlock=some r->w.heap.size<=r) (fun v i _=>m-(intOf i).toNat)
 case atStart=>exact ⟨0,by omega,rfl,Lst.nil _ _ _,(fun g hg=>by cases hg),Fr.refl _ _,by simp [Value.ownBlock]⟩
 case round=>
  obtain ⟨k,hk,rfl,hrow,haw,hfr,hown⟩:=hrel
  by_cases hlt:k<m
  ·obtain ⟨ad,rfl,hcc⟩:=HC.out (by omega)
   have hl:=HL.out
   have hlen:k<ws.length:=by simp at hl;omega
   obtain ⟨x,hx⟩:∃x,ws[k]? =some x:=⟨_,List.getElem?_eq_getElem hlen⟩
   have hy:(ws.map WV)[k]? =some (WV x):=by simp [hx]
   have hcell:=(hfr.cell (a:=ad.add k) (block_lt_of_cell (hcc k _ hy)) (fun h=>h)).trans (hcc k _ hy)
   have hz:(k=0)=(k=0):=rfl
   have htk:ws.take k++ [x]=ws.take (k+1):=take_succ_get _ _ _ hx
   have HY:=Lib.hid htk;have HR:=Lib.hid hrow;have HF:=Lib.hid hfr;have HO:=Lib.hid hown;have HAW:=Lib.hid haw
   clear hrow hfr hown hcc hy hx hl hlen haw htk
   go_wp2_with (at_builtin;refine wpList_appW (.tmp 12) (.tmp 14) rfl rfl _ _ _ _ (HR.out.alloc _) (HAW.out.alloc HR.out.own_lt _) (words_mem _) _ _ _ (src_one wr (WV x) 29) (by simp [one_WV]) (fun y hy=>⟨x,by simpa using hy⟩) (by omega) (by omega) rfl rfl ?_;intro v1 w1 hv1 haw1 hf1 hat1)
   go_roundw
   case rel=>
    refine ⟨k+1,by omega,by go_num,?_,haw1,?_,?_⟩
    ·rw [<- HY.out,List.map_append];exact hv1
    ·exact (HF.out.alloc _).trans' hf1 (fun r hr=> .inr (HO.out r hr))
    ·exact own_new hat1 (by have:=HF.out.size;simp;omega) HO.out
   case measure=>simp [intOf];omega
  ·have hkk:k=m:=by omega
   subst hkk
   have HR:=Lib.hid hrow;have HF:=Lib.hid hfr;have HO:=Lib.hid hown;have HAW:=Lib.hid haw
   clear hrow hfr hown haw
   go_wp2
   go_ret
   have hr:=HR.out
   have hl:=HL.out
   rw [List.take_of_length_le (by simp at hl;omega)]at hr
   exact ⟨_,rfl,hr,HAW.out,HF.out,HO.out⟩
def mW(ws:List (BitVec 64))(i:Nat):Bool:=(ws.getD (i/64) 0).getLsbD (i%64)
theorem mW_out(ws:List (BitVec 64)):∀i,64*ws.length<=i->mW ws i=false:=fun i hi=>by
 unfold mW
 simp only [List.getD]
 rw [List.getElem?_eq_none (by omega)];simp
theorem pk_mW(ws:List (BitVec 64))(k:Nat):pk (mW ws) k=ws.getD k 0:=(pk_ext fun j hj=>by
 unfold mW
 rw [show (64*k+j)/64=k by omega,show (64*k+j)%64=j by omega]).symm
theorem Lst.allRow{w:World}{v:Value}{ws:List (BitVec 64)}{n:Nat}(h:Lst w 29 1 v n (ws.map WV))(ha:AllW w v):(n=0/\v= .slice none 0 0)\/∃(g c:Nat) (f:Nat->BitVec 64),v= .slice (some ⟨g,0,none⟩) n c/\n<=c/\c<=9223372036854775807/\w.rowIs g 29 c (fun i=>WV (f i))/\∀i,i<n->f i=ws.getD i 0:=by
 have hl:=h.1
 rcases h.2 with ⟨rfl,rfl⟩|⟨g,cap,cur,rfl,hb,hg,hn,hcm,hs,ht⟩
 ·exact .inl ⟨rfl,rfl⟩
 ·refine .inr ⟨g,cap,fun i=>BitVec.ofInt 64 (intOf ((cur[i]?).getD (.int .u64 0))),rfl,hn,by simp only [maxLen]at hcm;omega,⟨cur,hg,by omega,fun i hi=>?_⟩,fun i hi=>?_⟩
  ·have hi2:i<cur.size:=by omega
   obtain ⟨x,hx⟩:=ha g rfl cur _ hg cur[i] (by simp)
   have hx2:cur[i]? =some (WV x):=by rw [Array.getElem?_eq_getElem hi2,hx]
   show cur[i]? =some (WV (BitVec.ofInt 64 (intOf ((cur[i]?).getD (.int .u64 0)))))
   rw [hx2]
   show some (WV x)=some (WV (BitVec.ofInt 64 (wn x)))
   rw [ofInt_wn]
  ·have hi2:i<cur.size:=by omega
   have hw:i<ws.length:=by simp at hl;omega
   have h3:(cur.toList.take (n*1))[i]? =some (WV (ws.getD i 0)):=by
    rw [ht];simp [hw,List.getD]
   rw [Nat.mul_one,List.getElem?_take,if_pos hi]at h3
   have h4:cur[i]? =some (WV (ws.getD i 0)):=by rw [Array.getElem?_toList]at h3;exact h3
   show BitVec.ofInt 64 (intOf ((cur[i]?).getD _))=_
   rw [h4]
   show BitVec.ofInt 64 (wn (ws.getD i 0))=_
   rw [ofInt_wn]
theorem from_c(v:Value)(ws:List (BitVec 64))(w:World)(hv:Lst w 29 1 v ws.length (ws.map WV))(ha:AllW w v)(hn:ws.length<=500):
  Calls Tryz.prog 68 #[v] w fun e w'=>∃b,e= .returned (.pointer (some ⟨b,0,none⟩))/\BA w' b v (64*ws.length) (mW ws)/\Fr (fun _=>False) w w'/\b=w.heap.size:=by
 have hrow:=hv.allRow ha
 have hown:=hv.own_lt
 obtain ⟨A,c,rfl⟩:=hv.sl
 have hm:=mW_out ws
 have hpk:=pk_mW ws
 generalize mW ws=M at*
 generalize hnn:ws.length=n at*
 have hL:(n:Int)*64=((64*n:Nat):Int):=by omega
 have hwn:∀w,Calls Tryz.prog 102 #[.int .u64 ((n:Int)*64)] w fun e w'=>e= .returned (.int .i64 (n:Int))/\w'=w:=fun w=>by
  have h:=wordsNeeded_i ((n:Int)*64) w (by omega) (by omega)
  rwa [show ((n:Int)*64+63)/64=(n:Int) by omega]at h
 have HROW:=Lib.hid hrow;have HOWN:=Lib.hid hown;have HM:=Lib.hid hm;have HPK:=Lib.hid hpk;have HWN:=Lib.hid hwn
 clear hrow hown hm hpk hwn hv ha hL
 have hfw:∀w',Calls Tryz.prog 108 #[.int .u64 ((n:Int)*64),.slice A n c] w' fun e w''=>e= .returned (.pointer (some ⟨w'.heap.size,0,none⟩))/\w''=w'.alloc (.cells #[.int .u64 ((n:Int)*64),.slice A n c] 75):=by
  intro w'
  go_enter Tryz.func108,Tryz.ntmps108
  go_wp2_with (go_at_call 102;refine (HWN.out _).mono ?_;rintro e w' ⟨rfl,rfl⟩)
  go_ret
  exact ⟨rfl,rfl⟩
 have HFW:=Lib.hid hfw;clear hfw
 go_enter Tryz.func68,Tryz.ntmps68
 go_wp2_with (go_at_call 108;refine (HFW.out _).mono ?_;rintro e w' ⟨rfl,rfl⟩)
 go_ret
 have hf:Fr (fun _=>False) w (w.alloc (.cells #[.int .u64 ((n:Int)*64),.slice A n c] 75)):=(Fr.refl _ w).alloc _
 refine ⟨w.heap.size,rfl,⟨HM.out,?_,by omega,?_⟩,hf,rfl⟩
 ·have h:=hp_new w (.cells #[.int .u64 ((n:Int)*64),.slice A n c] 75)
  rw [show (n:Int)*64=((64*n:Nat):Int) by omega]at h ⊢
  exact h
 ·rcases HROW.out with ⟨h0,hv⟩|⟨g,c2,f,hv,h1,h2,h3,h4⟩
  ·exact .inl ⟨by omega,hv⟩
  ·cases hv
   refine .inr ⟨g,c,by rw [show nw (64*n)=n by unfold nw;omega],?_,by rw [show nw (64*n)=n by unfold nw;omega];exact h1,h2,f,h3.alloc _,fun i hi=>?_⟩
   ·have:=HOWN.out g rfl;omega
   ·rw [HPK.out];exact h4 i (by unfold nw at hi;omega)
theorem do_9n(a b c fr to n B:Nat)(wd:BitVec 64)(many:Value)(vs:Nat->Value)(ls:Nat->List Bool)(w:World)(ha:a<4)(hb:b<4)(hc:c<4)(hn:n<=2000)(hge:(ls a).length<=max 1 ((topN (mOf (ls a)) (ls a).length+63)/64)*64)(hs:Sets w B vs ls):
  Calls Tryz.prog 6 #[stepV 9 a b c fr to n wd many,.pointer (some ⟨B,0,none⟩)] w (fun e w'=>e= .returned (.tuple #[ansV false 0 0 ByteArray.empty (.slice none 0 0) (.slice none 0 0),.bool true])/\Fr (fun _=>False) w w'):=by
 obtain ⟨la,lb,lc,oa,ca,ob,cb,oc,cc,hlab,hlbb,hlcb,hca,hcb,hcc,hcapa,hB,nB,nB1,nB2,hB1,hB2,HS,HLA,HLB,HLC,EA,EB,EC⟩:=doIn hs ha hb hc
 unfold stepV
 have HYP:=Lib.hid hge;clear hge
 clear hs
 go_enter Tryz.func6,Tryz.ntmps6
 go_wp2
 go_quiet (fail)
 go_wp2_with (go_at_call 20;refine Hid.out ?_)
 refine Lib.hid ?_
 obtain ⟨w1,hw1,HDW,HBA,HBB,HBC⟩:=doMid 9 fr to n nq wd many false 0 ha hb hc HS EA EB EC
 rw [hw1];clear hw1
 obtain ⟨t,ht⟩:∃t,t=topN (mOf (ls a)) (ls a).length:=⟨_,rfl⟩
 have htb:t<=6000:=by rw [ht];have:=topN_le (mOf (ls a)) (ls a).length;have:=HS.out.len a ha;omega
 have hL:=spLast_c _ (ls a) w1 (HBA.out _ HDW.out.fr_) (by have:=HS.out.len a ha;omega)
 rw [<- ht]at hL
 refine hL.mono ?_
 obtain ⟨q,hq⟩:∃q,q=max 1 ((t+63)/64)*64:=⟨_,rfl⟩
 have i0:(t:Int)-1+64=((t+63:Nat):Int):=by omega
 have i1:max (1:Int) (((t:Int)+63)/64)*64=(q:Int):=by omega
 have hqb:q<=12000:=by omega
 have hql:la<=q:=by have h:=HYP.out;rw [<- ht,<- hq,<- HLA.out]at h;exact h
 have hqd:decide ((la:Int)<=(q:Int))=true:=by simp;omega
 rintro e w2 ⟨rfl,rfl⟩
 have hp2:=HDW.out.p2
 have hp3:=HDW.out.p3
 have e0:=hp_cell hp2 0 rfl
 have f0:=hp_free hp2 0
 have g0:=hp_cell hp3 0 rfl
 have e1:=hp_cell hp2 1 rfl
 have f1:=hp_free hp2 1
 have g1:=hp_cell hp3 1 rfl
 have e2:=hp_cell hp2 2 rfl
 have f2:=hp_free hp2 2
 have g2:=hp_cell hp3 2 rfl
 have e3:=hp_cell hp2 3 rfl
 have f3:=hp_free hp2 3
 have g3:=hp_cell hp3 3 rfl
 have e4:=hp_cell hp2 4 rfl
 have f4:=hp_free hp2 4
 have g4:=hp_cell hp3 4 rfl
 have e5:=hp_cell hp2 5 rfl
 have f5:=hp_free hp2 5
 have g5:=hp_cell hp3 5 rfl
 have HP2:=Lib.hid hp2
 clear hp2 hp3
 go_wp2
 have hp4:=set6 (.bool false) (.int .i64 0) (.int .u64 0) (.string { data:= #[] }) (.slice none 0 0) (.slice none 0 0) HP2.out
 have hf4:=fr6 (w:=w2) (p:=w.heap.size+1+1) (.bool false) (.int .i64 0) (.int .u64 0) (.string { data:= #[] }) (.slice none 0 0) (.slice none 0 0)
 generalize (((((w2.setCell ⟨w.heap.size+1+1,0,none⟩ (.bool false)).setCell ⟨w.heap.size+1+1,1,none⟩ (.int .i64 0)).setCell ⟨w.heap.size+1+1,2,none⟩ (.int .u64 0)).setCell ⟨w.heap.size+1+1,3,none⟩ (.string { data:= #[] })).setCell ⟨w.heap.size+1+1,4,none⟩ (.slice none 0 0)).setCell ⟨w.heap.size+1+1,5,none⟩ (.slice none 0 0)=w4 at*
 clear e0 e1 e2 e3 e4 e5 f0 f1 f2 f3 f4 f5 g0 g1 g2 g3 g4 g5
 have e0:=hp_cell hp4 0 rfl
 have e1:=hp_cell hp4 1 rfl
 have e2:=hp_cell hp4 2 rfl
 have e3:=hp_cell hp4 3 rfl
 have e4:=hp_cell hp4 4 rfl
 have e5:=hp_cell hp4 5 rfl
 have HF4:=Lib.hid hf4
 clear hf4 hp4
 simp [bodyPost,results,Tryz.f6,Tryz.results6,go_sem,e0,e1,e2,e3,e4,e5]
 exact ⟨rfl,HDW.out.fr_.trans' HF4.out (fun r hr=> .inr (by omega))⟩
end Go.Proofs.YtobdfhlmipcjbaaGreatDoor
