/- laws.FnScript returns true for every list of steps and leaves it as it was: the row and its card, with no condition of ours. -/
import Derived.Test.YtobdfhlmipcjbaaGreatDoorCards
import Derived.Test.YtobdfhlmipcjbaaGreatDoorTie
import Derived.WalkKit
import Derived.ProofKit
import Derived.OpenShut
import Derived.Deep.DeepHandedRow
import Derived.Lib.LaidTab
import Derived.LaidMore
import Derived.Test.YtobdfhlmipcjbaaGreatDoorG30
import Derived.Test.YtobdfhlmipcjbaaGreatDoorG40
import Derived.Test.YtobdfhlmipcjbaaGreatDoorG43
set_option linter.unusedVariables false
set_option linter.unusedSimpArgs false
set_option maxRecDepth 100000
namespace Go.Proofs.YtobdfhlmipcjbaaGreatDoor.fnScript
open Go.ChangeShapes Go.WideShapes Go.ChangeAt Go.RowKit
theorem own:ownKnob Tryz.prog.godebug=none:=by kernel_rfl
theorem laidOut:laidOutB Tryz.prog=true:=by kernel_rfl
theorem g32:Tryz.prog.globalNamed "math/bits.deBruijn32tab" =some 7:=by kernel_rfl
theorem g64:Tryz.prog.globalNamed "math/bits.deBruijn64tab" =some 0:=by kernel_rfl
theorem gPow:Tryz.prog.globalNamed "internal/strconv.uint64pow10" =some 6:=by kernel_rfl
theorem laidMet_tail{P:Program}{x:String×DataW Unit}{r:List (String×DataW Unit)}{W:World}(h:laidMet P (x::r) W):laidMet P r W:=by
 obtain ⟨ps,⟨g,t,cs,fuel,p,q,h1,h2,h3,h4,h5,rfl⟩,hn,hh⟩:=h
 exact ⟨q,h5,(List.nodup_append.1 hn).2.1,fun b off hm=>hh b off (List.mem_append_right _ hm)⟩
theorem laidMet_size{P:Program}{n:String}{d:DataW Unit}{r:List (String×DataW Unit)}{W:World}{g:Nat}(hg:P.globalNamed n=some g)(h:laidMet P ((n,d)::r) W):g<W.heap.size:=by
 obtain ⟨ps,⟨g',t,cs,fuel,p,q,h1,h2,h3,_⟩,_⟩:=h
 obtain rfl:=Option.some.inj (hg.symm.trans h1)
 unfold World.var? at h3
 simp only [hg,Option.bind_some]at h3
 rcases Nat.lt_or_ge g W.heap.size with h|h
 ·exact h
 ·rw [Array.getElem?_eq_none h]at h3;cases h3
def tab64:List Int:=Lib.deBruijn64tab.map fun n:Nat=>(n:Int)
theorem laid64:(Rows.laid_math_bits_deBruijn64tab:DataW Unit)=Lib.tabData .u8 tab64:=by rfl
theorem laidP:(Rows.laid_internal_strconv_uint64pow10:DataW Unit)=Lib.tabData .u64 Lib.pow10Tab:=by rfl
theorem tables{W:World}(h:laidMet Tryz.prog Rows.fnScriptRow.laid W):8<=W.heap.size/\Tab64 W/\PowT W:=by
 have h0:laidMet Tryz.prog (("math/bits.deBruijn32tab",Rows.laid_math_bits_deBruijn32tab)::("math/bits.deBruijn64tab",Lib.tabData .u8 tab64)::("internal/strconv.uint64pow10",Lib.tabData .u64 Lib.pow10Tab):: [("io.ErrShortBuffer",Rows.laid_io_ErrShortBuffer),("io.EOF",Rows.laid_io_EOF),("io.ErrUnexpectedEOF",Rows.laid_io_ErrUnexpectedEOF),("bytes.ErrTooLarge",Rows.laid_bytes_ErrTooLarge)]) W:=by
  rw [<- laid64,<- laidP];exact h
 refine ⟨laidMet_size g32 h0,?_,?_⟩
 ·have ht:=Lib.tabIs_of_head (t:=111) (e:=5) (n:=64) g64 (by kernel_rfl) (by kernel_rfl) Tryz.underlying5 (by kernel_rfl) (by kernel_rfl) (laidMet_tail h0)
  intro j hj
  have:=ht.cell g64 j (by simpa [tab64] using hj)
  rw [this]
  simp [tab64,List.getD_eq_getElem?_getD,List.getElem?_eq_getElem hj]
 ·exact Lib.tabIs_of_head (t:=170) (e:=29) (n:=20) gPow (by kernel_rfl) (by kernel_rfl) Tryz.underlying29 (by kernel_rfl) (by kernel_rfl) (laidMet_tail (laidMet_tail h0))
theorem contract(H:Type)(enc:TypeId×Value->H)(W:World)(base:Nat)(args:Array Value)(ds gs:List (DataW H))(before:List MemPlace)
  (hval0:∀(j:Nat) t v,Tryz.f3.params[j]? =some t->args[j]? =some v->Value.okWide Tryz.prog W .any base t v)
  (hW:DataW.Whole enc Tryz.prog Tryz.f3.params.toList Rows.fnScriptSpec.vars false W args.toList ds gs before) (hL:laidMet Tryz.prog Rows.fnScriptRow.laid W):
  Calls Tryz.prog 3 args W fun e W'=>∃v,e= .returned v/\Rows.fnScriptSpec.post enc Tryz.prog Tryz.f3 false true false false W args v W':=by
 have hval:∀(j:Nat) t v,Tryz.f3.params[j]? =some t->args[j]? =some v->Value.okWide Tryz.prog W .any base t v:=hval0
 have hW':=hW
 obtain ⟨p,q,hA0,hV0,rfl,hfz,hnd⟩:=hW
 have hA:DataW.TrodAll enc Tryz.prog W 0 (fun _=>true) true Tryz.f3.params.toList args.toList ds p:=hA0
 rw [Tryz.params3]at hA hval
 obtain ⟨v0,d0,rfl,rfl,h0⟩:=trodAll_one hA
 obtain ⟨rfl,rfl⟩:=trodVars_none hV0
 have h0k:=h0
 obtain ⟨fuel0,hf⟩:=h0
 obtain ⟨a0,len,cap,rfl⟩:=okWide_slice Tryz.underlying22 (hval 0 22 v0 rfl rfl)
 obtain ⟨A,N,c,ss,e,hs⟩:=steps_in (v:= .slice a0 len cap) hf
 cases e
 obtain ⟨h8,hT,hP⟩:=tables hL
 clear hA0 hV0 hval0 hA
 simp only [List.append_nil]at hW' hfz hnd
 have hlt:∀x∈p,x.block<W.heap.size:=fun x hx=>hW'.lt x hx
 refine (fn_c a0 len cap ss W h8 hT hP hs).mono fun e W' ⟨he,hfr⟩=>?_
 subst he
 have bel:Below W.heap.size W W':=⟨hfr.os,hfr.tape,hfr.output,hfr.size,fun k hk=>hfr.keep k hk (fun h=>h)⟩
 have e1:Rows.fnScriptSpec.fn H ([d0]++ [])= { results:=[.lit (.bool true)],args:=[d0] }:=rfl
 refine ⟨_,rfl,_,_,_,[],p,[],hW',?_,?_,?_,bel.frame _,fun h=>by cases h⟩
 ·rw [e1];exact trodAll_mk1 (shut_bool Tryz.underlying4 _)
 ·rw [e1];exact trodAll_mk1 (Below.trod laidOut (by kernel_rfl) (of_decide_eq_true (by kernel_rfl)) h0k bel hlt)
 ·rw [e1];rfl
theorem laid_met(os:Os):laidMet Tryz.prog Rows.fnScriptRow.laid ((World.doorLaid Tryz.prog 400 os).forCall (fun _ _=>0) ⟨#[],#[.slice none 0 0],[]⟩).memory:=
 laidMet_of_run' 8 (by kernel_rfl) (by kernel_rfl)
theorem reads(os:Os){H:Type}(enc:TypeId×Value->H):∃places,DataW.whole enc Tryz.prog ((World.doorLaid Tryz.prog 400 os).forCall (fun _ _=>0) ⟨#[],#[.slice none 0 0],[]⟩).memory Tryz.f3.params.toList Rows.fnScriptSpec.vars false #[Value.slice none 0 0].toList 8=some ([.nil],[],places):=
 ⟨[],by kernel_rfl⟩
theorem lifted(os:Os)(started:os.Started)(H:Type)(enc:TypeId×Value->H)(F:Stop.Interp):
  ReturnsInHanded {} Tryz.checked os 3 .any ((OpenSpec.ofChange Rows.fnScriptSpec).preRow enc Tryz.prog Tryz.f3 Rows.fnScriptRow.domain false Rows.fnScriptRow.laid) (((OpenSpec.ofChange Rows.fnScriptSpec).at F).post enc Tryz.prog Tryz.f3 false true false false):=by
 obtain ⟨places,hx⟩:=reads os enc
 refine returnsInHanded_of_row (C:=Tryz.checked) (s:=OpenSpec.ofChange Rows.fnScriptSpec) own started (by kernel_rfl) Tryz.func3
  (witness_row_at (enc:=enc) (C:=Tryz.checked) false (World.doorLaid Tryz.prog 400 os) #[.slice none 0 0] rfl (by kernel_rfl) (by kernel_rfl) (by kernel_rfl)
   (OpenSpec.preRow_of_cond 8 hx (by kernel_rfl) (fun k hk=>by cases hk) (by kernel_rfl) (laid_met os))) ?_
 intro W base args ds gs before hval hW _ _ _ hL _ _
 exact contract H enc W base args ds gs before hval hW hL
theorem said:Rows.FnScriptSaid:=
 OpenClaim.holds_of_cond 3 Tryz.f3 rfl rfl rfl rfl rfl rfl rfl ⟨rfl,rfl,rfl,rfl,rfl⟩ rfl rfl rfl rfl rfl (by kernel_rfl) Tryz.func3 (by kernel_rfl)
  (of_decide_eq_true (by kernel_rfl)) (by unfold Func.isWrapper;first|(rw [if_pos (by decide +kernel)];kernel_rfl)|(rw [if_neg (by decide +kernel)];exact ⟨rfl,rfl⟩))
  (fun os started H enc _ F=>by rw [OpenClaim.pre_eq_preRow];exact lifted os started H enc F)
theorem plain(f:FuncId)(fn:Func)(hf:Tryz.pinned.checked.prog.funcNamed "loop.example/pub-g03277/laws.FnScript" =some f)(hfn:Tryz.pinned.checked.prog.funcs[f]? =some fn):
  true=Tryz.pinned.checked.prog.looks []/\∀(j:Nat) t,fn.params[j]? =some t->Tryz.pinned.checked.prog.wantsStandIn t=false:=by
 obtain rfl:f=3:=Option.some.inj ((show Tryz.prog.funcNamed "loop.example/pub-g03277/laws.FnScript" =some 3 by kernel_rfl).symm.trans hf) |>.symm
 obtain rfl:fn=Tryz.f3:=(Option.some.inj (Tryz.func3.symm.trans hfn)).symm
 refine ⟨by kernel_rfl,fun j t ht=>?_⟩
 rw [Tryz.params3]at ht
 obtain rfl:t=22:=by simpa using Array.mem_of_getElem? ht
 exact (show Tryz.prog.wantsStandIn 22=false by kernel_rfl)
end Go.Proofs.YtobdfhlmipcjbaaGreatDoor.fnScript
namespace Go.Proofs.YtobdfhlmipcjbaaGreatDoor
theorem fnScript_card:Rows.FnScriptCardSaid:=
 Claim7.holds_tied_plain_at .later [] _ _ _ _ fnScript.said (fun _ h=>by cases h) (by kernel_rfl) (fun _ h=>by cases h) fnScript_row_tie rfl ⟨rfl,rfl⟩ (by kernel_rfl) rfl fnScript.plain (by kernel_rfl)
end Go.Proofs.YtobdfhlmipcjbaaGreatDoor
