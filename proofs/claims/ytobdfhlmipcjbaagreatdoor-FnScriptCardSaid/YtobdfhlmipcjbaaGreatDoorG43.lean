/- laws.FnScript: the walk. -/
import Derived.Deep.RegionHeld3
import Derived.Test.YtobdfhlmipcjbaaGreatDoorG42
set_option linter.unusedVariables false
set_option linter.unusedSimpArgs false
set_option maxHeartbeats 8000000
set_option maxRecDepth 100000
namespace Go.Proofs.YtobdfhlmipcjbaaGreatDoor
open Go.RowKit
@[go_sem] theorem idx26_0 (w:World) (a b c d:Value):(Instr.index 26 (.agg #[a,b,c,d]) (.int .i64 0)).run Tryz.prog w= .ok a w:=by kernel_rfl
@[go_sem] theorem idx26_1 (w:World) (a b c d:Value):(Instr.index 26 (.agg #[a,b,c,d]) (.int .i64 1)).run Tryz.prog w= .ok b w:=by kernel_rfl
@[go_sem] theorem idx26_2 (w:World) (a b c d:Value):(Instr.index 26 (.agg #[a,b,c,d]) (.int .i64 2)).run Tryz.prog w= .ok c w:=by kernel_rfl
@[go_sem] theorem idx26_3 (w:World) (a b c d:Value):(Instr.index 26 (.agg #[a,b,c,d]) (.int .i64 3)).run Tryz.prog w= .ok d w:=by kernel_rfl
theorem info40:(Tryz.prog.info? 40).map (fun i=>(i.zero,i.size,i.bytes))=some (some (.agg #[.bool false,.int .i64 0,.int .u64 0,.string { data:= #[] },.slice none 0 0,.slice none 0 0]),6,88):=by kernel_rfl
theorem tq{P:Program}{md:Region.Mode}{ops:Array Oper}{Q:Exit->Act->World->Prop}{S:World->Prop}(i:Nat){oi:Oper}{v:Value}{fuel:Nat}{listed:Array Bool}{a:Act}{w:World}(hi:ops[i]? =some oi)
  (h:wpAnyH P md ops Q S fuel (listed.setIfInBounds i true) (a.put oi.dst v) w) (hy:∀w,S w->(execOp a.eval oi).run P w= .ok (.value v) w:=by (intro w hSw;(try dsimp only at hSw);go_simp;first|done|with_reducible rfl)) (hS:S w:=by assumption) (hw:Region.wanted oi (yielded ops a.tmps)=true:=by rfl)
  (hQ:∀c a w,Q (.panic c) (a.put oi.dst v) w->Q (.panic c) a w:=by exact fun _ _ _ h=>h) (hs:Region.noSelect ops=true:=by kernel_rfl) (hf:Region.free md ops listed i=true:=by kernel_rfl) (hr:(Region.ready md ops listed).contains i=true:=by kernel_rfl):
  wpAnyH P md ops Q S (fuel+1) listed a w:=wpAnyH_take hi hs hf hr hQ (.inl ⟨hw,hy⟩) hS h
theorem qa:type_of% @List.getElem_toArray:=@List.getElem_toArray
theorem qb:type_of% @List.getElem_cons_zero:=@List.getElem_cons_zero
theorem qc:type_of% @List.getElem_cons_succ:=@List.getElem_cons_succ
theorem qd:type_of% @List.setIfInBounds_toArray:=@List.setIfInBounds_toArray
theorem qe:type_of% @List.set_cons_zero:=@List.set_cons_zero
theorem qf:type_of% @List.set_cons_succ:=@List.set_cons_succ
theorem fnCells{w:World}{p:Nat}{x0 x1 x2 x3 x4 x5:Value}{t:TypeId}(h:w.heap[p]? =some (.cells #[x0,x1,x2,x3,x4,x5] t (0,0))):
  w.cell? ⟨p,0,none⟩=some x0/\w.frozen? ⟨p,0,none⟩=false/\w.cell? ⟨p,1,none⟩=some x1/\w.frozen? ⟨p,1,none⟩=false/\w.cell? ⟨p,2,none⟩=some x2/\w.frozen? ⟨p,2,none⟩=false/\w.cell? ⟨p,3,none⟩=some x3/\w.frozen? ⟨p,3,none⟩=false/\w.cell? ⟨p,4,none⟩=some x4/\w.frozen? ⟨p,4,none⟩=false/\w.cell? ⟨p,5,none⟩=some x5/\w.frozen? ⟨p,5,none⟩=false:=
 ⟨hp_cell h 0 rfl,hp_free h 0,hp_cell h 1 rfl,hp_free h 1,hp_cell h 2 rfl,hp_free h 2,hp_cell h 3 rfl,hp_free h 3,hp_cell h 4 rfl,hp_free h 4,hp_cell h 5 rfl,hp_free h 5⟩
abbrev CmpS(is:Bool)(p sb x n:Nat)(op:Int)(As:AnsD)(oa ob Al Ab:Option Addr)(ca cb2 cl cb:Nat)(w':World):Prop:=w'.cell? ⟨p+1,0,none⟩=some (.int .i64 op)/\w'.cell? ⟨p+1,1,none⟩=some (.bool is)/\w'.cell? ⟨p+1,2,none⟩=some (.int .u64 (n:Int))/\w'.cell? ⟨p+1,3,none⟩=some (.int .u64 (wn As.wd))/\w'.cell? ⟨p+1,4,none⟩=some (.string As.s)/\w'.cell? ⟨p+1,5,none⟩=some (.slice Al As.xs.length cl)/\w'.cell? ⟨p+1,6,none⟩=some (.slice Ab As.bs.length cb)/\w'.cell? ⟨p,0,none⟩=some (.bool is)/\w'.cell? ⟨p,1,none⟩=some (.int .i64 (As.n:Int))/\w'.cell? ⟨p,2,none⟩=some (.int .u64 (wn As.wd))/\w'.cell? ⟨p,3,none⟩=some (.string As.s)/\w'.cell? ⟨p,4,none⟩=some (.slice oa As.xs.length ca)/\w'.cell? ⟨p,5,none⟩=some (.slice ob As.bs.length cb2)/\w'.cell? ⟨sb,x,none⟩=some (.int .i64 op)
theorem CmpS.keep{is:Bool}{p sb x n:Nat}{op:Int}{As:AnsD}{oa ob Al Ab:Option Addr}{ca cb2 cl cb:Nat}{w w':World}(h:CmpS is p sb x n op As oa ob Al Ab ca cb2 cl cb w)(f:Fr (fun _=>False) w w'):CmpS is p sb x n op As oa ob Al Ab ca cb2 cl cb w':=by
 have k:∀ {a:Addr} {v:Value},w.cell? a=some v->w'.cell? a=some v:=fun {a v} h=>(f.cell (block_lt_of_cell h) (fun h=>h)).trans h
 obtain ⟨h0,h1,h2,h3,h4,h5,h6,h7,h8,h9,h10,h11,h12,h13⟩:=h
 exact ⟨k h0,k h1,k h2,k h3,k h4,k h5,k h6,k h7,k h8,k h9,k h10,k h11,k h12,k h13⟩
theorem cmpMid(wr:World)(sb x n:Nat)(op:Int)(As:AnsD)(oa ob Al Ab:Option Addr)(ca cb2 cl cb:Nat)(h:wr.cell? ⟨sb,x,none⟩=some (.int .i64 op)):
  ∃W0,(wr.alloc (.cells #[.bool As.is,.int .i64 (As.n:Int),.int .u64 (wn As.wd),.string As.s,.slice oa As.xs.length ca,.slice ob As.bs.length cb2] 40)).alloc (.cells #[.int .i64 op,.bool As.is,.int .u64 (n:Int),.int .u64 (wn As.wd),.string As.s,.slice Al As.xs.length cl,.slice Ab As.bs.length cb] 50)=W0/\Hid (CmpS As.is wr.heap.size sb x n op As oa ob Al Ab ca cb2 cl cb W0)/\Hid (Fr (fun _=>False) wr W0):=by
 have f:Fr (fun _=>False) wr ((wr.alloc (.cells #[.bool As.is,.int .i64 (As.n:Int),.int .u64 (wn As.wd),.string As.s,.slice oa As.xs.length ca,.slice ob As.bs.length cb2] 40)).alloc (.cells #[.int .i64 op,.bool As.is,.int .u64 (n:Int),.int .u64 (wn As.wd),.string As.s,.slice Al As.xs.length cl,.slice Ab As.bs.length cb] 50)):=((Fr.refl _ wr).alloc _).alloc _
 have h1:=alloc_at (hp_new wr (.cells #[.bool As.is,.int .i64 (As.n:Int),.int .u64 (wn As.wd),.string As.s,.slice oa As.xs.length ca,.slice ob As.bs.length cb2] 40)) (.cells #[.int .i64 op,.bool As.is,.int .u64 (n:Int),.int .u64 (wn As.wd),.string As.s,.slice Al As.xs.length cl,.slice Ab As.bs.length cb] 50)
 have h2:=hp_new (wr.alloc (.cells #[.bool As.is,.int .i64 (As.n:Int),.int .u64 (wn As.wd),.string As.s,.slice oa As.xs.length ca,.slice ob As.bs.length cb2] 40)) (.cells #[.int .i64 op,.bool As.is,.int .u64 (n:Int),.int .u64 (wn As.wd),.string As.s,.slice Al As.xs.length cl,.slice Ab As.bs.length cb] 50)
 rw [World.size_alloc]at h2
 exact ⟨_,rfl,⟨hp_cell h2 0 rfl,hp_cell h2 1 rfl,hp_cell h2 2 rfl,hp_cell h2 3 rfl,hp_cell h2 4 rfl,hp_cell h2 5 rfl,hp_cell h2 6 rfl,hp_cell h1 0 rfl,hp_cell h1 1 rfl,hp_cell h1 2 rfl,hp_cell h1 3 rfl,hp_cell h1 4 rfl,hp_cell h1 5 rfl,(f.cell (block_lt_of_cell h) (fun h=>h)).trans h⟩,f⟩
theorem cmp10{W0:World}{As:AnsD}(hA:AOK As){Al:Option Addr}{cl:Nat}(hl:Lst W0 28 1 (.slice Al As.xs.length cl) As.xs.length As.xs)(w':World)(f:Fr (fun _=>False) W0 w'):
  Calls Tryz.prog 10 #[.slice Al As.xs.length cl] w' (NewLst w' 29 1 As.xs.length As.xs):=by
 obtain ⟨ys,hy,hn⟩:=hA.xs
 have hle:As.xs.length<=100000:=by rw [hy,List.length_map];exact hn
 exact list10_c _ _ _ w' (hl.keep f (fun _ _ h=>h)).src (by rw [hy];exact words_int ys) hle
theorem cmp9{W0:World}{As:AnsD}(hA:AOK As){oa A6:Option Addr}{ca c6:Nat}(hl:Lst W0 29 1 (.slice oa As.xs.length ca) As.xs.length As.xs)(w':World)(f:Fr (fun _=>False) W0 w')(h6:Lst w' 29 1 (.slice A6 As.xs.length c6) As.xs.length As.xs):
  Calls Tryz.prog 9 #[.slice A6 As.xs.length c6,.slice oa As.xs.length ca] w' fun e w2=>e= .returned (.bool true)/\Fr (fun _=>False) w' w2:=by
 obtain ⟨ys,hy,hn⟩:=hA.xs
 have h1:=h6.src
 have h2:=(hl.keep f (fun _ _ h=>h)).src
 have hm:As.xs.length=ys.length:=by rw [hy,List.length_map]
 rw [hm,hy]at h1 h2
 rw [hm]
 exact eq9_c _ _ ys w' h1 h2 (by omega)
theorem cmp11{W0:World}{As:AnsD}(hA:AOK As){Ab ob:Option Addr}{cb cb2:Nat}(hl:Lst W0 5 1 (.slice Ab As.bs.length cb) As.bs.length As.bs)(hl2:Lst W0 5 1 (.slice ob As.bs.length cb2) As.bs.length As.bs)(w':World)(f:Fr (fun _=>False) W0 w'):
  Calls Tryz.prog 11 #[.slice Ab As.bs.length cb,.slice ob As.bs.length cb2] w' fun e w2=>e= .returned (.bool true)/\Fr (fun _=>False) w' w2:=by
 obtain ⟨zs,hz⟩:=hA.bs
 have h1:=(hl.keep f (fun _ _ h=>h)).src
 have h2:=(hl2.keep f (fun _ _ h=>h)).src
 have hm:zs.length=As.bs.length:=by rw [hz,List.length_map]
 rw [hz]at h1 h2
 rw [List.length_map]at h1 h2
 rw [<- hm]
 exact eq11_c _ _ _ _ _ zs w' rfl h1 h2
theorem nums_words(l:List Bool)(hl:l.length<=3000):∃ys:List (BitVec 64),(numsN (mOf l) l.length).map numV=ys.map WV/\ys.length=cntN (mOf l) l.length/\ys.length<=3000:=by
 refine ⟨_,num_words _ (fun x hx=>by have:=numsN_lt _ _ x hx;omega),by rw [List.length_map,numsN_length],?_⟩
 rw [List.length_map,numsN_length]
 have:=cntN_le (mOf l) l.length
 omega
theorem end10{W0:World}{l:List Bool}(hl:l.length<=3000){A:Option Addr}{c:Nat}(h:Lst W0 28 1 (.slice A (cntN (mOf l) l.length) c) (cntN (mOf l) l.length) ((numsN (mOf l) l.length).map numV))(w':World)(f:Fr (fun _=>False) W0 w'):
  Calls Tryz.prog 10 #[.slice A (cntN (mOf l) l.length) c] w' (NewLst w' 29 1 (cntN (mOf l) l.length) ((numsN (mOf l) l.length).map numV)):=by
 obtain ⟨ys,hy,hn,hle⟩:=nums_words l hl
 exact list10_c _ _ _ w' (h.keep f (fun _ _ h=>h)).src (by rw [hy];exact words_int ys) (by omega)
theorem end9{l:List Bool}(hl:l.length<=3000){u v:Value}(w':World)(h1:Lst w' 29 1 u (cntN (mOf l) l.length) ((numsN (mOf l) l.length).map numV))(h2:Lst w' 29 1 v (cntN (mOf l) l.length) ((numsN (mOf l) l.length).map numV)):
  Calls Tryz.prog 9 #[u,v] w' fun e w2=>e= .returned (.bool true)/\Fr (fun _=>False) w' w2:=by
 obtain ⟨ys,hy,hn,hle⟩:=nums_words l hl
 have a1:=h1.src
 have a2:=h2.src
 rw [hy,<- hn]at a1 a2
 exact eq9_c _ _ ys w' a1 a2 (by omega)
theorem fn_c(A:Option Addr)(N cN:Nat)(ss:Nat->RawD)(w:World)(h8:8<=w.heap.size)(hT:Tab64 w)(hP:PowT w)(hs:StpR w A N ss):
  Calls Tryz.prog 3 #[.slice A N cN] w fun e w'=>e= .returned (.bool true)/\Fr (fun _=>False) w w':=by
 have HZ:=Lib.hid (zz1_c A N cN ss w hs)
 have HT:=Lib.hid hT;have HP:=Lib.hid hP;have HS:=Lib.hid hs;have H8:=Lib.hid h8
 obtain ⟨i0,hi0,hz0,hz1,hz2⟩:=info_parts info40
 clear hT hP hs h8
 go_enter Tryz.func3,Tryz.ntmps3
 go_wp2_with (go_at_call 4;refine HZ.out.mono ?_;rintro e w1 ⟨⟨r,rfl⟩,hf1⟩;refine Hid.out ?_)
 refine Lib.hid ?_
 cases r
 ·have HF1:=Lib.hid hf1;clear hf1
  go_wp2
  go_ret
  exact ⟨rfl,HF1.out⟩
 by_cases hN:40<N
 ·have d0:decide (40<(N:Int))=true:=by simp;omega
  have HF1:=Lib.hid hf1;clear hf1
  go_wp2
  go_ret
  exact ⟨rfl,HF1.out⟩
 have d0:decide (40<(N:Int))=false:=by simp;omega
 have HI:=Lib.hid (FnI.start (ss:=ss) hf1)
 have HF1:=Lib.hid hf1;clear hf1
 obtain ⟨B,hB⟩:∃B,B=w1.heap.size+1:=⟨_,rfl⟩
 go_wp2
 rw [<- hB]
 have HB:=Lib.hid hB;clear hB
 go_loopw [4,29] (fun v i wr=>∃(k:Nat) (vs:Nat->Value) (lq:Nat->Nat->List Bool) (Aq:Nat->AnsD) (xs:Nat->List Value),k<=N/\i= .int .i64 (k:Int)/\FnI w wr B ss vs lq Aq xs v k) (fun v i _=>N-(intOf i).toNat)
 case atStart=>exact ⟨0,_,_,_,_,by omega,rfl,by rw [HB.out];exact HI.out⟩
 case round=>
  clear HI
  obtain ⟨k,vs,lq,Aq,xs,hk,rfl,hfn⟩:=hrel
  obtain ⟨Av,cv,rfl,-⟩:=hfn.lst.src
  by_cases hlt:k<N
  ·have d1:decide ((k:Int)<(N:Int))=true:=by simp;omega
   have bb:(0:Int)<=(k:Int)/\(k:Int)<(N:Int):=by omega
   obtain ⟨sb,so,rfl,hc⟩:=HS.out.at_ (by omega)
   have h9:=(hc k hlt).keep hfn.fr (fun h=>h)
   have hws:=(HS.out.ws k hlt).keep hfn.fr (fun _ _ h=>h)
   obtain ⟨s,hss⟩:∃s,ss k=s:=⟨_,rfl⟩
   rw [hss]at h9 hws
   obtain ⟨op,a,b,c,fr,to,n,wd,ws,o,cM⟩:=s
   dsimp only [RawD.many]at h9 hws
   obtain ⟨c0,c1,c2,c3,c4,c5,c6,c7,c8⟩:=h9
   have hf2:Fr (fun _=>False) wr (wr.alloc (.cells #[.int .i64 op,.int .i64 a,.int .i64 b,.int .i64 c,.int .u64 (fr:Int),.int .u64 (to:Int),.int .u64 (n:Int),WV wd,.slice o ws.length cM] 32)):=(Fr.refl _ wr).alloc _
   have hp2:=hp_cell (hp_new wr (.cells #[.int .i64 op,.int .i64 a,.int .i64 b,.int .i64 c,.int .u64 (fr:Int),.int .u64 (to:Int),.int .u64 (n:Int),WV wd,.slice o ws.length cM] 32)) 0 rfl
   have hst:=stp_c op a b c fr to n ws.length cM o wd ws _ rfl (hws.keep hf2 (fun _ _ h=>h))
   have HST:=Lib.hid hst;have HF2:=Lib.hid hf2;have HP2:=Lib.hid hp2;have HFN:=Lib.hid hfn;have HSS:=Lib.hid hss
   unfold rawV at HST
   clear hst hf2 hp2 hfn hss hws hc
   go_wp2_with (go_at_call 5;(with_reducible refine HST.out.mono ?_);rintro e w2 ⟨hf3,rfl|⟨hv,v2,rfl,hl2,hno⟩⟩;all_goals refine Hid.out ?_)
   ·refine Lib.hid ?_
    have HF3:=Lib.hid hf3
    clear hf3 c0 c1 c2 c3 c4 c5 c6 c7 c8
    go_wp2
    go_ret
    exact ⟨rfl,((HFN.out.fr.trans HF2.out).trans HF3.out).alloc _⟩
   ·refine Lib.hid ?_
    obtain ⟨oM,cmm,rfl⟩:=hl2.sl
    obtain ⟨ha,hb,hcc,hkn,hfr,hto,hn,hM⟩:=id hv
    obtain ⟨a1,rfl⟩:∃q:Nat,a=(q:Int):=⟨a.toNat,by omega⟩
    obtain ⟨b1,rfl⟩:∃q:Nat,b=(q:Int):=⟨b.toNat,by omega⟩
    obtain ⟨k1,rfl⟩:∃q:Nat,c=(q:Int):=⟨c.toNat,by omega⟩
    have hok:(⟨op,a1,b1,k1,fr,to,n,wd,ws⟩:StD).ok:=⟨by show a1<4;omega,by show b1<4;omega,by show k1<4;omega,hfr,hto,hn,hM,hkn⟩
    have hmid:=fnMid (wr:=wr) #[.int .i64 op,.int .i64 (a1:Int),.int .i64 (b1:Int),.int .i64 (k1:Int),.int .i64 (fr:Int),.int .i64 (to:Int),.int .i64 (n:Int),WV wd,.slice oM ws.length cmm] HP2.out hf3
    obtain ⟨w4,hw4,HW⟩:=hmid
    have x0:((w2.alloc (.cells #[.int .i64 op,.int .i64 (a1:Int),.int .i64 (b1:Int),.int .i64 (k1:Int),.int .i64 (fr:Int),.int .i64 (to:Int),.int .i64 (n:Int),WV wd,.slice oM ws.length cmm] 35)).alloc (.cells #[.bool false,.int .i64 0,.int .u64 0,.string { data:= #[] },.slice none 0 0,.slice none 0 0] 40)).cell? ⟨wr.heap.size,0,none⟩=some (.int .i64 op):=by
     have h:=HW.out.c0
     rw [<- hw4]at h
     exact h
    have hf4:=((HF2.out.trans hf3).trans HW.out.fr)
    have hfn4:=HFN.out.quiet hf4
    have HFN4:=Lib.hid hfn4
    have HSRC:=Lib.hid (hl2.keep HW.out.fr (fun _ _ h=>h)).src
    obtain ⟨cB,hcB⟩:=hfn4.sets.obj
    have hpB:w2.heap.size+1≠B:=fun e=>by have h:=HW.out.p9;rw [e,hcB]at h;cases h
    have hpv:(Value.slice Av k cv).ownBlock≠some (w2.heap.size+1):=fun e=>by
     have h1:=HFN.out.lst.own_lt _ e
     have h2:=(HF2.out.trans hf3).size
     omega
    have hp0:w.heap.size<=w2.heap.size+1:=by have h1:=HFN.out.fr.size;have h2:=(HF2.out.trans hf3).size;omega
    have HPB:=Lib.hid hpB;have HPV:=Lib.hid hpv;have HP0:=Lib.hid hp0
    clear hpB hpv hp0 hcB
    have HF3:=Lib.hid hf3;have HOK:=Lib.hid hok;have HV:=Lib.hid hv;have HF4:=Lib.hid hf4;have HW4:=Lib.hid hw4
    clear hf3 hl2 hok hv hno hf4 hfn4 hw4 c0 c1 c2 c3 c4 c5 c6 c7 c8 ha hb hcc hkn hfr hto hn hM
    by_cases hop:op<40
    ·have d2:decide (op<40)=true:=decide_eq_true hop
     have hD:=jo_do _ oM cmm w4 B vs (lq k) HOK.out hop HFN4.out.sets (HFN4.out.len k (Nat.le_refl k)) HSRC.out
     rw [<- HW4.out]at hD
     have HD:=Lib.hid hD
     clear hD
     unfold stepV nilV at HD
     dsimp only at HD
     go_wp2_with (go_at_call 6;(with_reducible refine HD.out.mono ?_);rintro e w5 ⟨hf5,⟨is1,n1,z1,s1,rfl⟩|⟨ls1,vs1,A1,l1,m1,rfl,hj,hs5⟩⟩;all_goals refine Hid.out ?_)
     ·refine Lib.hid ?_
      rw [HW4.out]at hf5
      have hp9:=(hf5.keep _ (hp_lt HW.out.p9) HPB.out).trans HW.out.p9
      obtain ⟨e0,f0,e1,f1,e2,f2,e3,f3,e4,f4,e5,f5⟩:=fnCells hp9
      obtain ⟨wC,hwC,-,-,-,-,-,-,HG⟩:=fnSix hp9 (.bool is1) (.int .i64 n1) (.int .u64 z1) (.string s1) (.slice none 0 0) (.slice none 0 0)
      have HF5:=Lib.hid hf5;have HWC:=Lib.hid hwC
      clear hf5 hp9 hwC x0
      go_wp2
      go_ret
      rw [HWC.out]
      exact ⟨rfl,(HFN4.out.fr.trans' HF5.out (fun r hr=> .inr (by have hr:r=B:=hr;have:=HFN4.out.blk;omega))).trans' HG.out (fun r hr=> .inr (by have hr:r=_:=hr;have:=HP0.out;omega))⟩
     ·refine Lib.hid ?_
      rw [HW4.out]at hf5 hj
      obtain ⟨oa,ca,rfl⟩:=hj.lst.sl
      obtain ⟨ob,cb,rfl⟩:=hj.bst.sl
      have hp9:=(hf5.keep _ (hp_lt HW.out.p9) HPB.out).trans HW.out.p9
      obtain ⟨e0,f0,e1,f1,e2,f2,e3,f3,e4,f4,e5,f5⟩:=fnCells hp9
      obtain ⟨wC,hwC,g0,g1,g2,g3,g4,g5,HG⟩:=fnSix hp9 (.bool A1.is) (.int .i64 (A1.n:Int)) (.int .u64 (wn A1.wd)) (.string A1.s) (.slice oa A1.xs.length ca) (.slice ob A1.bs.length cb)
      obtain ⟨hlC,hstp⟩:=HFN4.out.step (by rw [HSS.out];exact HV.out) (by rw [HSS.out];rfl) hj hs5 hf5 HW.out.p9 HP0.out HPV.out HG.out
      rw [<- hwC]at hlC hstp g0 g1 g2 g3 g4 g5
      have hsr:=src_row wC #[.bool A1.is,.int .i64 (A1.n:Int),.int .u64 (wn A1.wd),.string A1.s,.slice oa A1.xs.length ca,.slice ob A1.bs.length cb] 40 6 rfl
      have hsz:wC.heap.size=w5.heap.size:=by rw [<- hwC];simp
      rw [hsz]at hsr
      rw [<- hwC]at hsr
      have HLC:=Lib.hid hlC;have HSTP:=Lib.hid hstp;have HSR:=Lib.hid hsr
      clear hf5 hp9 hwC hlC hstp hsr hsz hj hs5 x0 g0 g1 g2 g3 g4 g5
      unfold ansE ansV
      go_wp2_with (at_builtin;refine wpList_app 27 40 i0 _ 6 88 Tryz.underlying27 hi0 hz0 hz1 hz2 rfl (by omega) (by omega) (.tmp 57) (.tmp 59) rfl rfl _ _ _ _ (HLC.out.alloc _) _ _ _ HSR.out (by simp [Value.oneCell']) (by omega) rfl rfl ?_;intro v7 w7 hv7 hf7 hat7)
      go_roundw
      case rel=>exact ⟨k+1,vs1,_,_,_,by omega,by go_num,HSTP.out w7 v7 _ hv7 hf7 hat7⟩
      case measure=>(simp [intOf];try omega)
    ·have d2:decide (op<40)=false:=decide_eq_false hop
     have hcs:=HFN4.out.sets.row
     have hD:=jo_ask _ (.slice oM ws.length cmm) w4 B vs (lq k) HOK.out (by have:=HOK.out.2.2.2.2.2.2.2;show 40<=op;unfold Known at this;dsimp only at this;omega) HFN4.out.sets (HFN4.out.len k (Nat.le_refl k))
     have y0:=hcs.cell (i:=0) (by decide)
     have y1:=hcs.cell (i:=1) (by decide)
     have y2:=hcs.cell (i:=2) (by decide)
     have y3:=hcs.cell (i:=3) (by decide)
     rw [<- HW4.out]at hD y0 y1 y2 y3
     have HD:=Lib.hid hD
     clear hD hcs
     unfold stepV nilV setsV at HD
     unfold nilV at y0 y1 y2 y3
     dsimp only at HD
     go_wp2_with (go_at_call 7;(with_reducible refine HD.out.mono ?_);rintro e w5 ⟨hf5,⟨is1,n1,z1,s1,rfl⟩|⟨ls1,vs1,A1,l1,m1,rfl,hj,hs5⟩⟩;all_goals refine Hid.out ?_)
     all_goals clear y0 y1 y2 y3
     ·refine Lib.hid ?_
      rw [HW4.out]at hf5
      have hp9:=(hf5.keep _ (hp_lt HW.out.p9) HPB.out).trans HW.out.p9
      obtain ⟨e0,f0,e1,f1,e2,f2,e3,f3,e4,f4,e5,f5⟩:=fnCells hp9
      obtain ⟨wC,hwC,-,-,-,-,-,-,HG⟩:=fnSix hp9 (.bool is1) (.int .i64 n1) (.int .u64 z1) (.string s1) (.slice none 0 0) (.slice none 0 0)
      have HF5:=Lib.hid hf5;have HWC:=Lib.hid hwC
      clear hf5 hp9 hwC x0
      go_wp2
      go_ret
      rw [HWC.out]
      exact ⟨rfl,(HFN4.out.fr.trans' HF5.out (fun r hr=> .inr (by have hr:r=B:=hr;have:=HFN4.out.blk;omega))).trans' HG.out (fun r hr=> .inr (by have hr:r=_:=hr;have:=HP0.out;omega))⟩
     ·refine Lib.hid ?_
      rw [HW4.out]at hf5 hj
      obtain ⟨oa,ca,rfl⟩:=hj.lst.sl
      obtain ⟨ob,cb,rfl⟩:=hj.bst.sl
      have hp9:=(hf5.keep _ (hp_lt HW.out.p9) HPB.out).trans HW.out.p9
      obtain ⟨e0,f0,e1,f1,e2,f2,e3,f3,e4,f4,e5,f5⟩:=fnCells hp9
      obtain ⟨wC,hwC,g0,g1,g2,g3,g4,g5,HG⟩:=fnSix hp9 (.bool A1.is) (.int .i64 (A1.n:Int)) (.int .u64 (wn A1.wd)) (.string A1.s) (.slice oa A1.xs.length ca) (.slice ob A1.bs.length cb)
      obtain ⟨hlC,hstp⟩:=HFN4.out.step (by rw [HSS.out];exact HV.out) (by rw [HSS.out];rfl) hj hs5 hf5 HW.out.p9 HP0.out HPV.out HG.out
      rw [<- hwC]at hlC hstp g0 g1 g2 g3 g4 g5
      have hsr:=src_row wC #[.bool A1.is,.int .i64 (A1.n:Int),.int .u64 (wn A1.wd),.string A1.s,.slice oa A1.xs.length ca,.slice ob A1.bs.length cb] 40 6 rfl
      have hsz:wC.heap.size=w5.heap.size:=by rw [<- hwC];simp
      rw [hsz]at hsr
      rw [<- hwC]at hsr
      have HLC:=Lib.hid hlC;have HSTP:=Lib.hid hstp;have HSR:=Lib.hid hsr
      clear hf5 hp9 hwC hlC hstp hsr hsz hj hs5 x0 g0 g1 g2 g3 g4 g5
      unfold ansE ansV
      go_wp2_with (at_builtin;refine wpList_app 27 40 i0 _ 6 88 Tryz.underlying27 hi0 hz0 hz1 hz2 rfl (by omega) (by omega) (.tmp 57) (.tmp 59) rfl rfl _ _ _ _ (HLC.out.alloc _) _ _ _ HSR.out (by simp [Value.oneCell']) (by omega) rfl rfl ?_;intro v7 w7 hv7 hf7 hat7)
      go_roundw
      case rel=>exact ⟨k+1,vs1,_,_,_,by omega,by go_num,HSTP.out w7 v7 _ hv7 hf7 hat7⟩
      case measure=>(simp [intOf];try omega)
  ·have hkk:k=N:=by omega
   subst hkk
   obtain ⟨hT,hP,hs⟩:Tab64 wr/\PowT wr/\StdR wr A k (fun i=>(ss i).st) (fun i=>(ss i).many):=⟨HT.out.keep hfn.fr (fun h=>h),HP.out.keep hfn.fr (fun h=>h),hfn.stdR HS.out⟩
   have hSc:=script_c k cN A (fun i=>(ss i).st) (fun i=>(ss i).many) lq Aq wr (by omega) (by have:=hfn.fr.size;have:=H8.out;omega) hT hP hs (fun i hi=>⟨(hfn.stp i hi).1.ok.1,(hfn.stp i hi).2.1⟩) hfn.len hfn.zero
   have HSC:=Lib.hid hSc;have HFN:=Lib.hid hfn
   clear hT hP hs hSc hfn hlt hk
   go_wp2_with (go_at_call 8;(with_reducible refine HSC.out.mono ?_);rintro e wS ⟨v3,u3,xs3,ys3,rfl,hv3,hu3,ht3,hy3,hf3⟩;obtain ⟨A3,c3,rfl⟩:=hv3.sl;obtain ⟨A4,c4,rfl⟩:=hu3.sl;refine Hid.out ?_)
   refine Lib.hid ?_
   have HV3:=Lib.hid hv3;have HU3:=Lib.hid hu3;have HT3:=Lib.hid ht3;have HY3:=Lib.hid hy3;have HF3:=Lib.hid hf3
   clear hv3 hu3 ht3 hy3 hf3 HSC
   go_wp2
   go_loopw [84] (fun i w5=>∃j:Nat,j<=k/\i= .int .i64 (j:Int)/\Fr (fun _=>False) wS w5) (fun i _=>k-(intOf i).toNat)
   case atStart=>exact ⟨0,by omega,rfl,Fr.refl _ _⟩
   case round=>
    obtain ⟨j,hj,rfl,hf5⟩:=hrel
    by_cases hjl:j<k
    ·have d1:decide ((j:Int)<(k:Int))=true:=by simp;omega
     have bb:(0:Int)<=(j:Int)/\(j:Int)<(k:Int):=by omega
     have hfn5:=HFN.out.quiet (HF3.out.trans hf5)
     have hv5:=HV3.out.keep hf5 (fun _ _ h=>h)
     obtain ⟨sb,so,e1,hc⟩:=HS.out.at_ (by omega)
     obtain ⟨gA,cA,e2⟩:=Lst.form hfn5.lst (by omega)
     obtain ⟨gT,cT,e3⟩:=Lst.form hv5 (by omega)
     cases e1;cases e2;cases e3
     have z0:=(((hc j hjl).keep hfn5.fr (fun h=>h))).c0
     have hx6:∀i,i<k->(xs i).length=6:=fun i hi=>by
      obtain ⟨_,_,_,_,hx,_⟩:=hfn5.an i hi
      rw [hx];rfl
     have hx7:∀i,i<k->(xs3 i).length=7:=fun i hi=>by
      obtain ⟨_,_,_,hx,_⟩:=HT3.out i hi
      rw [hx];rfl
     obtain ⟨oa,ca,ob,cb2,hx,hla,hlb⟩:=hfn5.an j hjl
     obtain ⟨n,l,b,hx3,hnn,hll,hlbb,-⟩:=(HT3.out j hjl).keep hf5 (fun _ _ h=>h) (fun _ h=>h)
     obtain ⟨Al,cl,rfl⟩:=hll.sl
     obtain ⟨Ab,cb,rfl⟩:=hlbb.sl
     have a0:wr.cell? ⟨gA,j*6,none⟩=_:=Lst.cellAt (j:=0) hfn5.lst hx6 hjl (by decide) (by rw [hx];rfl)
     have a1:=Lst.cellAt (j:=1) hfn5.lst hx6 hjl (by decide) (by rw [hx];rfl)
     have a2:=Lst.cellAt (j:=2) hfn5.lst hx6 hjl (by decide) (by rw [hx];rfl)
     have a3:=Lst.cellAt (j:=3) hfn5.lst hx6 hjl (by decide) (by rw [hx];rfl)
     have a4:=Lst.cellAt (j:=4) hfn5.lst hx6 hjl (by decide) (by rw [hx];rfl)
     have a5:=Lst.cellAt (j:=5) hfn5.lst hx6 hjl (by decide) (by rw [hx];rfl)
     have hv5:=hv5.alloc (.cells #[.bool (Aq j).is,.int .i64 ((Aq j).n:Int),.int .u64 (wn (Aq j).wd),.string (Aq j).s,.slice oa (Aq j).xs.length ca,.slice ob (Aq j).bs.length cb2] 40)
     have u0:World.cell? _ ⟨gT,j*7,none⟩=_:=Lst.cellAt (j:=0) hv5 hx7 hjl (by decide) (by rw [hx3];rfl)
     have t1:=Lst.cellAt (j:=1) hv5 hx7 hjl (by decide) (by rw [hx3];rfl)
     have t2:=Lst.cellAt (j:=2) hv5 hx7 hjl (by decide) (by rw [hx3];rfl)
     have t3:=Lst.cellAt (j:=3) hv5 hx7 hjl (by decide) (by rw [hx3];rfl)
     have t4:=Lst.cellAt (j:=4) hv5 hx7 hjl (by decide) (by rw [hx3];rfl)
     have t5:=Lst.cellAt (j:=5) hv5 hx7 hjl (by decide) (by rw [hx3];rfl)
     have t6:=Lst.cellAt (j:=6) hv5 hx7 hjl (by decide) (by rw [hx3];rfl)
     obtain ⟨hvld,-,hak⟩:=hfn5.stp j hjl
     obtain ⟨As,hAs⟩:∃X,Aq j=X:=⟨_,rfl⟩
     obtain ⟨op,hOp⟩:∃X,(ss j).op=X:=⟨_,rfl⟩
     rw [hOp]at z0
     rw [hAs]at a0 a1 a2 a3 a4 a5 u0 t1 t2 t3 t4 t5 t6 hak hla hlb hll hlbb hnn
     have t0:(wr.alloc (.cells #[.bool As.is,.int .i64 (As.n:Int),.int .u64 (wn As.wd),.string As.s,.slice oa As.xs.length ca,.slice ob As.bs.length cb2] 40)).cell? ⟨gT,j*7,none⟩=some (.int .i64 op):=by rw [<- hOp];exact u0
     clear u0
     have hnn:As.is=true\/op<53\/56<op->n=As.n:=by rw [<- hOp];exact hnn
     have HNN:=Lib.hid hnn;have HAK:=Lib.hid hak;have HF5:=Lib.hid hf5
     have HLA:=Lib.hid hla;have HLB:=Lib.hid hlb;have HLL:=Lib.hid hll;have HLBB:=Lib.hid hlbb
     have hA:=HAK.out
     clear hfn5 hv5 hc hx6 hx7 hx hx3 hnn hak hf5 hla hlb hll hlbb hvld hA hAs hOp
     clear HF1 HB HV3 HU3 HT3 HY3
     obtain ⟨W0,hW0,HK0,HF0⟩:=cmpMid wr sb (so+j*9) n op As oa ob Al Ab ca cb2 cl cb z0
     have HC10:=Lib.hid (cmp10 HAK.out (HLL.out.keep HF0.out (fun _ _ h=>h)))
     have HC9:=Lib.hid (fun A6 c6=>cmp9 (A6:=A6) (c6:=c6) HAK.out (HLA.out.keep HF0.out (fun _ _ h=>h)))
     have HC11:=Lib.hid (cmp11 HAK.out (HLBB.out.keep HF0.out (fun _ _ h=>h)) (HLB.out.keep HF0.out (fun _ _ h=>h)))
     by_cases hw:IntKind.i64.wrap (n:Int)=(As.n:Int)
     ·have HWN:=Lib.hid hw;clear hw
      go_wp2
      clear hW0
      clear z0 a0 a1 a2 a3 a4 a5 t0 t1 t2 t3 t4 t5 t6
      obtain ⟨h0,h1,h2,h3,h4,h5,h6,h7,h8,h9,h10,h11,h12,h13⟩:=HK0.out
      have hw:=HWN.out
      refine wp_region_held_drew (S:=(fun w'=>CmpS As.is wr.heap.size sb (so+j*9) n op As oa ob Al Ab ca cb2 cl cb w')) (by kernel_rfl) (HK0.out.keep ((Fr.refl _ W0).drew)) (fun hHeld=>?_)
      refine tq 0 rfl ?_
      simp only [Act.put,qa,qb,qc,qd,qe,qf]
      refine tq 1 rfl ?_
      simp only [Act.put,qa,qb,qc,qd,qe,qf]
      refine tq 2 rfl ?_
      simp only [Act.put,qa,qb,qc,qd,qe,qf]
      refine tq 3 rfl ?_
      simp only [Act.put,qa,qb,qc,qd,qe,qf]
      refine tq 4 rfl ?_
      simp only [Act.put,qa,qb,qc,qd,qe,qf]
      refine tq 5 rfl ?_
      simp only [Act.put,qa,qb,qc,qd,qe,qf]
      refine tq 6 rfl ?_
      simp only [Act.put,qa,qb,qc,qd,qe,qf]
      refine tq 7 rfl ?_
      simp only [Act.put,qa,qb,qc,qd,qe,qf]
      refine tq 8 rfl ?_
      simp only [Act.put,qa,qb,qc,qd,qe,qf]
      refine tq 9 rfl ?_
      simp only [Act.put,qa,qb,qc,qd,qe,qf]
      refine tq 10 rfl ?_
      simp only [Act.put,qa,qb,qc,qd,qe,qf]
      refine tq 11 rfl ?_
      simp only [Act.put,qa,qb,qc,qd,qe,qf]
      refine tq 12 rfl ?_
      simp only [Act.put,qa,qb,qc,qd,qe,qf]
      refine tq 13 rfl ?_
      simp only [Act.put,qa,qb,qc,qd,qe,qf]
      refine tq 14 rfl ?_
      simp only [Act.put,qa,qb,qc,qd,qe,qf]
      refine tq 15 rfl ?_
      simp only [Act.put,qa,qb,qc,qd,qe,qf]
      refine tq 16 rfl ?_
      simp only [Act.put,qa,qb,qc,qd,qe,qf]
      refine tq 17 rfl ?_
      simp only [Act.put,qa,qb,qc,qd,qe,qf]
      refine tq 18 rfl ?_
      simp only [Act.put,qa,qb,qc,qd,qe,qf]
      refine tq 19 rfl ?_
      simp only [Act.put,qa,qb,qc,qd,qe,qf]
      refine tq 20 rfl ?_
      simp only [Act.put,qa,qb,qc,qd,qe,qf]
      refine tq 21 rfl ?_
      simp only [Act.put,qa,qb,qc,qd,qe,qf]
      refine tq 22 rfl ?_
      simp only [Act.put,qa,qb,qc,qd,qe,qf]
      refine tu 23 rfl ?_
      simp only [Act.put,qa,qb,qc,qd,qe,qf]
      refine tu 24 rfl ?_
      simp only [Act.put,qa,qb,qc,qd,qe,qf]
      refine tu 25 rfl ?_
      simp only [Act.put,qa,qb,qc,qd,qe,qf]
      refine tu 26 rfl ?_
      simp only [Act.put,qa,qb,qc,qd,qe,qf]
      refine tu 27 rfl ?_
      simp only [Act.put,qa,qb,qc,qd,qe,qf]
      refine tu 28 rfl ?_
      simp only [Act.put,qa,qb,qc,qd,qe,qf]
      refine tu 29 rfl ?_
      simp only [Act.put,qa,qb,qc,qd,qe,qf]
      refine tu 30 rfl ?_
      simp only [Act.put,qa,qb,qc,qd,qe,qf]
      refine tu 31 rfl ?_
      simp only [Act.put,qa,qb,qc,qd,qe,qf]
      refine tu 32 rfl ?_
      simp only [Act.put,qa,qb,qc,qd,qe,qf]
      refine tu 33 rfl ?_
      simp only [Act.put,qa,qb,qc,qd,qe,qf]
      refine tu 34 rfl ?_
      simp only [Act.put,qa,qb,qc,qd,qe,qf]
      refine tq 35 rfl ?_
      simp only [Act.put,qa,qb,qc,qd,qe,qf]
      refine tq 36 rfl ?_
      simp only [Act.put,qa,qb,qc,qd,qe,qf]
      refine tq 37 rfl ?_
      simp only [Act.put,qa,qb,qc,qd,qe,qf]
      refine tq 38 rfl ?_
      simp only [Act.put,qa,qb,qc,qd,qe,qf]
      refine tq 39 rfl ?_
      simp only [Act.put,qa,qb,qc,qd,qe,qf]
      refine tq 40 rfl ?_
      simp only [Act.put,qa,qb,qc,qd,qe,qf]
      refine tq 41 rfl ?_
      simp only [Act.put,qa,qb,qc,qd,qe,qf]
      refine tq 42 rfl ?_
      simp only [Act.put,qa,qb,qc,qd,qe,qf]
      refine tq 43 rfl ?_
      simp only [Act.put,qa,qb,qc,qd,qe,qf]
      refine tq 44 rfl ?_
      simp only [Act.put,qa,qb,qc,qd,qe,qf]
      refine tq 45 rfl ?_
      simp only [Act.put,qa,qb,qc,qd,qe,qf]
      refine tq 46 rfl ?_
      simp only [Act.put,qa,qb,qc,qd,qe,qf]
      refine tq 47 rfl ?_
      simp only [Act.put,qa,qb,qc,qd,qe,qf]
      refine tq 48 rfl ?_
      simp only [Act.put,qa,qb,qc,qd,qe,qf]
      refine tq 49 rfl ?_
      simp only [Act.put,qa,qb,qc,qd,qe,qf]
      refine tq 50 rfl ?_
      simp only [Act.put,qa,qb,qc,qd,qe,qf]
      refine tq 51 rfl ?_
      simp only [Act.put,qa,qb,qc,qd,qe,qf]
      refine tq 52 rfl ?_
      simp only [Act.put,qa,qb,qc,qd,qe,qf]
      refine tq 53 rfl ?_
      simp only [Act.put,qa,qb,qc,qd,qe,qf]
      refine tq 55 rfl ?_
      simp only [Act.put,qa,qb,qc,qd,qe,qf]
      refine tq 56 rfl ?_
      simp only [Act.put,qa,qb,qc,qd,qe,qf]
      refine wpAnyH_ready (rs:=[54]) (by kernel_rfl) (by simp) ?_
      refine AllReadyH.cons rfl (fun K hK=>?_) AllReadyH.nil
      go_simp
      (go_at_call 10;refine (HC10.out _ (by repeat (first|exact Fr.refl _ _|apply Fr.drew|apply Fr.drewN))).mono ?_;rintro e w6 ⟨v6,rfl,hl6,hf6,-⟩;obtain ⟨A6,c6,rfl⟩:=hl6.sl;have HFa:Hid (Fr (fun _=>False) W0 w6):=Fr.trans (by repeat (first|exact Fr.refl _ _|apply Fr.drew|apply Fr.drewN)) hf6;have HK1:=Lib.hid (HK0.out.keep HFa.out);have HL6:=Lib.hid hl6;clear hl6 hf6)
      (try go_wp2_with (fail))
      refine hK.out _ _ ?_ (fun hHeld=>?_)
      ·exact HK1.out
      clear hK K
      try simp only [Act.put,qa,qb,qc,qd,qe,qf]
      refine wpAnyH_ready (rs:=[57]) (by kernel_rfl) (by simp) ?_
      refine AllReadyH.cons rfl (fun K hK=>?_) AllReadyH.nil
      go_simp
      (go_at_call 9;refine (HC9.out _ _ _ (by repeat (first|exact HFa.out|apply Fr.drew|apply Fr.drewN)) (HL6.out.keep (by repeat (first|exact Fr.refl _ _|apply Fr.drew|apply Fr.drewN)) (fun _ _ h=>h))).mono ?_;rintro e w7 ⟨rfl,hf7⟩;have HFb:Hid (Fr (fun _=>False) W0 w7):=Fr.trans (by repeat (first|exact HFa.out|apply Fr.drew|apply Fr.drewN)) hf7;have HK2:=Lib.hid (HK0.out.keep HFb.out);clear hf7)
      (try go_wp2_with (fail))
      refine hK.out _ _ ?_ (fun hHeld=>?_)
      ·exact HK2.out
      clear hK K
      try simp only [Act.put,qa,qb,qc,qd,qe,qf]
      refine tq 58 rfl ?_
      simp only [Act.put,qa,qb,qc,qd,qe,qf]
      refine tq 59 rfl ?_
      simp only [Act.put,qa,qb,qc,qd,qe,qf]
      refine tq 60 rfl ?_
      simp only [Act.put,qa,qb,qc,qd,qe,qf]
      refine tq 61 rfl ?_
      simp only [Act.put,qa,qb,qc,qd,qe,qf]
      refine tq 62 rfl ?_
      simp only [Act.put,qa,qb,qc,qd,qe,qf]
      refine tq 63 rfl ?_
      simp only [Act.put,qa,qb,qc,qd,qe,qf]
      refine tq 64 rfl ?_
      simp only [Act.put,qa,qb,qc,qd,qe,qf]
      refine wpAnyH_ready (rs:=[65]) (by kernel_rfl) (by simp) ?_
      refine AllReadyH.cons rfl (fun K hK=>?_) AllReadyH.nil
      go_simp
      (go_at_call 11;refine (HC11.out _ (by repeat (first|exact HFb.out|apply Fr.drew|apply Fr.drewN))).mono ?_;rintro e w8 ⟨rfl,hf8⟩;have HFc:Hid (Fr (fun _=>False) W0 w8):=Fr.trans (by repeat (first|exact HFb.out|apply Fr.drew|apply Fr.drewN)) hf8;have HK3:=Lib.hid (HK0.out.keep HFc.out);clear hf8)
      (try go_wp2_with (fail))
      refine hK.out _ _ ?_ (fun hHeld=>?_)
      ·exact HK3.out
      clear hK K
      try simp only [Act.put,qa,qb,qc,qd,qe,qf]
      refine tq 66 rfl ?_
      simp only [Act.put,qa,qb,qc,qd,qe,qf]
      refine tq 67 rfl ?_
      simp only [Act.put,qa,qb,qc,qd,qe,qf]
      refine wpAnyH_done (by kernel_rfl) ?_ _
      clear hw h0 h1 h2 h3 h4 h5 h6 h7 h8 h9 h10 h11 h12 h13
      go_wp2
      go_roundw
      case rel=>exact ⟨j+1,by omega,by go_num,(HF5.out.trans HF0.out).trans HFc.out⟩
      case measure=>(simp [intOf];try omega)
     ·have hN:=HNN.out
      have hAn:=HAK.out.n
      have hnn2:¬n=As.n:=fun e=>hw (by rw [e];exact IntWalk.i64_in _ (by omega))
      have his:As.is=false:=by
       cases e:As.is
       ·rfl
       ·exact absurd (hN (.inl e)) hnn2
      have h53:¬op<53:=fun h=>hnn2 (hN (.inr (.inl h)))
      have h56:¬56<op:=fun h=>hnn2 (hN (.inr (.inr h)))
      have k53:decide (op<53)=false:=decide_eq_false h53
      have k56:decide (56<op)=false:=decide_eq_false h56
      have HK0:Hid (CmpS false wr.heap.size sb (so+j*9) n op As oa ob Al Ab ca cb2 cl cb W0):=by rw [<- his];exact HK0.out
      obtain ⟨q,hq⟩:∃q,IntKind.i64.wrap (n:Int)=q:=⟨_,rfl⟩
      rw [hq]at hw
      have HWQ:=Lib.hid hq;have HWN:=Lib.hid hw
      clear hq hw hN hAn hnn2 h53 h56 his
      go_wp2
      clear hW0
      clear z0 a0 a1 a2 a3 a4 a5 t0 t1 t2 t3 t4 t5 t6
      obtain ⟨h0,h1,h2,h3,h4,h5,h6,h7,h8,h9,h10,h11,h12,h13⟩:=HK0.out
      have hw:=HWN.out
      have hq:=HWQ.out
      have hwb:(q != (As.n:Int))=true:=by simpa using hw
      refine wp_region_held_drew (S:=(fun w'=>CmpS false wr.heap.size sb (so+j*9) n op As oa ob Al Ab ca cb2 cl cb w')) (by kernel_rfl) (HK0.out.keep ((Fr.refl _ W0).drew)) (fun hHeld=>?_)
      refine tq 0 rfl ?_
      simp only [Act.put,qa,qb,qc,qd,qe,qf]
      refine tq 1 rfl ?_
      simp only [Act.put,qa,qb,qc,qd,qe,qf]
      refine tq 2 rfl ?_
      simp only [Act.put,qa,qb,qc,qd,qe,qf]
      refine tq 3 rfl ?_
      simp only [Act.put,qa,qb,qc,qd,qe,qf]
      refine tq 4 rfl ?_
      simp only [Act.put,qa,qb,qc,qd,qe,qf]
      refine tq 5 rfl ?_
      simp only [Act.put,qa,qb,qc,qd,qe,qf]
      refine tq 6 rfl ?_
      simp only [Act.put,qa,qb,qc,qd,qe,qf]
      refine tq 7 rfl ?_
      simp only [Act.put,qa,qb,qc,qd,qe,qf]
      refine tq 8 rfl ?_
      simp only [Act.put,qa,qb,qc,qd,qe,qf]
      refine tq 9 rfl ?_
      simp only [Act.put,qa,qb,qc,qd,qe,qf]
      refine tq 10 rfl ?_
      simp only [Act.put,qa,qb,qc,qd,qe,qf]
      refine tq 11 rfl ?_
      simp only [Act.put,qa,qb,qc,qd,qe,qf]
      refine tq 12 rfl ?_
      simp only [Act.put,qa,qb,qc,qd,qe,qf]
      refine tq 13 rfl ?_
      simp only [Act.put,qa,qb,qc,qd,qe,qf]
      refine tq 14 rfl ?_
      simp only [Act.put,qa,qb,qc,qd,qe,qf]
      refine tq 15 rfl ?_
      simp only [Act.put,qa,qb,qc,qd,qe,qf]
      refine tq 16 rfl ?_
      simp only [Act.put,qa,qb,qc,qd,qe,qf]
      refine tq 17 rfl ?_
      simp only [Act.put,qa,qb,qc,qd,qe,qf]
      refine tq 18 rfl ?_
      simp only [Act.put,qa,qb,qc,qd,qe,qf]
      refine tq 19 rfl ?_
      simp only [Act.put,qa,qb,qc,qd,qe,qf]
      refine tq 20 rfl ?_
      simp only [Act.put,qa,qb,qc,qd,qe,qf]
      refine tq 21 rfl ?_
      simp only [Act.put,qa,qb,qc,qd,qe,qf]
      refine tq 22 rfl ?_
      simp only [Act.put,qa,qb,qc,qd,qe,qf]
      refine tq 23 rfl ?_
      simp only [Act.put,qa,qb,qc,qd,qe,qf]
      refine tq 24 rfl ?_
      simp only [Act.put,qa,qb,qc,qd,qe,qf]
      refine tq 25 rfl ?_
      simp only [Act.put,qa,qb,qc,qd,qe,qf]
      refine tq 26 rfl ?_
      simp only [Act.put,qa,qb,qc,qd,qe,qf]
      refine tq 27 rfl ?_
      simp only [Act.put,qa,qb,qc,qd,qe,qf]
      refine tq 28 rfl ?_
      simp only [Act.put,qa,qb,qc,qd,qe,qf]
      refine tq 29 rfl ?_
      simp only [Act.put,qa,qb,qc,qd,qe,qf]
      refine tq 30 rfl ?_
      simp only [Act.put,qa,qb,qc,qd,qe,qf]
      refine tq 31 rfl ?_
      simp only [Act.put,qa,qb,qc,qd,qe,qf]
      refine tq 32 rfl ?_
      simp only [Act.put,qa,qb,qc,qd,qe,qf]
      refine tq 33 rfl ?_
      simp only [Act.put,qa,qb,qc,qd,qe,qf]
      refine tq 34 rfl ?_
      simp only [Act.put,qa,qb,qc,qd,qe,qf]
      refine tq 35 rfl ?_
      simp only [Act.put,qa,qb,qc,qd,qe,qf]
      refine tq 36 rfl ?_
      simp only [Act.put,qa,qb,qc,qd,qe,qf]
      refine tq 37 rfl ?_
      simp only [Act.put,qa,qb,qc,qd,qe,qf]
      refine tq 38 rfl ?_
      simp only [Act.put,qa,qb,qc,qd,qe,qf]
      refine tq 39 rfl ?_
      simp only [Act.put,qa,qb,qc,qd,qe,qf]
      refine tq 40 rfl ?_
      simp only [Act.put,qa,qb,qc,qd,qe,qf]
      refine tq 41 rfl ?_
      simp only [Act.put,qa,qb,qc,qd,qe,qf]
      refine tq 42 rfl ?_
      simp only [Act.put,qa,qb,qc,qd,qe,qf]
      refine tq 43 rfl ?_
      simp only [Act.put,qa,qb,qc,qd,qe,qf]
      refine tq 44 rfl ?_
      simp only [Act.put,qa,qb,qc,qd,qe,qf]
      refine tq 45 rfl ?_
      simp only [Act.put,qa,qb,qc,qd,qe,qf]
      refine tq 46 rfl ?_
      simp only [Act.put,qa,qb,qc,qd,qe,qf]
      refine tq 47 rfl ?_
      simp only [Act.put,qa,qb,qc,qd,qe,qf]
      refine tq 48 rfl ?_
      simp only [Act.put,qa,qb,qc,qd,qe,qf]
      refine tq 49 rfl ?_
      simp only [Act.put,qa,qb,qc,qd,qe,qf]
      refine tq 50 rfl ?_
      simp only [Act.put,qa,qb,qc,qd,qe,qf]
      refine tq 51 rfl ?_
      simp only [Act.put,qa,qb,qc,qd,qe,qf]
      refine tq 52 rfl ?_
      simp only [Act.put,qa,qb,qc,qd,qe,qf]
      refine tq 53 rfl ?_
      simp only [Act.put,qa,qb,qc,qd,qe,qf]
      refine tq 55 rfl ?_
      simp only [Act.put,qa,qb,qc,qd,qe,qf]
      refine tq 56 rfl ?_
      simp only [Act.put,qa,qb,qc,qd,qe,qf]
      refine wpAnyH_ready (rs:=[54]) (by kernel_rfl) (by simp) ?_
      refine AllReadyH.cons rfl (fun K hK=>?_) AllReadyH.nil
      go_simp
      (go_at_call 10;refine (HC10.out _ (by repeat (first|exact Fr.refl _ _|apply Fr.drew|apply Fr.drewN))).mono ?_;rintro e w6 ⟨v6,rfl,hl6,hf6,-⟩;obtain ⟨A6,c6,rfl⟩:=hl6.sl;have HFa:Hid (Fr (fun _=>False) W0 w6):=Fr.trans (by repeat (first|exact Fr.refl _ _|apply Fr.drew|apply Fr.drewN)) hf6;have HK1:=Lib.hid (HK0.out.keep HFa.out);have HL6:=Lib.hid hl6;clear hl6 hf6)
      (try go_wp2_with (fail))
      refine hK.out _ _ ?_ (fun hHeld=>?_)
      ·exact HK1.out
      clear hK K
      try simp only [Act.put,qa,qb,qc,qd,qe,qf]
      refine wpAnyH_ready (rs:=[57]) (by kernel_rfl) (by simp) ?_
      refine AllReadyH.cons rfl (fun K hK=>?_) AllReadyH.nil
      go_simp
      (go_at_call 9;refine (HC9.out _ _ _ (by repeat (first|exact HFa.out|apply Fr.drew|apply Fr.drewN)) (HL6.out.keep (by repeat (first|exact Fr.refl _ _|apply Fr.drew|apply Fr.drewN)) (fun _ _ h=>h))).mono ?_;rintro e w7 ⟨rfl,hf7⟩;have HFb:Hid (Fr (fun _=>False) W0 w7):=Fr.trans (by repeat (first|exact HFa.out|apply Fr.drew|apply Fr.drewN)) hf7;have HK2:=Lib.hid (HK0.out.keep HFb.out);clear hf7)
      (try go_wp2_with (fail))
      refine hK.out _ _ ?_ (fun hHeld=>?_)
      ·exact HK2.out
      clear hK K
      try simp only [Act.put,qa,qb,qc,qd,qe,qf]
      refine tq 58 rfl ?_
      simp only [Act.put,qa,qb,qc,qd,qe,qf]
      refine tq 59 rfl ?_
      simp only [Act.put,qa,qb,qc,qd,qe,qf]
      refine tq 60 rfl ?_
      simp only [Act.put,qa,qb,qc,qd,qe,qf]
      refine tq 61 rfl ?_
      simp only [Act.put,qa,qb,qc,qd,qe,qf]
      refine tq 62 rfl ?_
      simp only [Act.put,qa,qb,qc,qd,qe,qf]
      refine tq 63 rfl ?_
      simp only [Act.put,qa,qb,qc,qd,qe,qf]
      refine tq 64 rfl ?_
      simp only [Act.put,qa,qb,qc,qd,qe,qf]
      refine wpAnyH_ready (rs:=[65]) (by kernel_rfl) (by simp) ?_
      refine AllReadyH.cons rfl (fun K hK=>?_) AllReadyH.nil
      go_simp
      (go_at_call 11;refine (HC11.out _ (by repeat (first|exact HFb.out|apply Fr.drew|apply Fr.drewN))).mono ?_;rintro e w8 ⟨rfl,hf8⟩;have HFc:Hid (Fr (fun _=>False) W0 w8):=Fr.trans (by repeat (first|exact HFb.out|apply Fr.drew|apply Fr.drewN)) hf8;have HK3:=Lib.hid (HK0.out.keep HFc.out);clear hf8)
      (try go_wp2_with (fail))
      refine hK.out _ _ ?_ (fun hHeld=>?_)
      ·exact HK3.out
      clear hK K
      try simp only [Act.put,qa,qb,qc,qd,qe,qf]
      refine tq 66 rfl ?_
      simp only [Act.put,qa,qb,qc,qd,qe,qf]
      refine tq 67 rfl ?_
      simp only [Act.put,qa,qb,qc,qd,qe,qf]
      refine wpAnyH_done (by kernel_rfl) ?_ _
      clear hw hq hwb h0 h1 h2 h3 h4 h5 h6 h7 h8 h9 h10 h11 h12 h13
      go_wp2
      go_roundw
      case rel=>exact ⟨j+1,by omega,by go_num,(HF5.out.trans HF0.out).trans HFc.out⟩
      case measure=>(simp [intOf];try omega)
    ·have hjj:j=k:=by omega
     subst hjj
     have HF5:=Lib.hid hf5;clear hf5 hjl hj
     have hfn5:=HFN.out.quiet (HF3.out.trans HF5.out)
     have hlen:=hfn5.len j (Nat.le_refl j)
     obtain ⟨o0,p0,E0⟩:=(hfn5.sets.at_ 0 (by decide)).sl
     obtain ⟨o1,p1,E1⟩:=(hfn5.sets.at_ 1 (by decide)).sl
     obtain ⟨o2,p2,E2⟩:=(hfn5.sets.at_ 2 (by decide)).sl
     obtain ⟨o3,p3,E3⟩:=(hfn5.sets.at_ 3 (by decide)).sl
     have y0:=hfn5.sets.row.cell (i:=0) (by decide)
     have y1:=hfn5.sets.row.cell (i:=1) (by decide)
     have y2:=hfn5.sets.row.cell (i:=2) (by decide)
     have y3:=hfn5.sets.row.cell (i:=3) (by decide)
     have b0:=hfn5.sets.at_ 0 (by decide)
     have b1:=hfn5.sets.at_ 1 (by decide)
     have b2:=hfn5.sets.at_ 2 (by decide)
     have b3:=hfn5.sets.at_ 3 (by decide)
     rw [E0]at y0 b0;rw [E1]at y1 b1;rw [E2]at y2 b2;rw [E3]at y3 b3
     have hu:=HU3.out.keep HF5.out (fun _ _ h=>h)
     have hy2:∀i,i<4->(ys3 i).length=2:=fun i hi=>by
      obtain ⟨v,hx,_⟩:=HY3.out i hi
      rw [hx];rfl
     obtain ⟨gE,cE,eE⟩:=Lst.form hu (by decide)
     cases eE
     have hends:∀i,i<4->∃Ai ci,wr.cell? ⟨gE,i*2,none⟩=some (.int .u64 ((lq j i).length:Int))/\wr.cell? ⟨gE,i*2+1,none⟩=some (.slice Ai (cntN (mOf (lq j i)) (lq j i).length) ci)/\Lst wr 28 1 (.slice Ai (cntN (mOf (lq j i)) (lq j i).length) ci) (cntN (mOf (lq j i)) (lq j i).length) ((numsN (mOf (lq j i)) (lq j i).length).map numV):=fun i hi=>by
      obtain ⟨v,hx,hl,_⟩:=(HY3.out i hi).keep HF5.out (fun _ _ h=>h) (fun _ h=>h)
      obtain ⟨Ai,ci,rfl⟩:=hl.sl
      exact ⟨Ai,ci,Lst.cellAt (j:=0) hu hy2 hi (by decide) (by rw [hx];rfl),Lst.cellAt (j:=1) hu hy2 hi (by decide) (by rw [hx];rfl),hl⟩
     have HA:=Lib.hid (alive_c wr (by have:=hfn5.fr.size;have:=H8.out;omega) (HT.out.keep hfn5.fr (fun h=>h)) (HP.out.keep hfn5.fr (fun h=>h)))
     have HB0:=Lib.hid b0;have HB1:=Lib.hid b1;have HB2:=Lib.hid b2;have HB3:=Lib.hid b3
     have HE:=Lib.hid hends;have HL:=Lib.hid hlen;have HFR:=Lib.hid hfn5.fr
     clear hfn5 hlen b0 b1 b2 b3 hu hy2 hends E0 E1 E2 E3 HV3 HT3 HU3 HY3 HF3 HS HB HF1
     go_wp2
     go_loopw [163] (fun i w6=>∃m:Nat,m<=4/\i= .int .i64 (m:Int)/\Fr (fun _=>False) wr w6) (fun i _=>4-(intOf i).toNat)
     case atStart=>exact ⟨0,by omega,rfl,Fr.refl _ _⟩
     case round=>
      clear y0 y1 y2 y3
      obtain ⟨m,hm,rfl,hf6⟩:=hrel
      by_cases hml:m<4
      ·obtain rfl|rfl|rfl|rfl:m=0\/m=1\/m=2\/m=3:=by omega
       ·obtain ⟨Ai,ci,q0,q1,hli⟩:=HE.out 0 (by decide)
        have s0:wr.cell? ⟨gE,0,none⟩=_:=(hf6.cell (block_lt_of_cell q0) (fun h=>h)).trans q0
        have s1:wr.cell? ⟨gE,1,none⟩=_:=(hf6.cell (block_lt_of_cell q1) (fun h=>h)).trans q1
        have hlm:=HL.out 0 (by decide)
        have HC10:=Lib.hid (end10 hlm (hli.keep hf6 (fun _ _ h=>h)))
        have hbm:=HB0.out.keep hf6 (fun _ _ h=>h)
        have HC12:=Lib.hid (fun (w':World) (f:Fr (fun _=>False) wr w')=>spNumbers_c _ _ w' (hbm.keep f (fun _ _ h=>h)) (by omega))
        have HC9:=Lib.hid (fun (u v:Value) (w':World)=>end9 hlm (u:=u) (v:=v) w')
        have HF6:=Lib.hid hf6
        clear q0 q1 hli hbm hf6
        generalize (lq j 0).length=Lm at*
        generalize cntN (mOf (lq j 0)) Lm=cm at*
        go_wp2_with (first
         |(go_at_call 10;refine (HC10.out _ (Fr.refl _ _)).mono ?_;rintro e w7 ⟨v7,rfl,hl7,hf7,-⟩;obtain ⟨A7,c7,rfl⟩:=hl7.sl;have HL7:=Lib.hid hl7;have HF7:=Lib.hid hf7;clear hl7 hf7)
         |(go_at_call 12;refine (HC12.out _ HF7.out).mono ?_;rintro e w8 ⟨v8,rfl,hl8,hf8,-⟩;obtain ⟨A8,c8,rfl⟩:=hl8.sl;have HL8:=Lib.hid hl8;have HF8:=Lib.hid hf8;clear hl8 hf8)
         |(go_at_call 9;refine (HC9.out _ _ _ (HL7.out.keep HF8.out (fun _ _ h=>h)) HL8.out).mono ?_;rintro e w9 ⟨rfl,hf9⟩))
        go_roundw
        case rel=>exact ⟨1,by omega,by go_num,((HF6.out.trans HF7.out).trans HF8.out).trans hf9⟩
        case measure=>(simp [intOf];try omega)
       ·obtain ⟨Ai,ci,q0,q1,hli⟩:=HE.out 1 (by decide)
        have s0:wr.cell? ⟨gE,2,none⟩=_:=(hf6.cell (block_lt_of_cell q0) (fun h=>h)).trans q0
        have s1:wr.cell? ⟨gE,3,none⟩=_:=(hf6.cell (block_lt_of_cell q1) (fun h=>h)).trans q1
        have hlm:=HL.out 1 (by decide)
        have HC10:=Lib.hid (end10 hlm (hli.keep hf6 (fun _ _ h=>h)))
        have hbm:=HB1.out.keep hf6 (fun _ _ h=>h)
        have HC12:=Lib.hid (fun (w':World) (f:Fr (fun _=>False) wr w')=>spNumbers_c _ _ w' (hbm.keep f (fun _ _ h=>h)) (by omega))
        have HC9:=Lib.hid (fun (u v:Value) (w':World)=>end9 hlm (u:=u) (v:=v) w')
        have HF6:=Lib.hid hf6
        clear q0 q1 hli hbm hf6
        generalize (lq j 1).length=Lm at*
        generalize cntN (mOf (lq j 1)) Lm=cm at*
        go_wp2_with (first
         |(go_at_call 10;refine (HC10.out _ (Fr.refl _ _)).mono ?_;rintro e w7 ⟨v7,rfl,hl7,hf7,-⟩;obtain ⟨A7,c7,rfl⟩:=hl7.sl;have HL7:=Lib.hid hl7;have HF7:=Lib.hid hf7;clear hl7 hf7)
         |(go_at_call 12;refine (HC12.out _ HF7.out).mono ?_;rintro e w8 ⟨v8,rfl,hl8,hf8,-⟩;obtain ⟨A8,c8,rfl⟩:=hl8.sl;have HL8:=Lib.hid hl8;have HF8:=Lib.hid hf8;clear hl8 hf8)
         |(go_at_call 9;refine (HC9.out _ _ _ (HL7.out.keep HF8.out (fun _ _ h=>h)) HL8.out).mono ?_;rintro e w9 ⟨rfl,hf9⟩))
        go_roundw
        case rel=>exact ⟨2,by omega,by go_num,((HF6.out.trans HF7.out).trans HF8.out).trans hf9⟩
        case measure=>(simp [intOf];try omega)
       ·obtain ⟨Ai,ci,q0,q1,hli⟩:=HE.out 2 (by decide)
        have s0:wr.cell? ⟨gE,4,none⟩=_:=(hf6.cell (block_lt_of_cell q0) (fun h=>h)).trans q0
        have s1:wr.cell? ⟨gE,5,none⟩=_:=(hf6.cell (block_lt_of_cell q1) (fun h=>h)).trans q1
        have hlm:=HL.out 2 (by decide)
        have HC10:=Lib.hid (end10 hlm (hli.keep hf6 (fun _ _ h=>h)))
        have hbm:=HB2.out.keep hf6 (fun _ _ h=>h)
        have HC12:=Lib.hid (fun (w':World) (f:Fr (fun _=>False) wr w')=>spNumbers_c _ _ w' (hbm.keep f (fun _ _ h=>h)) (by omega))
        have HC9:=Lib.hid (fun (u v:Value) (w':World)=>end9 hlm (u:=u) (v:=v) w')
        have HF6:=Lib.hid hf6
        clear q0 q1 hli hbm hf6
        generalize (lq j 2).length=Lm at*
        generalize cntN (mOf (lq j 2)) Lm=cm at*
        go_wp2_with (first
         |(go_at_call 10;refine (HC10.out _ (Fr.refl _ _)).mono ?_;rintro e w7 ⟨v7,rfl,hl7,hf7,-⟩;obtain ⟨A7,c7,rfl⟩:=hl7.sl;have HL7:=Lib.hid hl7;have HF7:=Lib.hid hf7;clear hl7 hf7)
         |(go_at_call 12;refine (HC12.out _ HF7.out).mono ?_;rintro e w8 ⟨v8,rfl,hl8,hf8,-⟩;obtain ⟨A8,c8,rfl⟩:=hl8.sl;have HL8:=Lib.hid hl8;have HF8:=Lib.hid hf8;clear hl8 hf8)
         |(go_at_call 9;refine (HC9.out _ _ _ (HL7.out.keep HF8.out (fun _ _ h=>h)) HL8.out).mono ?_;rintro e w9 ⟨rfl,hf9⟩))
        go_roundw
        case rel=>exact ⟨3,by omega,by go_num,((HF6.out.trans HF7.out).trans HF8.out).trans hf9⟩
        case measure=>(simp [intOf];try omega)
       ·obtain ⟨Ai,ci,q0,q1,hli⟩:=HE.out 3 (by decide)
        have s0:wr.cell? ⟨gE,6,none⟩=_:=(hf6.cell (block_lt_of_cell q0) (fun h=>h)).trans q0
        have s1:wr.cell? ⟨gE,7,none⟩=_:=(hf6.cell (block_lt_of_cell q1) (fun h=>h)).trans q1
        have hlm:=HL.out 3 (by decide)
        have HC10:=Lib.hid (end10 hlm (hli.keep hf6 (fun _ _ h=>h)))
        have hbm:=HB3.out.keep hf6 (fun _ _ h=>h)
        have HC12:=Lib.hid (fun (w':World) (f:Fr (fun _=>False) wr w')=>spNumbers_c _ _ w' (hbm.keep f (fun _ _ h=>h)) (by omega))
        have HC9:=Lib.hid (fun (u v:Value) (w':World)=>end9 hlm (u:=u) (v:=v) w')
        have HF6:=Lib.hid hf6
        clear q0 q1 hli hbm hf6
        generalize (lq j 3).length=Lm at*
        generalize cntN (mOf (lq j 3)) Lm=cm at*
        go_wp2_with (first
         |(go_at_call 10;refine (HC10.out _ (Fr.refl _ _)).mono ?_;rintro e w7 ⟨v7,rfl,hl7,hf7,-⟩;obtain ⟨A7,c7,rfl⟩:=hl7.sl;have HL7:=Lib.hid hl7;have HF7:=Lib.hid hf7;clear hl7 hf7)
         |(go_at_call 12;refine (HC12.out _ HF7.out).mono ?_;rintro e w8 ⟨v8,rfl,hl8,hf8,-⟩;obtain ⟨A8,c8,rfl⟩:=hl8.sl;have HL8:=Lib.hid hl8;have HF8:=Lib.hid hf8;clear hl8 hf8)
         |(go_at_call 9;refine (HC9.out _ _ _ (HL7.out.keep HF8.out (fun _ _ h=>h)) HL8.out).mono ?_;rintro e w9 ⟨rfl,hf9⟩))
        go_roundw
        case rel=>exact ⟨4,by omega,by go_num,((HF6.out.trans HF7.out).trans HF8.out).trans hf9⟩
        case measure=>(simp [intOf];try omega)
      ·have hmm:m=4:=by omega
       subst hmm
       have HF6:=Lib.hid hf6;clear hf6 hml hm HE HL HB0 HB1 HB2 HB3
       have ha:=alive_c wr (by have:=HFR.out.size;have:=HF6.out.size;have:=H8.out;omega) (HT.out.keep (HFR.out.trans HF6.out) (fun h=>h)) (HP.out.keep (HFR.out.trans HF6.out) (fun h=>h))
       have HA2:=Lib.hid ha;clear ha HA
       go_wp2_with (go_at_call 13;(with_reducible refine HA2.out.mono ?_);rintro e w7 ⟨rfl,hf7⟩;refine Hid.out ?_)
       refine Lib.hid ?_
       have HF7:=Lib.hid hf7;clear hf7
       go_wp2
       go_ret
       exact ⟨rfl,(HFR.out.trans HF6.out).trans HF7.out⟩
end Go.Proofs.YtobdfhlmipcjbaaGreatDoor
