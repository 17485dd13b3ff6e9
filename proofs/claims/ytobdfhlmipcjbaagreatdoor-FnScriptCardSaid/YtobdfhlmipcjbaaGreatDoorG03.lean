/- The numbers of words counted: popcntSlice and its kin; Count. Conditions: at most 2,000 words. Bytes packed and spread by a mask: pextByte, pdepByte, popByte. No condition. A range of numbers put in: SetRange. Conditions: numbers below 50,000. spec: words, big, place: a list's words. Conditions: lengths of at most 10,000. What is read of one set: Count, All, None, Any. No condition beyond the set's own. -/
import Derived.Test.YtobdfhlmipcjbaaGreatDoorG01
import Derived.Test.YtobdfhlmipcjbaaGreatDoorG02
set_option linter.unusedVariables false
set_option linter.unusedSimpArgs false
set_option maxHeartbeats 2000000
set_option maxRecDepth 100000
namespace Go.Proofs.YtobdfhlmipcjbaaGreatDoor
open Go.RowKit Pop
theorem popcnt_c(s o n c:Nat)(f:Nat->BitVec 64)(w:World)(hn:n<=2000)(h:∀i,i<n->w.cell? ⟨s,o+i,none⟩=some (WV (f i))):
  Calls Tryz.prog 115 #[.slice (some ⟨s,o,none⟩) n c] w fun e w'=>e= .returned (.int .u64 ((cntW f n:Nat):Int))/\w'=w:=by
 have H:=Lib.hid h;clear h
 go_enter Tryz.func115,Tryz.ntmps115
 go_wp2
 go_loopw [3,4,5,6,8] (fun a b c d i wr=>∃k a' b' c' d':Nat,k<=n/\i= .int .i64 (k:Int)/\a= .int .u64 (a':Int)/\b= .int .u64 (b':Int)/\c= .int .u64 (c':Int)/\d= .int .u64 (d':Int)/\a'+b'+c'+d'=cntW f k/\wr=w) (fun _ _ _ _ i _=>n-(intOf i).toNat)
 case atStart=>exact ⟨0,0,0,0,0,by omega,rfl,rfl,rfl,rfl,rfl,rfl,rfl⟩
 case round=>
  obtain ⟨k,a',b',c',d',hk,rfl,rfl,rfl,rfl,rfl,hs,rfl⟩:=hrel
  have hle:=cntW_le f k
  by_cases hlt:(k:Int)<=(n:Int)-4
  ·have hd:decide ((k:Int)<=(n:Int)-4)=true:=by simpa using hlt
   have h0:=H.out k (by omega)
   have h1:=H.out (k+1) (by omega)
   have h2:=H.out (k+2) (by omega)
   have h3:=H.out (k+3) (by omega)
   have i1:(0:Int)<=(k:Int)+1/\(k:Int)+1<n:=by omega
   have i2:(0:Int)<=(k:Int)+2/\(k:Int)+2<n:=by omega
   have i3:(0:Int)<=(k:Int)+3/\(k:Int)+3<n:=by omega
   have j1:((k:Int)+1).toNat=k+1:=by omega
   have j2:((k:Int)+2).toNat=k+2:=by omega
   have j3:((k:Int)+3).toNat=k+3:=by omega
   have p0:=pc_le (f k)
   have p1:=pc_le (f (k+1))
   have p2:=pc_le (f (k+2))
   have p3:=pc_le (f (k+3))
   have HS:=Lib.hid hs
   have b0:a'<=128000/\b'<=128000/\c'<=128000/\d'<=128000:=by omega
   clear hs hle
   go_wp2_with (go_at_call 125;refine (ones_c _ _).mono ?_;rintro e w' ⟨rfl,rfl⟩)
   go_roundw
   case rel=>
    refine ⟨k+4,a'+pc (f k),b'+pc (f (k+1)),c'+pc (f (k+2)),d'+pc (f (k+3)),by omega,by go_num,by go_num,by go_num,by go_num,by go_num,?_,by first|rfl|trivial⟩
    have:=HS.out
    show _=cntW f k+pc (f k)+pc (f (k+1))+pc (f (k+2))+pc (f (k+3))
    omega
   case measure=>simp [intOf];omega
  ·have hd:decide ((k:Int)<=(n:Int)-4)=false:=by simpa using hlt
   have b0:a'<=128000/\b'<=128000/\c'<=128000/\d'<=128000:=by omega
   have HS:=Lib.hid hs;clear hs hle hlt
   go_wp2
   clear hd
   go_loopw [2,8] (fun a i wz=>∃k:Nat,k<=n/\i= .int .i64 (k:Int)/\a= .int .u64 ((cntW f k:Nat):Int)/\wz=wr) (fun _ i _=>n-(intOf i).toNat)
   case atStart=>exact ⟨k,hk,rfl,by rw [<- HS.out];go_num,rfl⟩
   case round=>
    obtain ⟨k,hk,rfl,rfl,rfl⟩:=hrel
    have hle:=cntW_le f k
    by_cases hlt:k<n
    ·have h0:=H.out k hlt
     have p0:=pc_le (f k)
     have b1:cntW f k<=128000:=by omega
     clear hle
     go_wp2_with (go_at_call 125;refine (ones_c _ _).mono ?_;rintro e w' ⟨rfl,rfl⟩)
     go_roundw
     case rel=>exact ⟨k+1,by omega,by go_num,by show _=Value.int .u64 ((cntW f k+pc (f k):Nat):Int);go_num,by first|rfl|trivial⟩
     case measure=>simp [intOf];omega
    ·have hkn:k=n:=by omega
     subst hkn
     go_wp2
     go_ret
     exact ⟨rfl,rfl⟩
theorem pcdif_c(s1 s2 n c1 m c2:Nat)(f g:Nat->BitVec 64)(w:World)(hn0:0<n)(hn:n<=2000)(hnm:n<=m)(h1:∀i,i<n->w.cell? ⟨s1,i,none⟩=some (WV (f i)))(h2:∀i,i<n->w.cell? ⟨s2,i,none⟩=some (WV (g i))):
  Calls Tryz.prog 122 #[.slice (some ⟨s1,0,none⟩) n c1,.slice (some ⟨s2,0,none⟩) m c2] w fun e w'=>e= .returned (.int .u64 ((cntW (fun i=>f i&&& ~~~ g i) n:Nat):Int))/\∃q,w'=w.drewN q:=by
 obtain ⟨r,hr⟩:∃r:Nat->BitVec 64,r=fun i=>f i&&& ~~~ g i:=⟨_,rfl⟩
 have hri:∀i,bits .andNot .u64 (wn (f i)) (wn (g i))=wn (r i):=fun i=>by rw [wn_andNot,hr]
 rw [<- hr]
 have e0:=h2 (n-1) (by omega)
 have i1:(0:Int)<=(n:Int)-1/\(n:Int)-1<m:=by omega
 have i2:((n:Int)-1).toNat=n-1:=by omega
 have H1:=Lib.hid h1;have H2:=Lib.hid h2;have HR:=Lib.hid hri;clear h1 h2 hr hri
 go_enter Tryz.func122,Tryz.ntmps122
 go_wp2
 clear e0 i1 i2
 go_loopw [5,6,7,8,10] (fun a b c d i wr=>∃k a' b' c' d' q:Nat,k<=n/\i= .int .i64 (k:Int)/\a= .int .u64 (a':Int)/\b= .int .u64 (b':Int)/\c= .int .u64 (c':Int)/\d= .int .u64 (d':Int)/\a'+b'+c'+d'=cntW r k/\wr=w.drewN q) (fun _ _ _ _ i _=>n-(intOf i).toNat)
 case atStart=>exact ⟨0,0,0,0,0,0,by omega,rfl,rfl,rfl,rfl,rfl,rfl,rfl⟩
 case round=>
  obtain ⟨k,a',b',c',d',q,hk,rfl,rfl,rfl,rfl,rfl,hs,hw⟩:=hrel
  have HW:=Lib.hid hw
  have hle:=cntW_le r k
  by_cases hlt:(k:Int)<=(n:Int)-4
  ·have hd:decide ((k:Int)<=(n:Int)-4)=true:=by simpa using hlt
   have r0:=HR.out k
   have p0:=pc_le (r k)
   have i0:k<n:=by omega
   have i0':k<m:=by omega
   have r1:=HR.out (k+1)
   have p1:=pc_le (r (k+1))
   have i1:(0:Int)<=(k:Int)+1/\(k:Int)+1<n:=by omega
   have i1':(k:Int)+1<m:=by omega
   have j1:((k:Int)+1).toNat=k+1:=by omega
   have r2:=HR.out (k+2)
   have p2:=pc_le (r (k+2))
   have i2:(0:Int)<=(k:Int)+2/\(k:Int)+2<n:=by omega
   have i2':(k:Int)+2<m:=by omega
   have j2:((k:Int)+2).toNat=k+2:=by omega
   have r3:=HR.out (k+3)
   have p3:=pc_le (r (k+3))
   have i3:(0:Int)<=(k:Int)+3/\(k:Int)+3<n:=by omega
   have i3':(k:Int)+3<m:=by omega
   have j3:((k:Int)+3).toNat=k+3:=by omega
   have HS:=Lib.hid hs
   have bb:a'<=128000/\b'<=128000/\c'<=128000/\d'<=128000:=by omega
   clear hs hle hw
   have a0:wr.cell? ⟨s1,k,none⟩=some (WV (f k)):=by rw [HW.out];exact H1.out k (by omega)
   have b0:wr.cell? ⟨s2,k,none⟩=some (WV (g k)):=by rw [HW.out];exact H2.out k (by omega)
   go_wp2
   go_quiet ((go_at_call 125;exact Calls.quiet_of_same (ones_c (r k) _)))
   clear a0 b0
   generalize hw1:wr.drewN nq=w1
   have HW1:=Lib.hid hw1;clear hw1
   have a1:w1.cell? ⟨s1,k+1,none⟩=some (WV (f (k+1))):=by rw [<- HW1.out,HW.out];exact H1.out (k+1) (by omega)
   have b1:w1.cell? ⟨s2,k+1,none⟩=some (WV (g (k+1))):=by rw [<- HW1.out,HW.out];exact H2.out (k+1) (by omega)
   go_wp2
   go_quiet ((go_at_call 125;exact Calls.quiet_of_same (ones_c (r (k+1)) _)))
   clear a1 b1
   generalize hw2:w1.drewN nq=w2
   have HW2:=Lib.hid hw2;clear hw2
   have a2:w2.cell? ⟨s1,k+2,none⟩=some (WV (f (k+2))):=by rw [<- HW2.out,<- HW1.out,HW.out];exact H1.out (k+2) (by omega)
   have b2:w2.cell? ⟨s2,k+2,none⟩=some (WV (g (k+2))):=by rw [<- HW2.out,<- HW1.out,HW.out];exact H2.out (k+2) (by omega)
   go_wp2
   go_quiet ((go_at_call 125;exact Calls.quiet_of_same (ones_c (r (k+2)) _)))
   clear a2 b2
   generalize hw3:w2.drewN nq=w3
   have HW3:=Lib.hid hw3;clear hw3
   have a3:w3.cell? ⟨s1,k+3,none⟩=some (WV (f (k+3))):=by rw [<- HW3.out,<- HW2.out,<- HW1.out,HW.out];exact H1.out (k+3) (by omega)
   have b3:w3.cell? ⟨s2,k+3,none⟩=some (WV (g (k+3))):=by rw [<- HW3.out,<- HW2.out,<- HW1.out,HW.out];exact H2.out (k+3) (by omega)
   go_wp2
   go_quiet ((go_at_call 125;exact Calls.quiet_of_same (ones_c (r (k+3)) _)))
   clear a3 b3
   generalize hw4:w3.drewN nq=w4
   have HW4:=Lib.hid hw4;clear hw4
   go_wp2
   go_roundw
   case rel=>
    refine ⟨k+4,a'+pc (r k),b'+pc (r (k+1)),c'+pc (r (k+2)),d'+pc (r (k+3)),_,by omega,by go_num,by go_num,by go_num,by go_num,by go_num,?_,by rw [<- HW4.out,<- HW3.out,<- HW2.out,<- HW1.out,HW.out];simp only [World.drewN_drewN];rfl⟩
    have:=HS.out
    show _=cntW r k+pc (r k)+pc (r (k+1))+pc (r (k+2))+pc (r (k+3))
    omega
   case measure=>simp [intOf];omega
  ·have hd:decide ((k:Int)<=(n:Int)-4)=false:=by simpa using hlt
   have b0:a'<=128000/\b'<=128000/\c'<=128000/\d'<=128000:=by omega
   have HS:=Lib.hid hs;clear hs hle hlt hw
   go_wp2
   clear hd
   go_loopw [4,10] (fun a i wz=>∃k q:Nat,k<=n/\i= .int .i64 (k:Int)/\a= .int .u64 ((cntW r k:Nat):Int)/\wz=w.drewN q) (fun _ i _=>n-(intOf i).toNat)
   case atStart=>exact ⟨k,q,hk,rfl,by rw [<- HS.out];go_num,HW.out⟩
   case round=>
    obtain ⟨k,q,hk,rfl,rfl,hw⟩:=hrel
    have HW:=Lib.hid hw
    have hle:=cntW_le r k
    by_cases hlt:k<n
    ·have a0:wr.cell? ⟨s1,k,none⟩=some (WV (f k)):=by rw [hw];exact H1.out k (by omega)
     have b0:wr.cell? ⟨s2,k,none⟩=some (WV (g k)):=by rw [hw];exact H2.out k (by omega)
     have r0:=HR.out k
     have hkm:k<m:=by omega
     have p0:=pc_le (r k)
     have b1:cntW r k<=128000:=by omega
     clear hle hw
     go_wp2
     go_quiet ((go_at_call 125;exact Calls.quiet_of_same (ones_c (r k) _)))
     go_wp2
     go_roundw
     case rel=>exact ⟨k+1,_,by omega,by go_num,by show _=Value.int .u64 ((cntW r k+pc (r k):Nat):Int);go_num,by rw [HW.out,World.drewN_drewN]⟩
     case measure=>simp [intOf];omega
    ·have hkn:k=n:=by omega
     subst hkn
     clear hle hw
     go_wp2
     go_ret
     exact ⟨rfl,q,HW.out⟩
theorem pcor_c(s1 s2 n c1 m c2:Nat)(f g:Nat->BitVec 64)(w:World)(hn0:0<n)(hn:n<=2000)(hnm:n<=m)(h1:∀i,i<n->w.cell? ⟨s1,i,none⟩=some (WV (f i)))(h2:∀i,i<n->w.cell? ⟨s2,i,none⟩=some (WV (g i))):
  Calls Tryz.prog 120 #[.slice (some ⟨s1,0,none⟩) n c1,.slice (some ⟨s2,0,none⟩) m c2] w fun e w'=>e= .returned (.int .u64 ((cntW (fun i=>f i|||g i) n:Nat):Int))/\∃q,w'=w.drewN q:=by
 obtain ⟨r,hr⟩:∃r:Nat->BitVec 64,r=fun i=>f i|||g i:=⟨_,rfl⟩
 have hri:∀i,bits .or .u64 (wn (f i)) (wn (g i))=wn (r i):=fun i=>by rw [wn_or,hr]
 rw [<- hr]
 have e0:=h2 (n-1) (by omega)
 have i1:(0:Int)<=(n:Int)-1/\(n:Int)-1<m:=by omega
 have i2:((n:Int)-1).toNat=n-1:=by omega
 have H1:=Lib.hid h1;have H2:=Lib.hid h2;have HR:=Lib.hid hri;clear h1 h2 hr hri
 go_enter Tryz.func120,Tryz.ntmps120
 go_wp2
 clear e0 i1 i2
 go_loopw [4,14] (fun a i wr=>∃k q:Nat,k<=n/\i= .int .i64 (k:Int)/\a= .int .u64 ((cntW r k:Nat):Int)/\wr=w.drewN q) (fun _ i _=>n-(intOf i).toNat)
 case atStart=>exact ⟨0,0,by omega,rfl,rfl,rfl⟩
 case round=>
  obtain ⟨k,q,hk,rfl,rfl,hw⟩:=hrel
  have HW:=Lib.hid hw
  have hle:=cntW_le r k
  by_cases hlt:k<n
  ·have a1:=H1.out k hlt
   have a2:=H2.out k hlt
   have hkm:k<m:=by omega
   have a3:wr.cell? ⟨s1,k,none⟩=some (WV (f k)):=by rw [hw];exact a1
   have a4:wr.cell? ⟨s2,k,none⟩=some (WV (g k)):=by rw [hw];exact a2
   clear hw a1 a2
   have hri:=HR.out k
   have p0:=pc_le (r k)
   have b1:cntW r k<=128000:=by omega
   clear hle
   go_wp2
   go_quiet ((go_at_call 125;exact Calls.quiet_of_same (ones_c (r k) _)))
   go_wp2
   go_roundw
   case rel=>exact ⟨k+1,_,by omega,by go_num,by show _=Value.int .u64 ((cntW r k+pc (r k):Nat):Int);go_num,by rw [HW.out,World.drewN_drewN]⟩
   case measure=>simp [intOf];omega
  ·have hkn:k=n:=by omega
   subst hkn
   clear hle hw
   go_wp2
   go_ret
   exact ⟨rfl,q,HW.out⟩
theorem pcand_c(s1 s2 n c1 m c2:Nat)(f g:Nat->BitVec 64)(w:World)(hn0:0<n)(hn:n<=2000)(hnm:n<=m)(h1:∀i,i<n->w.cell? ⟨s1,i,none⟩=some (WV (f i)))(h2:∀i,i<n->w.cell? ⟨s2,i,none⟩=some (WV (g i))):
  Calls Tryz.prog 121 #[.slice (some ⟨s1,0,none⟩) n c1,.slice (some ⟨s2,0,none⟩) m c2] w fun e w'=>e= .returned (.int .u64 ((cntW (fun i=>f i&&&g i) n:Nat):Int))/\∃q,w'=w.drewN q:=by
 obtain ⟨r,hr⟩:∃r:Nat->BitVec 64,r=fun i=>f i&&&g i:=⟨_,rfl⟩
 have hri:∀i,bits .and .u64 (wn (f i)) (wn (g i))=wn (r i):=fun i=>by rw [wn_and,hr]
 rw [<- hr]
 have e0:=h2 (n-1) (by omega)
 have i1:(0:Int)<=(n:Int)-1/\(n:Int)-1<m:=by omega
 have i2:((n:Int)-1).toNat=n-1:=by omega
 have H1:=Lib.hid h1;have H2:=Lib.hid h2;have HR:=Lib.hid hri;clear h1 h2 hr hri
 go_enter Tryz.func121,Tryz.ntmps121
 go_wp2
 clear e0 i1 i2
 go_loopw [4,14] (fun a i wr=>∃k q:Nat,k<=n/\i= .int .i64 (k:Int)/\a= .int .u64 ((cntW r k:Nat):Int)/\wr=w.drewN q) (fun _ i _=>n-(intOf i).toNat)
 case atStart=>exact ⟨0,0,by omega,rfl,rfl,rfl⟩
 case round=>
  obtain ⟨k,q,hk,rfl,rfl,hw⟩:=hrel
  have HW:=Lib.hid hw
  have hle:=cntW_le r k
  by_cases hlt:k<n
  ·have a1:=H1.out k hlt
   have a2:=H2.out k hlt
   have hkm:k<m:=by omega
   have a3:wr.cell? ⟨s1,k,none⟩=some (WV (f k)):=by rw [hw];exact a1
   have a4:wr.cell? ⟨s2,k,none⟩=some (WV (g k)):=by rw [hw];exact a2
   clear hw a1 a2
   have hri:=HR.out k
   have p0:=pc_le (r k)
   have b1:cntW r k<=128000:=by omega
   clear hle
   go_wp2
   go_quiet ((go_at_call 125;exact Calls.quiet_of_same (ones_c (r k) _)))
   go_wp2
   go_roundw
   case rel=>exact ⟨k+1,_,by omega,by go_num,by show _=Value.int .u64 ((cntW r k+pc (r k):Nat):Int);go_num,by rw [HW.out,World.drewN_drewN]⟩
   case measure=>simp [intOf];omega
  ·have hkn:k=n:=by omega
   subst hkn
   clear hle hw
   go_wp2
   go_ret
   exact ⟨rfl,q,HW.out⟩
theorem pcxor_c(s1 s2 n c1 m c2:Nat)(f g:Nat->BitVec 64)(w:World)(hn0:0<n)(hn:n<=2000)(hnm:n<=m)(h1:∀i,i<n->w.cell? ⟨s1,i,none⟩=some (WV (f i)))(h2:∀i,i<n->w.cell? ⟨s2,i,none⟩=some (WV (g i))):
  Calls Tryz.prog 123 #[.slice (some ⟨s1,0,none⟩) n c1,.slice (some ⟨s2,0,none⟩) m c2] w fun e w'=>e= .returned (.int .u64 ((cntW (fun i=>f i^^^g i) n:Nat):Int))/\∃q,w'=w.drewN q:=by
 obtain ⟨r,hr⟩:∃r:Nat->BitVec 64,r=fun i=>f i^^^g i:=⟨_,rfl⟩
 have hri:∀i,bits .xor .u64 (wn (f i)) (wn (g i))=wn (r i):=fun i=>by rw [wn_xor,hr]
 rw [<- hr]
 have e0:=h2 (n-1) (by omega)
 have i1:(0:Int)<=(n:Int)-1/\(n:Int)-1<m:=by omega
 have i2:((n:Int)-1).toNat=n-1:=by omega
 have H1:=Lib.hid h1;have H2:=Lib.hid h2;have HR:=Lib.hid hri;clear h1 h2 hr hri
 go_enter Tryz.func123,Tryz.ntmps123
 go_wp2
 clear e0 i1 i2
 go_loopw [4,14] (fun a i wr=>∃k q:Nat,k<=n/\i= .int .i64 (k:Int)/\a= .int .u64 ((cntW r k:Nat):Int)/\wr=w.drewN q) (fun _ i _=>n-(intOf i).toNat)
 case atStart=>exact ⟨0,0,by omega,rfl,rfl,rfl⟩
 case round=>
  obtain ⟨k,q,hk,rfl,rfl,hw⟩:=hrel
  have HW:=Lib.hid hw
  have hle:=cntW_le r k
  by_cases hlt:k<n
  ·have a1:=H1.out k hlt
   have a2:=H2.out k hlt
   have hkm:k<m:=by omega
   have a3:wr.cell? ⟨s1,k,none⟩=some (WV (f k)):=by rw [hw];exact a1
   have a4:wr.cell? ⟨s2,k,none⟩=some (WV (g k)):=by rw [hw];exact a2
   clear hw a1 a2
   have hri:=HR.out k
   have p0:=pc_le (r k)
   have b1:cntW r k<=128000:=by omega
   clear hle
   go_wp2
   go_quiet ((go_at_call 125;exact Calls.quiet_of_same (ones_c (r k) _)))
   go_wp2
   go_roundw
   case rel=>exact ⟨k+1,_,by omega,by go_num,by show _=Value.int .u64 ((cntW r k+pc (r k):Nat):Int);go_num,by rw [HW.out,World.drewN_drewN]⟩
   case measure=>simp [intOf];omega
  ·have hkn:k=n:=by omega
   subst hkn
   clear hle hw
   go_wp2
   go_ret
   exact ⟨rfl,q,HW.out⟩
def bn(x:BitVec 8):Int:=x.toNat
abbrev BV8(x:BitVec 8):Value:= .int .u8 (bn x)
theorem ofInt_bn(x:BitVec 8):BitVec.ofInt 8 (bn x)=x:=by
 unfold bn;rw [BitVec.ofInt_natCast,BitVec.ofNat_toNat,BitVec.setWidth_eq]
theorem wrap8_toNat(x:BitVec 8):IntKind.u8.wrap (x.toNat:Int)=bn x:=by
 rw [IntKind.wrap_u8];unfold bn;have:=x.isLt;omega
theorem bn_and(x y:BitVec 8):bits .and .u8 (bn x) (bn y)=bn (x&&&y):=by
 show IntKind.u8.wrap ((BitVec.ofInt 8 (bn x)&&&BitVec.ofInt 8 (bn y)).toNat:Int)=_
 rw [ofInt_bn,ofInt_bn,wrap8_toNat]
theorem bn_or(x y:BitVec 8):bits .or .u8 (bn x) (bn y)=bn (x|||y):=by
 show IntKind.u8.wrap ((BitVec.ofInt 8 (bn x)|||BitVec.ofInt 8 (bn y)).toNat:Int)=_
 rw [ofInt_bn,ofInt_bn,wrap8_toNat]
theorem bn_one_shl(k:Nat):IntKind.u8.wrap ((2:Int)^k)=bn ((1:BitVec 8)<<<k):=by
 rw [IntKind.wrap_u8]
 unfold bn
 rw [BitVec.toNat_shiftLeft,Nat.shiftLeft_eq]
 have h:((2:Int)^k)=((2^k:Nat):Int):=by rw [Int.natCast_pow];rfl
 rw [h,show (1:BitVec 8).toNat=1 from rfl,Nat.one_mul]
 omega
theorem bn_one_shl'(k:Nat):((2:Int)^k)%256=bn ((1:BitVec 8)<<<k):=by
 have:=bn_one_shl k
 rwa [IntKind.wrap_u8]at this
theorem bn_zero_iff(x:BitVec 8):(bn x=0)=(x=0):=by
 apply propext
 constructor
 ·intro h;unfold bn at h;exact BitVec.eq_of_toNat_eq (by simp;omega)
 ·rintro rfl;rfl
theorem one_shl8(i j:Nat):((1:BitVec 8)<<<i).getLsbD j=(decide (j<8)&&decide (j=i)):=by
 rw [BitVec.getLsbD_shiftLeft,show ((1:BitVec 8))=1#8 from rfl,BitVec.getLsbD_one]
 by_cases h1:j<8 <;> by_cases h2:j<i <;> by_cases h3:j=i <;> simp [h1,h2,h3] <;> omega
theorem bit8_zero(x:BitVec 8)(k:Nat)(hk:k<8):(x&&&((1:BitVec 8)<<<k)=0)↔x.getLsbD k=false:=by
 constructor
 ·intro h
  have:=congrArg (fun y=>y.getLsbD k) h
  simp only [BitVec.getLsbD_and,one_shl8]at this
  simpa [hk] using this
 ·intro h
  apply BitVec.eq_of_getLsbD_eq
  intro j hj
  rw [BitVec.getLsbD_and,one_shl8]
  by_cases e:j=k
  ·subst e;simp [h]
  ·simp [e]
def exL(b m:Nat->Bool):Nat->List Bool
 |0=>[]
 |i+1=>exL b m i++(if m i then [b i] else [])
theorem exL_length(b m:Nat->Bool)(i:Nat):(exL b m i).length=cntN m i:=by
 induction i with
 |zero=>rfl
 |succ i ih=>unfold exL cntN;split <;> simp [ih]
theorem exL_ext{b m b' m':Nat->Bool}(n:Nat)(h:∀i,i<n->m i=m' i/\(m i=true->b i=b' i)):exL b m n=exL b' m' n:=by
 induction n with
 |zero=>rfl
 |succ n ih=>
  unfold exL
  rw [ih (fun i hi=>h i (by omega))]
  obtain ⟨h1,h2⟩:=h n (by omega)
  cases hm:m n
  ·rw [<- h1,hm];simp
  ·rw [<- h1,hm,h2 hm]
def byL(l:List Bool)(x:BitVec 8):Prop:=∀p,p<8->x.getLsbD p=l.getD p false
theorem pextByte_c(b m:BitVec 8)(w:World):
  Calls Tryz.prog 141 #[BV8 b,BV8 m] w fun e w'=>(∃x,e= .returned (BV8 x)/\byL (exL b.getLsbD m.getLsbD 8) x)/\w'=w:=by
 go_enter Tryz.func141,Tryz.ntmps141
 go_wp2
 go_loopw [5,6,7] (fun r p i wr=>∃(k:Nat) (x:BitVec 8),k<=8/\i= .int .u8 (k:Int)/\p= .int .u8 ((cntN m.getLsbD k:Nat):Int)/\r=BV8 x/\byL (exL b.getLsbD m.getLsbD k) x/\wr=w) (fun _ _ i _=>8-(intOf i).toNat)
 case atStart=>exact ⟨0,0,by omega,rfl,rfl,rfl,fun p _=>by simp [exL],rfl⟩
 case round=>
  obtain ⟨k,x,hk,rfl,rfl,rfl,hx,rfl⟩:=hrel
  have hcl:=cntN_le m.getLsbD k
  have HX:=Lib.hid hx;clear hx
  by_cases hlt:k<8
  ·obtain ⟨y,hy⟩:∃y,y=(1:BitVec 8)<<<k:=⟨_,rfl⟩
   have e1:(2:Int)^k%256=bn y:=by rw [hy];exact bn_one_shl' k
   obtain ⟨z,hzz⟩:∃z,z=m&&&y:=⟨_,rfl⟩
   have e2:bits .and .u8 (bn m) (bn y)=bn z:=by rw [hzz];exact bn_and m y
   obtain ⟨q,hq⟩:∃q,q=cntN m.getLsbD k:=⟨_,rfl⟩
   rw [<- hq]at hcl ⊢
   have HQ:=Lib.hid hq;clear hq
   cases hm:m.getLsbD k
   ·have hz:bn z=0:=by rw [bn_zero_iff,hzz,hy];exact (bit8_zero m k hlt).2 hm
    have HM:=Lib.hid hm;clear hm hy hzz
    go_wp2
    go_roundw
    case rel=>
     refine ⟨k+1,x,by omega,by go_num,?_,rfl,?_,by first|rfl|trivial⟩
     ·show _=Value.int .u8 ((cntN m.getLsbD k+(if m.getLsbD k then 1 else 0):Nat):Int)
      rw [HM.out,<- HQ.out];rfl
     ·show byL (exL b.getLsbD m.getLsbD k++(if m.getLsbD k then [b.getLsbD k] else [])) x
      rw [HM.out];simpa using HX.out
    case measure=>(simp [intOf];try omega)
   ·have hz:¬bn z=0:=by rw [bn_zero_iff,hzz,hy,bit8_zero m k hlt,hm];simp
    have HM:=Lib.hid hm;clear hm
    obtain ⟨z2,hz22⟩:∃z,z=b&&&y:=⟨_,rfl⟩
    have e3:bits .and .u8 (bn b) (bn y)=bn z2:=by rw [hz22];exact bn_and b y
    have hlen:(exL b.getLsbD m.getLsbD k).length=q:=by rw [exL_length,HQ.out]
    have HL:=Lib.hid hlen;clear hlen
    cases hb:b.getLsbD k
    ·have hz2:bn z2=0:=by rw [bn_zero_iff,hz22,hy];exact (bit8_zero b k hlt).2 hb
     have HB:=Lib.hid hb;clear hb hy hzz hz22
     go_wp2
     go_roundw
     case rel=>
      refine ⟨k+1,x,by omega,by go_num,?_,rfl,?_,by first|rfl|trivial⟩
      ·show _=Value.int .u8 ((cntN m.getLsbD k+(if m.getLsbD k then 1 else 0):Nat):Int)
       rw [HM.out,<- HQ.out];rfl
      ·show byL (exL b.getLsbD m.getLsbD k++(if m.getLsbD k then [b.getLsbD k] else [])) x
       rw [HM.out,HB.out]
       intro p hp
       rw [HX.out p hp]
       simp only [List.getD,List.getElem?_append]
       split
       ·rfl
       ·rename_i h
        rw [show (exL b.getLsbD m.getLsbD k)[p]? =none from List.getElem?_eq_none (by omega)]
        simp only [if_true]
        cases h2:p-(exL b.getLsbD m.getLsbD k).length <;> simp
     case measure=>(simp [intOf];try omega)
    ·have hz2:¬bn z2=0:=by rw [bn_zero_iff,hz22,hy,bit8_zero b k hlt,hb];simp
     have HB:=Lib.hid hb;clear hb hy hzz hz22
     obtain ⟨y2,hy2⟩:∃y,y=(1:BitVec 8)<<<q:=⟨_,rfl⟩
     have e4:(2:Int)^q%256=bn y2:=by rw [hy2];exact bn_one_shl' q
     have e5:=bn_or x y2
     have HY2:=Lib.hid hy2;clear hy2
     go_wp2
     go_roundw
     case rel=>
      refine ⟨k+1,x|||y2,by omega,by go_num,?_,by first|rfl|(rw [bn_or]),?_,by first|rfl|trivial⟩
      ·show _=Value.int .u8 ((cntN m.getLsbD k+(if m.getLsbD k then 1 else 0):Nat):Int)
       rw [HM.out,<- HQ.out];rfl
      ·show byL (exL b.getLsbD m.getLsbD k++(if m.getLsbD k then [b.getLsbD k] else [])) _
       rw [HM.out,HB.out]
       intro p hp
       rw [BitVec.getLsbD_or,HX.out p hp,HY2.out,one_shl8]
       simp only [List.getD,List.getElem?_append,if_true,HL.out]
       have d1:decide (p<8)=true:=by simpa using hp
       rw [d1]
       rcases Nat.lt_trichotomy p q with h|h|h
       ·have d2:decide (p=q)=false:=by simp;omega
        rw [if_pos h,d2];simp
       ·subst h
        rw [if_neg (by omega),Nat.sub_self];simp
       ·have d2:decide (p=q)=false:=by simp;omega
        rw [if_neg (by omega),d2,show (exL b.getLsbD m.getLsbD k)[p]? =none from List.getElem?_eq_none (by rw [HL.out];omega)]
        obtain ⟨d,hd⟩:∃d,p-q=d+1:=⟨p-q-1,by omega⟩
        rw [hd];simp
     case measure=>(simp [intOf];try omega)
  ·have hk8:k=8:=by omega
   subst hk8
   go_wp2
   go_ret
   exact ⟨⟨x,rfl,HX.out⟩,rfl⟩
theorem pop_tab:∀n:Fin 256,Lib.onesCount n.val=cntN (fun i=>n.val.testBit i) 8:=by decide +kernel
theorem pop8_cnt(m:BitVec 8):Lib.onesCount m.toNat=cntN m.getLsbD 8:=pop_tab ⟨m.toNat,m.isLt⟩
theorem popByte_c(m:BitVec 8)(w:World):Calls Tryz.prog 142 #[BV8 m] w fun e w'=>e= .returned (.int .u8 ((cntN m.getLsbD 8:Nat):Int))/\w'=w:=by
 have hb:0<=bn m/\bn m<=255:=by unfold bn;have:=m.isLt;omega
 have hle:=cntN_le m.getLsbD 8
 have hc:∀w,Calls Tryz.prog 152 #[.int .u8 (bn m)] w fun e w'=>e= .returned (.int .i64 ((cntN m.getLsbD 8:Nat):Int))/\w'=w:=fun w=>by
  have h:=Tryz.bits_OnesCount8 (bn m) w hb.1 hb.2
  rwa [show (bn m).toNat=m.toNat from rfl,pop8_cnt]at h
 generalize cntN m.getLsbD 8=c at*
 have HC:=Lib.hid hc;clear hc
 go_enter Tryz.func142,Tryz.ntmps142
 go_wp2_with (go_at_call 152;refine (HC.out _).mono ?_;rintro e w' ⟨rfl,rfl⟩)
 go_ret
 exact ⟨rfl,rfl⟩
def dpB(b m:Nat->Bool)(i:Nat):Bool:=m i&&b (cntN m i)
theorem pdepByte_c(b m:BitVec 8)(w:World):
  Calls Tryz.prog 143 #[BV8 b,BV8 m] w fun e w'=>(∃x,e= .returned (BV8 x)/\∀p,p<8->x.getLsbD p=dpB b.getLsbD m.getLsbD p)/\w'=w:=by
 go_enter Tryz.func143,Tryz.ntmps143
 go_wp2
 go_loopw [5,6,7] (fun r p i wr=>∃(k:Nat) (x:BitVec 8),k<=8/\i= .int .u8 (k:Int)/\p= .int .u8 ((cntN m.getLsbD k:Nat):Int)/\r=BV8 x/\(∀p,p<8->x.getLsbD p=(decide (p<k)&&dpB b.getLsbD m.getLsbD p))/\wr=w) (fun _ _ i _=>8-(intOf i).toNat)
 case atStart=>exact ⟨0,0,by omega,rfl,rfl,rfl,fun p _=>by simp,rfl⟩
 case round=>
  obtain ⟨k,x,hk,rfl,rfl,rfl,hx,rfl⟩:=hrel
  have hcl:=cntN_le m.getLsbD k
  have HX:=Lib.hid hx;clear hx
  by_cases hlt:k<8
  ·obtain ⟨y,hy⟩:∃y,y=(1:BitVec 8)<<<k:=⟨_,rfl⟩
   have e1:(2:Int)^k%256=bn y:=by rw [hy];exact bn_one_shl' k
   obtain ⟨z,hzz⟩:∃z,z=m&&&y:=⟨_,rfl⟩
   have e2:bits .and .u8 (bn m) (bn y)=bn z:=by rw [hzz];exact bn_and m y
   obtain ⟨q,hq⟩:∃q,q=cntN m.getLsbD k:=⟨_,rfl⟩
   rw [<- hq]at hcl ⊢
   have HQ:=Lib.hid hq;clear hq
   have stay:dpB b.getLsbD m.getLsbD k=false->∀p,p<8->x.getLsbD p=(decide (p<k+1)&&dpB b.getLsbD m.getLsbD p):=fun h p hp=>by
    rw [HX.out p hp]
    by_cases e:p=k
    ·subst e;rw [h];simp
    ·have d:decide (p<k+1)=decide (p<k):=by rw [Bool.eq_iff_iff];simp;omega
     rw [d]
   have HST:=Lib.hid stay;clear stay
   cases hm:m.getLsbD k
   ·have hz:bn z=0:=by rw [bn_zero_iff,hzz,hy];exact (bit8_zero m k hlt).2 hm
    have HM:=Lib.hid hm;clear hm hy hzz
    go_wp2
    go_roundw
    case rel=>
     refine ⟨k+1,x,by omega,by go_num,?_,rfl,HST.out (by unfold dpB;rw [HM.out];rfl),by first|rfl|trivial⟩
     show _=Value.int .u8 ((cntN m.getLsbD k+(if m.getLsbD k then 1 else 0):Nat):Int)
     rw [HM.out,<- HQ.out];rfl
    case measure=>(simp [intOf];try omega)
   ·have hz:¬bn z=0:=by rw [bn_zero_iff,hzz,hy,bit8_zero m k hlt,hm];simp
    have HM:=Lib.hid hm;clear hm
    obtain ⟨y2,hy2⟩:∃y,y=(1:BitVec 8)<<<q:=⟨_,rfl⟩
    have e4:(2:Int)^q%256=bn y2:=by rw [hy2];exact bn_one_shl' q
    obtain ⟨z2,hz22⟩:∃z,z=b&&&y2:=⟨_,rfl⟩
    have e3:bits .and .u8 (bn b) (bn y2)=bn z2:=by rw [hz22];exact bn_and b y2
    have hq8:q<8:=by omega
    have hcn:cntN m.getLsbD (k+1)=q+1:=by
     show cntN m.getLsbD k+(if m.getLsbD k then 1 else 0)=_
     rw [HM.out,<- HQ.out];rfl
    have HCN:=Lib.hid hcn;clear hcn
    cases hb:b.getLsbD q
    ·have hz2:bn z2=0:=by rw [bn_zero_iff,hz22,hy2];exact (bit8_zero b q hq8).2 hb
     have HB:=Lib.hid hb;clear hb hy hzz hz22 hy2
     go_wp2
     go_roundw
     case rel=>exact ⟨k+1,x,by omega,by go_num,by rw [HCN.out];rfl,rfl,HST.out (by unfold dpB;rw [HM.out,<- HQ.out,HB.out];rfl),by first|rfl|trivial⟩
     case measure=>(simp [intOf];try omega)
    ·have hz2:¬bn z2=0:=by rw [bn_zero_iff,hz22,hy2,bit8_zero b q hq8,hb];simp
     have e5:=bn_or x y
     have HB:=Lib.hid hb;have HY:=Lib.hid hy;clear hb hy hzz hz22 hy2
     go_wp2
     go_roundw
     case rel=>
      refine ⟨k+1,x|||y,by omega,by go_num,by rw [HCN.out];rfl,by first|rfl|(rw [bn_or]),fun p hp=>?_,by first|rfl|trivial⟩
      rw [BitVec.getLsbD_or,HX.out p hp,HY.out,one_shl8]
      have d1:decide (p<8)=true:=by simpa using hp
      rw [d1]
      by_cases e:p=k
      ·subst e
       have:dpB b.getLsbD m.getLsbD p=true:=by unfold dpB;rw [HM.out,<- HQ.out,HB.out];rfl
       rw [this];simp
      ·have d:decide (p<k+1)=decide (p<k):=by rw [Bool.eq_iff_iff];simp;omega
       have d2:decide (p=k)=false:=by simpa using e
       rw [d,d2];simp
     case measure=>(simp [intOf];try omega)
  ·have hk8:k=8:=by omega
   subst hk8
   go_wp2
   go_ret
   refine ⟨⟨x,rfl,fun p hp=>?_⟩,rfl⟩
   rw [HX.out p hp]
   have d:decide (p<8)=true:=by simpa using hp
   rw [d];rfl
end Go.Proofs.YtobdfhlmipcjbaaGreatDoor
namespace Go.Proofs.YtobdfhlmipcjbaaGreatDoor
open Go.RowKit
theorem set_word(st en k:Nat)(m:Nat->Bool)(x:BitVec 64)
  (hx:∀j,j<64->x.getLsbD j=(m (64*k+j)||(decide (st<=64*k+j)&&decide (64*k+j<en)))):
  x=pk (fun i=>if st<=i/\i<en then true else m i) k:=by
 refine pk_ext fun j hj=>?_
 rw [hx j hj]
 by_cases a:st<=64*k+j/\64*k+j<en
 ·rw [if_pos a];simp [a.1,a.2]
 ·rw [if_neg a]
  have:(decide (st<=64*k+j)&&decide (64*k+j<en))=false:=by simp;omega
  rw [this,Bool.or_false]
theorem setRange_in(b st en L:Nat)(v:Value)(m:Nat->Bool)(w:World)(hse:st<en)(hen:en<=50000)(hext:en<=L)(h:BA w b v L m):
  Calls Tryz.prog 47 #[.pointer (some ⟨b,0,none⟩),.int .u64 st,.int .u64 en] w (MutA w b v L (fun i=>if st<=i/\i<en then true else m i) (.pointer (some ⟨b,0,none⟩))):=by
 have h0:=hp_cell h.2.blk 0 (v:= .int .u64 L) rfl
 have H:=Lib.hid h;clear h
 have hd0:decide ((en:Int)<=(st:Int))=false:=by simp;omega
 have hd1:decide ((L:Int)<=(en:Int)-1)=false:=by simp;omega
 obtain ⟨s,c,g,rfl,r,hg,hm⟩:=H.out.rs (by omega)
 go_enter Tryz.func47,Tryz.ntmps47
 have g1:=r.h1
 have hl:=r.hl
 have ne:=r.ne
 have hn:=r.hn
 have hc:=r.hc
 have hq0:st/64<nw L:=by unfold nw;omega
 have hq1:(en-1)/64<nw L:=by unfold nw;omega
 have hq01:st/64<=(en-1)/64:=by omega
 have R:=Lib.hid r;have HG:=Lib.hid hg;have HM:=Lib.hid hm;clear r hg hm
 obtain ⟨n,hnL⟩:∃n,n=nw L:=⟨_,rfl⟩
 rw [<- hnL]at g1 hn hq0 hq1
 have hnb:n<=1000:=by subst hnL;unfold nw;omega
 have HN:=Lib.hid hnL;clear hnL
 obtain ⟨z,hz⟩:∃z,z=(64-en%64)%64:=⟨_,rfl⟩
 have hwz:∀w,Calls Tryz.prog 99 #[.int .u64 (IntKind.u64.wrap (-(en:Int)))] w fun r w'=>r= .returned (.int .u64 (z:Int))/\w'=w:=fun w=>by rw [hz];exact wordsIndex_neg en w
 have HW:=Lib.hid hwz;have HZ:=Lib.hid hz
 have hz64:z<64:=by omega
 clear hwz hz
 obtain ⟨q0,hq0e⟩:∃q0,q0=st/64:=⟨_,rfl⟩
 obtain ⟨q1,hq1e⟩:∃q1,q1=(en-1)/64:=⟨_,rfl⟩
 have s0:(st:Int)/64=q0:=by omega
 have s1:((en:Int)-1)/64=q1:=by omega
 rw [<- hq0e]at hq0 hq01
 rw [<- hq1e]at hq1 hq01
 have done:∀(wf:World) (gf:Nat->BitVec 64),RS wf b s L c gf->Fr (· =s) w wf->(∀k,k<nw L->∀j,j<64->(gf k).getLsbD j=(m (64*k+j)||(decide (st<=64*k+j)&&decide (64*k+j<en))))->
   MutA w b (.slice (some ⟨s,0,none⟩) (nw L) c) L (fun i=>if st<=i/\i<en then true else m i) (.pointer (some ⟨b,0,none⟩)) (.returned (.pointer (some ⟨b,0,none⟩))) wf:=by
  intro wf gf rf ff hgf
  refine ⟨rfl,_,rf.ba (fun k hk=>set_word st en k m _ (hgf k hk)) (fun i hi=>?_),⟨ff.mono (fun r hr=> .inr (by subst hr;rfl)),.inl rfl⟩⟩
  have e3:¬(st<=i/\i<en):=by omega
  rw [if_neg e3];exact HM.out i hi
 have DONE:=Lib.hid done;clear done
 have hgm:∀k,k<nw L->∀j,j<64->(g k).getLsbD j=m (64*k+j):=fun k hk j hj=>by rw [HG.out k hk,getLsbD_pk];simp [hj]
 have GM:=Lib.hid hgm;clear hgm
 have HQ0:=Lib.hid hq0e;have HQ1:=Lib.hid hq1e;clear hq0e hq1e
 by_cases heq:q0=q1
 ·have hde:((q0:Int)==(q1:Int))=true:=by simp [heq]
  have c0:=R.out.at (i:=q0) (by rw [<- HN.out];exact hq0)
  have f0:=R.out.fr q0
  have HE:=Lib.hid heq;clear heq
  go_wp2_with (first|(go_at_call 99;refine (HW.out _).mono ?_;rintro e w' ⟨rfl,rfl⟩)|(go_at_call 99;refine (wordsIndex_c _ _ (by omega)).mono ?_;rintro e w' ⟨rfl,rfl⟩))
  go_ret
  rw [all_shl,all_shr,wn_and,wn_or]
  refine DONE.out _ _ (R.out.set q0 _) ((Fr.refl (· =s) _).setCell (.inl rfl) _) (fun k hk j hj=>?_)
  have e0:=HQ0.out;have e1:=HQ1.out;have ez:=HZ.out;have ee:=HE.out
  by_cases e:k=q0
  ·rw [if_pos e,<- e,BitVec.getLsbD_or,BitVec.getLsbD_and,bit_hi _ _ hj,bit_lo,GM.out k hk j hj]
   congr 1
   rw [Bool.eq_iff_iff];simp only [Bool.and_eq_true,decide_eq_true_eq];omega
  ·rw [if_neg e,GM.out k hk j hj]
   have:(decide (st<=64*k+j)&&decide (64*k+j<en))=false:=by simp;omega
   rw [this,Bool.or_false]
 ·have hde:((q0:Int)==(q1:Int))=false:=by simp;omega
  have c0:=R.out.at (i:=q0) (by rw [<- HN.out];exact hq0)
  have f0:=R.out.fr q0
  go_wp2_with (first|(go_at_call 99;refine (HW.out _).mono ?_;rintro e w' ⟨rfl,rfl⟩)|(go_at_call 99;refine (wordsIndex_c _ _ (by omega)).mono ?_;rintro e w' ⟨rfl,rfl⟩))
  rw [all_shl,wn_or]
  have r2:=R.out.set q0 (g q0|||BitVec.allOnes 64<<<(st%64))
  have fr2:Fr (· =s) w' (w'.setCell ⟨s,q0,none⟩ (WV (g q0|||BitVec.allOnes 64<<<(st%64)))):=(Fr.refl (· =s) _).setCell (.inl rfl) _
  generalize w'.setCell ⟨s,q0,none⟩ (WV (g q0|||BitVec.allOnes 64<<<(st%64)))=w2 at*
  have R2:=Lib.hid r2;have F2:=Lib.hid fr2
  clear r2 fr2 g1 c0 f0 h0
  go_loopw [11] (fun i wr=>∃k:Nat,q0+1+k<=q1/\i= .int .u64 ((q0+1+k:Nat):Int)/\RS wr b s L c (fun j=>if q0<j/\j<q0+1+k then BitVec.allOnes 64 else if j=q0 then g q0|||BitVec.allOnes 64<<<(st%64) else g j)/\Fr (· =s) w2 wr) (fun i _=>q1-(intOf i).toNat)
  case atStart=>exact ⟨0,by omega,by go_num,R2.out.congr (fun j _=>(if_neg (show ¬(q0<j/\j<q0+1+0) by omega)).symm),Fr.refl _ _⟩
  case round=>
   obtain ⟨k,hk,rfl,hr,hfr⟩:=hrel
   have HF:=Lib.hid hfr
   have HR:=Lib.hid hr
   have g1:=hr.h1
   rw [<- HN.out]at g1
   obtain ⟨p,hp⟩:∃p,p=q0+1+k:=⟨_,rfl⟩
   rw [<- hp]at hk
   have HP:=Lib.hid hp
   have hfr1:=hr.fr
   have hat:=fun (i:Nat) (h:i<nw L)=>hr.at h
   simp only [<- hp]at hr HR hat ⊢
   by_cases hlt:p<q1
   ·have h2:=hat p (by rw [<- HN.out];omega)
    have hf:=hfr1 p
    clear hr hfr hp hat hfr1
    go_wp2
    go_roundw
    case rel=>
     refine ⟨k+1,by have:=HP.out;omega,by have:=HP.out;go_num,?_,HF.out.setCell (.inl rfl) _⟩
     rw [wn_all]
     refine (HR.out.set p (BitVec.allOnes 64)).congr (fun j _=>?_)
     have hP:=HP.out
     by_cases e:j=p
     ·rw [if_pos e,if_pos (show q0<j/\j<q0+1+(k+1) by omega)]
     ·rw [if_neg e]
      by_cases e2:q0<j/\j<p
      ·rw [if_pos e2,if_pos (show q0<j/\j<q0+1+(k+1) by omega)]
      ·rw [if_neg e2,if_neg (show ¬(q0<j/\j<q0+1+(k+1)) by omega)]
    case measure=>simp [intOf];omega
   ·have hkn:p=q1:=by omega
    have h2:=hat q1 (by rw [<- HN.out];exact hq1)
    have hf:=hfr1 q1
    rw [hkn]at h2
    have e4:¬(q0<q1/\q1<q1):=by omega
    have e5:¬q1=q0:=by omega
    rw [if_neg e4,if_neg e5]at h2
    have HP1:=Lib.hid hkn
    clear hr hfr hp hat hfr1 e4
    go_wp2
    go_ret
    rw [all_shr,wn_or]
    refine DONE.out _ _ (HR.out.set q1 _) ((F2.out.trans HF.out).setCell (.inl rfl) _) (fun k' hk' j hj=>?_)
    have a0:=HQ0.out;have a1:=HQ1.out;have az:=HZ.out;have ap:=HP1.out
    by_cases e:k'=q1
    ·rw [if_pos e,<- e,BitVec.getLsbD_or,bit_lo,GM.out k' hk' j hj]
     congr 1
     rw [Bool.eq_iff_iff];simp only [Bool.and_eq_true,decide_eq_true_eq];omega
    ·rw [if_neg e]
     by_cases e2:q0<k'/\k'<p
     ·have:(decide (st<=64*k'+j)&&decide (64*k'+j<en))=true:=by simp;omega
      rw [if_pos e2,this,BitVec.getLsbD_allOnes];simp [hj]
     ·rw [if_neg e2]
      by_cases e3:k'=q0
      ·rw [if_pos e3,<- e3,BitVec.getLsbD_or,bit_hi _ _ hj,GM.out k' hk' j hj]
       congr 1
       rw [Bool.eq_iff_iff];simp only [Bool.and_eq_true,decide_eq_true_eq];omega
      ·have:(decide (st<=64*k'+j)&&decide (64*k'+j<en))=false:=by simp;omega
       rw [if_neg e3,this,Bool.or_false,GM.out k' hk' j hj]
theorem setRange_out(b st en L:Nat)(v:Value)(m:Nat->Bool)(w:World)(hse:st<en)(hen:en<=50000)(hext:L<en)(h:BA w b v L m):
  Calls Tryz.prog 47 #[.pointer (some ⟨b,0,none⟩),.int .u64 st,.int .u64 en] w (MutA w b v en (fun i=>if st<=i/\i<en then true else m i) (.pointer (some ⟨b,0,none⟩))):=by
 have h0:=hp_cell h.2.blk 0 (v:= .int .u64 L) rfl
 have H:=Lib.hid h;clear h
 have hd0:decide ((en:Int)<=(st:Int))=false:=by simp;omega
 have hd1:decide ((L:Int)<=(en:Int)-1)=true:=by simp;omega
 go_enter Tryz.func47,Tryz.ntmps47
 go_wp2_with (go_at_call 100;refine (extA_e b en L v m _ hext hen H.out).mono ?_;rintro e w1 ⟨rfl,v1,hba,hch⟩;refine Hid.out ?_)
 refine Lib.hid ?_
 clear h0
 obtain ⟨s,c,g,rfl,r,hg,hm⟩:=hba.rs (by omega)
 have HC:=Lib.hid hch;clear hch hba
 have g1:=r.h1
 have hl:=r.hl
 have ne:=r.ne
 have hn:=r.hn
 have hc:=r.hc
 have hq0:st/64<nw en:=by unfold nw;omega
 have hq1:(en-1)/64<nw en:=by unfold nw;omega
 have hq01:st/64<=(en-1)/64:=by omega
 have R:=Lib.hid r;have HG:=Lib.hid hg;have HM:=Lib.hid hm;clear r hg hm
 obtain ⟨n,hnL⟩:∃n,n=nw en:=⟨_,rfl⟩
 rw [<- hnL]at g1 hn hq0 hq1
 have hnb:n<=1000:=by subst hnL;unfold nw;omega
 have HN:=Lib.hid hnL;clear hnL
 obtain ⟨z,hz⟩:∃z,z=(64-en%64)%64:=⟨_,rfl⟩
 have hwz:∀w,Calls Tryz.prog 99 #[.int .u64 (IntKind.u64.wrap (-(en:Int)))] w fun r w'=>r= .returned (.int .u64 (z:Int))/\w'=w:=fun w=>by rw [hz];exact wordsIndex_neg en w
 have HW:=Lib.hid hwz;have HZ:=Lib.hid hz
 have hz64:z<64:=by omega
 clear hwz hz
 obtain ⟨q0,hq0e⟩:∃q0,q0=st/64:=⟨_,rfl⟩
 obtain ⟨q1,hq1e⟩:∃q1,q1=(en-1)/64:=⟨_,rfl⟩
 have s0:(st:Int)/64=q0:=by omega
 have s1:((en:Int)-1)/64=q1:=by omega
 rw [<- hq0e]at hq0 hq01
 rw [<- hq1e]at hq1 hq01
 have done:∀(wf:World) (gf:Nat->BitVec 64),RS wf b s en c gf->Fr (· =s) w1 wf->(∀k,k<nw en->∀j,j<64->(gf k).getLsbD j=(m (64*k+j)||(decide (st<=64*k+j)&&decide (64*k+j<en))))->
   MutA w b v en (fun i=>if st<=i/\i<en then true else m i) (.pointer (some ⟨b,0,none⟩)) (.returned (.pointer (some ⟨b,0,none⟩))) wf:=by
  intro wf gf rf ff hgf
  refine ⟨rfl,_,rf.ba (fun k hk=>set_word st en k m _ (hgf k hk)) (fun i hi=>?_),HC.out.trans ⟨ff.mono (fun r hr=> .inr (by subst hr;rfl)),.inl rfl⟩⟩
  have e3:¬(st<=i/\i<en):=by omega
  rw [if_neg e3];exact HM.out i hi
 have DONE:=Lib.hid done;clear done
 have hgm:∀k,k<nw en->∀j,j<64->(g k).getLsbD j=m (64*k+j):=fun k hk j hj=>by rw [HG.out k hk,getLsbD_pk];simp [hj]
 have GM:=Lib.hid hgm;clear hgm
 have HQ0:=Lib.hid hq0e;have HQ1:=Lib.hid hq1e;clear hq0e hq1e
 by_cases heq:q0=q1
 ·have hde:((q0:Int)==(q1:Int))=true:=by simp [heq]
  have c0:=R.out.at (i:=q0) (by rw [<- HN.out];exact hq0)
  have f0:=R.out.fr q0
  have HE:=Lib.hid heq;clear heq
  go_wp2_with (first|(go_at_call 99;refine (HW.out _).mono ?_;rintro e w' ⟨rfl,rfl⟩)|(go_at_call 99;refine (wordsIndex_c _ _ (by omega)).mono ?_;rintro e w' ⟨rfl,rfl⟩))
  go_ret
  rw [all_shl,all_shr,wn_and,wn_or]
  refine DONE.out _ _ (R.out.set q0 _) ((Fr.refl (· =s) _).setCell (.inl rfl) _) (fun k hk j hj=>?_)
  have e0:=HQ0.out;have e1:=HQ1.out;have ez:=HZ.out;have ee:=HE.out
  by_cases e:k=q0
  ·rw [if_pos e,<- e,BitVec.getLsbD_or,BitVec.getLsbD_and,bit_hi _ _ hj,bit_lo,GM.out k hk j hj]
   congr 1
   rw [Bool.eq_iff_iff];simp only [Bool.and_eq_true,decide_eq_true_eq];omega
  ·rw [if_neg e,GM.out k hk j hj]
   have:(decide (st<=64*k+j)&&decide (64*k+j<en))=false:=by simp;omega
   rw [this,Bool.or_false]
 ·have hde:((q0:Int)==(q1:Int))=false:=by simp;omega
  have c0:=R.out.at (i:=q0) (by rw [<- HN.out];exact hq0)
  have f0:=R.out.fr q0
  go_wp2_with (first|(go_at_call 99;refine (HW.out _).mono ?_;rintro e w' ⟨rfl,rfl⟩)|(go_at_call 99;refine (wordsIndex_c _ _ (by omega)).mono ?_;rintro e w' ⟨rfl,rfl⟩))
  rw [all_shl,wn_or]
  have r2:=R.out.set q0 (g q0|||BitVec.allOnes 64<<<(st%64))
  have fr2:Fr (· =s) w' (w'.setCell ⟨s,q0,none⟩ (WV (g q0|||BitVec.allOnes 64<<<(st%64)))):=(Fr.refl (· =s) _).setCell (.inl rfl) _
  generalize w'.setCell ⟨s,q0,none⟩ (WV (g q0|||BitVec.allOnes 64<<<(st%64)))=w2 at*
  have R2:=Lib.hid r2;have F2:=Lib.hid fr2
  clear r2 fr2 g1 c0 f0
  go_loopw [11] (fun i wr=>∃k:Nat,q0+1+k<=q1/\i= .int .u64 ((q0+1+k:Nat):Int)/\RS wr b s en c (fun j=>if q0<j/\j<q0+1+k then BitVec.allOnes 64 else if j=q0 then g q0|||BitVec.allOnes 64<<<(st%64) else g j)/\Fr (· =s) w2 wr) (fun i _=>q1-(intOf i).toNat)
  case atStart=>exact ⟨0,by omega,by go_num,R2.out.congr (fun j _=>(if_neg (show ¬(q0<j/\j<q0+1+0) by omega)).symm),Fr.refl _ _⟩
  case round=>
   obtain ⟨k,hk,rfl,hr,hfr⟩:=hrel
   have HF:=Lib.hid hfr
   have HR:=Lib.hid hr
   have g1:=hr.h1
   rw [<- HN.out]at g1
   obtain ⟨p,hp⟩:∃p,p=q0+1+k:=⟨_,rfl⟩
   rw [<- hp]at hk
   have HP:=Lib.hid hp
   have hfr1:=hr.fr
   have hat:=fun (i:Nat) (h:i<nw en)=>hr.at h
   simp only [<- hp]at hr HR hat ⊢
   by_cases hlt:p<q1
   ·have h2:=hat p (by rw [<- HN.out];omega)
    have hf:=hfr1 p
    clear hr hfr hp hat hfr1
    go_wp2
    go_roundw
    case rel=>
     refine ⟨k+1,by have:=HP.out;omega,by have:=HP.out;go_num,?_,HF.out.setCell (.inl rfl) _⟩
     rw [wn_all]
     refine (HR.out.set p (BitVec.allOnes 64)).congr (fun j _=>?_)
     have hP:=HP.out
     by_cases e:j=p
     ·rw [if_pos e,if_pos (show q0<j/\j<q0+1+(k+1) by omega)]
     ·rw [if_neg e]
      by_cases e2:q0<j/\j<p
      ·rw [if_pos e2,if_pos (show q0<j/\j<q0+1+(k+1) by omega)]
      ·rw [if_neg e2,if_neg (show ¬(q0<j/\j<q0+1+(k+1)) by omega)]
    case measure=>simp [intOf];omega
   ·have hkn:p=q1:=by omega
    have h2:=hat q1 (by rw [<- HN.out];exact hq1)
    have hf:=hfr1 q1
    rw [hkn]at h2
    have e4:¬(q0<q1/\q1<q1):=by omega
    have e5:¬q1=q0:=by omega
    rw [if_neg e4,if_neg e5]at h2
    have HP1:=Lib.hid hkn
    clear hr hfr hp hat hfr1 e4
    go_wp2
    go_ret
    rw [all_shr,wn_or]
    refine DONE.out _ _ (HR.out.set q1 _) ((F2.out.trans HF.out).setCell (.inl rfl) _) (fun k' hk' j hj=>?_)
    have a0:=HQ0.out;have a1:=HQ1.out;have az:=HZ.out;have ap:=HP1.out
    by_cases e:k'=q1
    ·rw [if_pos e,<- e,BitVec.getLsbD_or,bit_lo,GM.out k' hk' j hj]
     congr 1
     rw [Bool.eq_iff_iff];simp only [Bool.and_eq_true,decide_eq_true_eq];omega
    ·rw [if_neg e]
     by_cases e2:q0<k'/\k'<p
     ·have:(decide (st<=64*k'+j)&&decide (64*k'+j<en))=true:=by simp;omega
      rw [if_pos e2,this,BitVec.getLsbD_allOnes];simp [hj]
     ·rw [if_neg e2]
      by_cases e3:k'=q0
      ·rw [if_pos e3,<- e3,BitVec.getLsbD_or,bit_hi _ _ hj,GM.out k' hk' j hj]
       congr 1
       rw [Bool.eq_iff_iff];simp only [Bool.and_eq_true,decide_eq_true_eq];omega
      ·have:(decide (st<=64*k'+j)&&decide (64*k'+j<en))=false:=by simp;omega
       rw [if_neg e3,this,Bool.or_false,GM.out k' hk' j hj]
theorem flipRange_c(b st en L:Nat)(v:Value)(m:Nat->Bool)(w:World)(hen:en<=50000)(h:BA w b v L m):
  Calls Tryz.prog 46 #[.pointer (some ⟨b,0,none⟩),.int .u64 st,.int .u64 en] w (MutA w b v (if st<en then max L en else L) (fun i=>if st<=i/\i<en then !m i else m i) (.pointer (some ⟨b,0,none⟩))):=by
 by_cases hse:st<en
 ·rw [if_pos hse]
  by_cases hL:en<=L
  ·rw [Nat.max_eq_left hL];exact flipRange_in b st en L v m w hse hen hL h
  ·rw [Nat.max_eq_right (by omega)];exact flipRange_out b st en L v m w hse hen (by omega) h
 ·rw [if_neg hse]
  have hd0:decide ((en:Int)<=(st:Int))=true:=by simp;omega
  have e:(fun i=>if st<=i/\i<en then !m i else m i)=m:=by funext i;exact if_neg (by omega)
  rw [e]
  have H:=Lib.hid h;clear h e
  go_enter Tryz.func46,Tryz.ntmps46
  go_wp2
  go_ret
  exact ⟨rfl,v,H.out,Ch.refl _ _ _⟩
theorem setRange_c(b st en L:Nat)(v:Value)(m:Nat->Bool)(w:World)(hen:en<=50000)(h:BA w b v L m):
  Calls Tryz.prog 47 #[.pointer (some ⟨b,0,none⟩),.int .u64 st,.int .u64 en] w (MutA w b v (if st<en then max L en else L) (fun i=>if st<=i/\i<en then true else m i) (.pointer (some ⟨b,0,none⟩))):=by
 by_cases hse:st<en
 ·rw [if_pos hse]
  by_cases hL:en<=L
  ·rw [Nat.max_eq_left hL];exact setRange_in b st en L v m w hse hen hL h
  ·rw [Nat.max_eq_right (by omega)];exact setRange_out b st en L v m w hse hen (by omega) h
 ·rw [if_neg hse]
  have hd0:decide ((en:Int)<=(st:Int))=true:=by simp;omega
  have e:(fun i=>if st<=i/\i<en then true else m i)=m:=by funext i;exact if_neg (by omega)
  rw [e]
  have H:=Lib.hid h;clear h e
  go_enter Tryz.func47,Tryz.ntmps47
  go_wp2
  go_ret
  exact ⟨rfl,v,H.out,Ch.refl _ _ _⟩
theorem mOf_out(l:List Bool){i:Nat}(h:l.length<=i):mOf l i=false:=by simp [mOf,List.getD,List.getElem?_eq_none h]
theorem pk_add(m:Nat->Bool)(k:Nat)(hm:m k=true):pk (fun i=>decide (i<k)&&m i) (k/64)|||((1:BitVec 64)<<<(k%64))=pk (fun i=>decide (i<k+1)&&m i) (k/64):=by
 refine pk_ext fun j hj=>?_
 rw [BitVec.getLsbD_or,getLsbD_pk,getLsbD_one_shl]
 have d1:decide (j<64)=true:=by simpa using hj
 by_cases e2:j=k%64
 ·have e3:64*(k/64)+j=k:=by omega
  have d2:decide (j=k%64)=true:=by simpa using e2
  rw [e3,d1,d2,hm];simp
 ·have e3:(64*(k/64)+j<k)=(64*(k/64)+j<k+1):=by apply propext;omega
  have d2:decide (j=k%64)=false:=by simpa using e2
  rw [d1,d2];simp [e3]
theorem pk_add_off(m:Nat->Bool)(k q:Nat)(h:m k=false\/q≠k/64):pk (fun i=>decide (i<k)&&m i) q=pk (fun i=>decide (i<k+1)&&m i) q:=by
 refine (pk_same fun j hj=>?_).symm
 by_cases e:64*q+j=k
 ·rcases h with h|h
  ·rw [e,h];simp
  ·omega
 ·have e3:(64*q+j<k)=(64*q+j<k+1):=by apply propext;omega
  simp [e3]
theorem spWords_c(v:Value)(l:List Bool)(w:World)(hv:BL w v l)(hl:l.length<=10000):
  Calls Tryz.prog 28 #[v] w (NewLst w 29 1 (nw l.length) ((List.range (nw l.length)).map (fun j=>WV (pk (mOf l) j)))):=by
 obtain ⟨a,c,e1⟩:=hv.sl
 obtain ⟨n,hn⟩:∃n,n=l.length:=⟨_,rfl⟩
 have hat:=fun (i:Nat) (hi:i<l.length)=>hv.am hi
 have hout:∀i,n<=i->mOf l i=false:=fun i hi=>mOf_out l (by omega)
 rw [<- hn]at e1
 rw [e1,<- hn]at hat
 rw [<- hn,e1]
 rw [<- hn]at hl
 obtain ⟨q,hq⟩:∃q,q=nw n:=⟨_,rfl⟩
 have hqi:(((n:Int)+63)/64)=(q:Int):=by rw [hq];unfold nw;omega
 have hq':q=(n+63)/64:=hq
 rw [<- hq]
 have hmk:=make33 (q:Int) (q:Int) (by omega) (by omega) (by omega)
 rw [Int.toNat_natCast]at hmk
 have hmk2:∀w:World,(Instr.makeSlice 33 (.int .i64 (((n:Int)+63)/64)) (.int .i64 (((n:Int)+63)/64))).run Tryz.prog w= .ok (.slice (some ⟨w.heap.size,0,none⟩) q q) (w.alloc (.cells (madeCells #[.int .u64 0] q) 29)):=by rw [hqi];exact hmk
 have hdv:((n:Int)+63).tdiv 64=((n:Int)+63)/64:=Int.tdiv_eq_ediv_of_nonneg (by omega)
 have HA:=Lib.hid hat;have HO:=Lib.hid hout;have HQ:=Lib.hid hq';clear hat hv hn e1 hout hq hq' hmk hqi
 go_enter Tryz.func28,Tryz.ntmps28
 go_wp2
 have hrow0:(w.alloc (.cells (madeCells #[.int .u64 0] q) 29)).rowIs w.heap.size 29 q (fun _=>WV 0):=row_made w q
 have hfr0:Fr (fun _=>False) w (w.alloc (.cells (madeCells #[.int .u64 0] q) 29)):=(Fr.refl _ w).alloc _
 generalize w.alloc (.cells (madeCells #[.int .u64 0] q) 29)=w1 at*
 have HR0:=Lib.hid hrow0;have HF0:=Lib.hid hfr0;clear hrow0 hfr0 hmk2
 go_loopw [13] (fun i wr=>∃k:Nat,k<=n/\i= .int .i64 (k:Int)/\wr.rowIs w.heap.size 29 q (fun j=>WV (pk (fun i=>decide (i<k)&&mOf l i) j))/\Fr (· =w.heap.size) w1 wr) (fun i _=>n-(intOf i).toNat)
 case atStart=>
  refine ⟨0,by omega,rfl,HR0.out.congr (fun j _=>?_),Fr.refl _ _⟩
  rw [show pk (fun i=>decide (i<0)&&mOf l i) j=0 from (pk_ext (fun _ _=>by simp)).symm]
 case round=>
  obtain ⟨k,hk,rfl,hrow,hfr⟩:=hrel
  have hall:Fr (fun _=>False) w wr:=HF0.out.trans' hfr (fun r hr=> .inr (by omega))
  have HR:=Lib.hid hrow;have HF:=Lib.hid hfr;have HAL:=Lib.hid hall
  by_cases hlt:k<n
  ·obtain ⟨s,c',e1,hc⟩:=HA.out k hlt
   cases e1
   have hc2:=(hall.cell (a:=⟨s,k,none⟩) (block_lt_of_cell hc) (fun h=>h)).trans hc
   have hkq:k/64<q:=by have:=HQ.out;omega
   have hcell:=hrow.cell (i:=k/64) hkq
   have hfz:=hrow.frozen (k/64)
   cases hb:mOf l k
   ·simp only [hb]at hc hc2
    have HB:=Lib.hid hb;clear hb hc hrow hfr hall
    go_wp2
    go_roundw
    case rel=>exact ⟨k+1,by omega,by go_num,HR.out.congr (fun j _=>by rw [pk_add_off _ _ _ (.inl HB.out)]),HF.out⟩
    case measure=>simp [intOf];omega
   ·simp only [hb]at hc hc2
    have HB:=Lib.hid hb;clear hb hc hrow hfr hall
    have i1:(k:Int).tdiv 64=(k:Int)/64:=Int.tdiv_eq_ediv_of_nonneg (by omega)
    have i2:(k:Int).tmod 64=(k:Int)%64:=Int.tmod_eq_emod_of_nonneg (by omega)
    have i3:(0:Int)<=(k:Int)/64/\(k:Int)/64<q:=by omega
    have i4:((k:Int)/64).toNat=k/64:=by omega
    have i5:(0:Int)<=(k:Int)%64/\(k:Int)%64<64:=by omega
    have i6:((k:Int)%64).toNat=k%64:=by omega
    go_wp2
    refine wp_region_quiet_tail 9 (by kernel_rfl) (by kernel_rfl) ?_
    simp only [List.take_succ_cons,List.take_zero,List.drop_succ_cons,List.drop_zero]
    repeat (go_big_quiet_step (fail))
    refine wpQuiet_nil ?_
    intro _ ⟨nq,hw'⟩
    subst hw'
    go_wp2
    go_roundw
    case rel=>
     refine ⟨k+1,by omega,by go_num,?_,(HF.out.drewN _).setCell (.inl rfl) _⟩
     refine ((rowIs_drewN HR.out nq).set (k/64) _).congr (fun j _=>?_)
     by_cases e:j=k/64
     ·subst e;simp only [if_true,wn_one_shl,wn_or];rw [pk_add _ _ HB.out]
     ·rw [if_neg e,pk_add_off _ _ _ (.inr e)]
    case measure=>simp [intOf];omega
  ·have hkk:k=n:=by omega
   subst hkk
   clear hrow hfr hall
   go_wp2
   go_ret
   have hR:=rowLst HR.out (Nat.le_refl _) (by have:=HQ.out;omega)
   refine ⟨_,rfl,?_,HAL.out,by simp [Value.ownBlock]⟩
   have e:(List.range q).map (fun j=>WV (pk (fun i=>decide (i<k)&&mOf l i) j))=(List.range q).map (fun j=>WV (pk (mOf l) j)):=by
    apply List.map_congr_left
    intro j _
    rw [show pk (fun i=>decide (i<k)&&mOf l i) j=pk (mOf l) j from pk_same (fun i _=>by
     by_cases e:64*j+i<k
     ·simp [e]
     ·rw [HO.out _ (by omega)];simp)]
   rw [<- e];exact hR
end Go.Proofs.YtobdfhlmipcjbaaGreatDoor
namespace Go.Proofs.YtobdfhlmipcjbaaGreatDoor
open Go.RowKit Pop
theorem BA.view{w:World}{b:Nat}{v:Value}{L:Nat}{m:Nat->Bool}(h:BA w b v L m):
  w.cell? ⟨b,0,none⟩=some (.int .u64 (L:Int))/\L<=50000/\(∀i,L<=i->m i=false)/\
   ((L=0/\w.cell? ⟨b,1,none⟩=some (.slice none 0 0))\/
    ∃s c,nw L<=c/\w.cell? ⟨b,1,none⟩=some (.slice (some ⟨s,0,none⟩) (nw L) c)/\∀i,i<nw L->w.cell? ⟨s,i,none⟩=some (WV (pk m i))):=by
 refine ⟨hp_cell h.2.blk 0 rfl,h.2.lim,h.1,?_⟩
 rcases h.cases with ⟨h0,rfl⟩|⟨s,c,g,rfl,r,hg,hm⟩
 ·exact .inl ⟨h0,hp_cell h.2.blk 1 rfl⟩
 ·exact .inr ⟨s,c,r.hn,r.h1,fun i hi=>by rw [<- hg i hi];exact r.at hi⟩
theorem BA.view2{w:World}{b:Nat}{v:Value}{L:Nat}{m:Nat->Bool}(h:BA w b v L m):
  w.cell? ⟨b,0,none⟩=some (.int .u64 (L:Int))/\L<=50000/\(∀i,L<=i->m i=false)/\
   ∃A s c,w.cell? ⟨b,1,none⟩=some (.slice A (nw L) c)/\nw L<=c/\(0<nw L->A=some ⟨s,0,none⟩)/\∀i,i<nw L->w.cell? ⟨s,i,none⟩=some (WV (pk m i)):=by
 obtain ⟨h0,hl,hm,h|⟨s,c,hc,h1,hw⟩⟩:=h.view
 ·obtain ⟨rfl,h1⟩:=h
  exact ⟨h0,hl,hm,none,0,0,h1,Nat.le_refl _,fun h=>absurd h (by simp [nw]),fun i hi=>absurd hi (by simp [nw])⟩
 ·exact ⟨h0,hl,hm,_,s,c,h1,hc,fun _=>rfl,hw⟩
theorem nw_bound{L:Nat}(h:L<=50000):nw L<=1000:=by unfold nw;omega
theorem count_c(b L:Nat)(v:Value)(m:Nat->Bool)(w:World)(h:BA w b v L m):
  Calls Tryz.prog 73 #[.pointer (some ⟨b,0,none⟩)] w fun e w'=>e= .returned (.int .u64 ((cntN m L:Nat):Int))/\w'=w:=by
 obtain ⟨h0,hl,hm,h|⟨s,c,hc,h1,hw⟩⟩:=h.view
 ·obtain ⟨rfl,h1⟩:=h
  go_enter Tryz.func73,Tryz.ntmps73
  go_wp2
  go_ret
  exact ⟨rfl,rfl⟩
 ·have e:=cntW_set hm
  have hn:=nw_bound hl
  generalize nw L=n at*
  rw [<- e]
  have HW:=Lib.hid hw;clear hw hm e hl
  go_enter Tryz.func73,Tryz.ntmps73
  go_wp2_with (go_at_call 115;refine (popcnt_c s 0 n c (pk m) _ (by omega) (fun i hi=>by rw [Nat.zero_add];exact HW.out i hi)).mono ?_;rintro e w' ⟨rfl,rfl⟩)
  go_ret
  exact ⟨rfl,rfl⟩
theorem all_c(b L:Nat)(v:Value)(m:Nat->Bool)(w:World)(h:BA w b v L m):
  Calls Tryz.prog 76 #[.pointer (some ⟨b,0,none⟩)] w fun e w'=>e= .returned (.bool (decide (cntN m L=L)))/\∃q,w'=w.drewN q:=by
 have h0:=h.view.1
 have hl:=h.2.lim
 have hc:=fun q=>count_c b L v m (w.drewN q) ⟨h.1,h.2.drewN q⟩
 have HC:=Lib.hid hc;clear hc h
 go_enter Tryz.func76,Tryz.ntmps76
 go_wp2_with (go_at_call 103;refine (panicIfNull_c _ _).mono ?_;rintro e w' ⟨rfl,rfl⟩)
 go_quiet ((go_at_call 73;exact Calls.quiet_of_same (HC.out _)))
 go_wp2
 go_ret
 refine ⟨ret_arg ?_,_,rfl⟩
 show Value.bool _=Value.bool _
 congr 1
 rw [Bool.eq_iff_iff];simp;omega
theorem none_c(b L:Nat)(v:Value)(m:Nat->Bool)(w:World)(h:BA w b v L m):
  Calls Tryz.prog 75 #[.pointer (some ⟨b,0,none⟩)] w fun e w'=>(∃r:Bool,e= .returned (.bool r)/\(r=true↔∀i,m i=false))/\w'=w:=by
 obtain ⟨h0,hl,hm,h|⟨s,c,hc,h1,hw⟩⟩:=h.view
 ·obtain ⟨rfl,h1⟩:=h
  go_enter Tryz.func75,Tryz.ntmps75
  go_wp2_with (go_at_call 103;refine (panicIfNull_c _ _).mono ?_;rintro e w' ⟨rfl,rfl⟩)
  go_ret
  exact ⟨⟨true,rfl,by simp;exact fun i=>hm i (by omega)⟩,rfl⟩
 ·have hn:=nw_bound hl
  have hq:∀i,m i=true->i/64<nw L:=fun i hi=>by
   rcases Nat.lt_or_ge i L with h|h
   ·unfold nw;omega
   ·rw [hm i h]at hi;cases hi
  generalize nw L=n at*
  have HW:=Lib.hid hw;have HQ:=Lib.hid hq;clear hw hm hl hq
  go_enter Tryz.func75,Tryz.ntmps75
  go_wp2_with (go_at_call 103;refine (panicIfNull_c _ _).mono ?_;rintro e w' ⟨rfl,rfl⟩)
  clear h0 h1
  go_loopw [21] (fun i wr=>∃k:Nat,k<=n/\i= .int .i64 (k:Int)/\(∀j,j<k->pk m j=0)/\wr=w') (fun i _=>n-(intOf i).toNat)
  case atStart=>exact ⟨0,by omega,rfl,fun j hj=>by omega,rfl⟩
  case round=>
   obtain ⟨k,hk,rfl,hz,rfl⟩:=hrel
   have HZ:=Lib.hid hz;clear hz
   by_cases hlt:k<n
   ·have hx:=HW.out k hlt
    by_cases hz0:pk m k=0
    ·rw [hz0]at hx
     have HZ0:=Lib.hid hz0;clear hz0
     go_wp2
     go_roundw
     case rel=>
      refine ⟨k+1,by omega,by go_num,fun j hj=>?_,by first|rfl|trivial⟩
      rcases Nat.lt_or_ge j k with h|h
      ·exact HZ.out j h
      ·rw [show j=k by omega];exact HZ0.out
     case measure=>simp [intOf];omega
    ·have hp:decide ((0:Int)<wn (pk m k))=true:=by
      have h1:=wn_nonneg (pk m k)
      have h2:¬wn (pk m k)=0:=by rw [wn_eq_zero];exact hz0
      simp;omega
     have HZ0:=Lib.hid hz0;clear hz0
     go_wp2
     go_ret
     refine ⟨⟨false,rfl,?_⟩,rfl⟩
     simp
     apply Classical.byContradiction
     intro hne
     apply HZ0.out
     refine (pk_ext (fun j _=>?_)).symm
     cases hmj:m (64*k+j)
     ·simp
     ·exact absurd ⟨_,hmj⟩ hne
   ·have hkn:k=n:=by omega
    subst hkn
    go_wp2
    go_ret
    refine ⟨⟨true,rfl,?_⟩,rfl⟩
    simp
    intro i
    cases hmi:m i
    ·rfl
    ·exfalso
     have:=HZ.out (i/64) (HQ.out i hmi)
     have h2:=getLsbD_pk m (i/64) (i%64)
     rw [this]at h2
     have e3:64*(i/64)+i%64=i:=by omega
     rw [e3,hmi]at h2
     have e4:decide (i%64<64)=true:=by simp;omega
     rw [e4]at h2
     simp at h2
theorem any_c(b L:Nat)(v:Value)(m:Nat->Bool)(w:World)(h:BA w b v L m):
  Calls Tryz.prog 74 #[.pointer (some ⟨b,0,none⟩)] w fun e w'=>(∃r:Bool,e= .returned (.bool r)/\(r=false↔∀i,m i=false))/\w'=w:=by
 have H:=Lib.hid h;clear h
 go_enter Tryz.func74,Tryz.ntmps74
 go_wp2_with (first|(go_at_call 103;refine (panicIfNull_c _ _).mono ?_;rintro e w' ⟨rfl,rfl⟩)|(go_at_call 75;refine (none_c b L v m _ H.out).mono ?_;rintro e w' ⟨⟨r,rfl,hr⟩,rfl⟩))
 go_ret
 exact ⟨⟨_,rfl,by simpa using hr⟩,rfl⟩
end Go.Proofs.YtobdfhlmipcjbaaGreatDoor
