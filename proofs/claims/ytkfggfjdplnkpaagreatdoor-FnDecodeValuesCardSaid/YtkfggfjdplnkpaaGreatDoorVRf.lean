/- A part of the proof that the law FnDecodeValues returns true; its conditions are those of the last part. -/
import Derived.Test.YtkfggfjdplnkpaaGreatDoorVUOk
import Derived.Scope
set_option maxRecDepth 100000
set_option linter.unusedVariables false
set_option linter.unusedSimpArgs false
section
namespace Go.Proofs.YtkfggfjdplnkpaaGreatDoor
open Go.RowKit
theorem results_tmp7 {fn:Func} {a b c d x y z:Tmp} (h:fn.results=#[.tmp a,.tmp b,.tmp c,.tmp d,.tmp x,.tmp y,.tmp z]) (tmps:Array Value) (P:Program) (w:World) :
  (results fn tmps).run P w=.ok (.tuple #[tmps.getD a undef,tmps.getD b undef,tmps.getD c undef,tmps.getD d undef,tmps.getD x undef,tmps.getD y undef,tmps.getD z undef]) w:=by
 simp [results,h]
structure RS where
 i:Nat
 m:Int
 tr:Bool
 us:Bool
 sd:Bool
 sg:Bool
 nd:Nat
 nm:Nat
 dp:Int
def rfM (m b z:Int):Int:=IntKind.u64.wrap (IntKind.u64.wrap (m*b)+z)
def rf1 (hx:Bool) (b:Int) (mx:Nat) (s:ByteArray):Nat→RS→RS
 | 0,S=>S
 | k+1,S=>if S.i<s.size then
   if sb s S.i=95 then rf1 hx b mx s k ⟨S.i+1,S.m,S.tr,true,S.sd,S.sg,S.nd,S.nm,S.dp⟩
   else if sb s S.i=46 then (if S.sd=true then S else rf1 hx b mx s k ⟨S.i+1,S.m,S.tr,S.us,true,S.sg,S.nd,S.nm,(S.nd:Int)⟩)
   else if 48≤sb s S.i∧sb s S.i≤57 then
    (if sb s S.i=48∧S.nd=0 then rf1 hx b mx s k ⟨S.i+1,S.m,S.tr,S.us,S.sd,true,S.nd,S.nm,S.dp-1⟩
    else if S.nm<mx then rf1 hx b mx s k ⟨S.i+1,rfM S.m b ((sb s S.i:Int)-48),S.tr,S.us,S.sd,true,S.nd+1,S.nm+1,S.dp⟩
    else if sb s S.i=48 then rf1 hx b mx s k ⟨S.i+1,S.m,S.tr,S.us,S.sd,true,S.nd+1,S.nm,S.dp⟩
    else rf1 hx b mx s k ⟨S.i+1,S.m,true,S.us,S.sd,true,S.nd+1,S.nm,S.dp⟩)
   else if hx=true∧97≤low8 (sb s S.i)∧low8 (sb s S.i)≤102 then
    (if S.nm<mx then rf1 hx b mx s k ⟨S.i+1,rfM S.m 16 (low8 (sb s S.i)-87),S.tr,S.us,S.sd,true,S.nd+1,S.nm+1,S.dp⟩
    else rf1 hx b mx s k ⟨S.i+1,S.m,true,S.us,S.sd,true,S.nd+1,S.nm,S.dp⟩)
   else S
  else S
theorem rf1_succ (hx:Bool) (b:Int) (mx:Nat) (s:ByteArray) (k:Nat) (S:RS):rf1 hx b mx s (k+1) S=if S.i<s.size then
   if sb s S.i=95 then rf1 hx b mx s k ⟨S.i+1,S.m,S.tr,true,S.sd,S.sg,S.nd,S.nm,S.dp⟩
   else if sb s S.i=46 then (if S.sd=true then S else rf1 hx b mx s k ⟨S.i+1,S.m,S.tr,S.us,true,S.sg,S.nd,S.nm,(S.nd:Int)⟩)
   else if 48≤sb s S.i∧sb s S.i≤57 then
    (if sb s S.i=48∧S.nd=0 then rf1 hx b mx s k ⟨S.i+1,S.m,S.tr,S.us,S.sd,true,S.nd,S.nm,S.dp-1⟩
    else if S.nm<mx then rf1 hx b mx s k ⟨S.i+1,rfM S.m b ((sb s S.i:Int)-48),S.tr,S.us,S.sd,true,S.nd+1,S.nm+1,S.dp⟩
    else if sb s S.i=48 then rf1 hx b mx s k ⟨S.i+1,S.m,S.tr,S.us,S.sd,true,S.nd+1,S.nm,S.dp⟩
    else rf1 hx b mx s k ⟨S.i+1,S.m,true,S.us,S.sd,true,S.nd+1,S.nm,S.dp⟩)
   else if hx=true∧97≤low8 (sb s S.i)∧low8 (sb s S.i)≤102 then
    (if S.nm<mx then rf1 hx b mx s k ⟨S.i+1,rfM S.m 16 (low8 (sb s S.i)-87),S.tr,S.us,S.sd,true,S.nd+1,S.nm+1,S.dp⟩
    else rf1 hx b mx s k ⟨S.i+1,S.m,true,S.us,S.sd,true,S.nd+1,S.nm,S.dp⟩)
   else S
  else S:=rfl
structure RS.Inv (s:ByteArray) (S:RS):Prop where
 le:S.i≤s.size
 nd:S.nd≤S.i
 nm:S.nm≤S.nd
 lo:-(S.i:Int)≤S.dp
 hi:S.dp≤(S.i:Int)
 m0:0≤S.m
 m1:S.m≤18446744073709551615
theorem rfM_in (m b z:Int):0≤rfM m b z∧rfM m b z≤18446744073709551615:=by
 unfold rfM IntKind.wrap
 generalize IntKind.u64.wrap (m*b)+z=q
 have:IntKind.u64.bits=64:=rfl
 dsimp [IntKind.signed,IntKind.bits]
 omega
theorem RS.Inv.step {s:ByteArray} {S S':RS} (h:S.Inv s) (hi:S.i<s.size) (e:S'.i=S.i+1) (h1:S'.nd≤S.nd+1) (h2:S'.nm≤S'.nd)
  (h3:S'.dp=S.dp∨S'.dp=S.dp-1∨S'.dp=(S.nd:Int)) (h4:S'.m=S.m∨∃ m b z,S'.m=rfM m b z):S'.Inv s:=by
 obtain ⟨a1,a2,a3,a4,a5,a6,a7⟩:=h
 have h5:0≤S'.m∧S'.m≤18446744073709551615:=by
  rcases h4 with h4 | ⟨m,b,z,h4⟩
  ·rw [h4];exact ⟨a6,a7⟩
  ·rw [h4];exact rfM_in m b z
 exact ⟨by omega,by omega,h2,by rcases h3 with h3 | h3 | h3 <;> omega,by rcases h3 with h3 | h3 | h3 <;> omega,h5.1,h5.2⟩
theorem rf1_inv {hx:Bool} {b:Int} {mx:Nat} {s:ByteArray}:∀ (k:Nat) (S:RS),S.Inv s→(rf1 hx b mx s k S).Inv s
 | 0,S,h=>h
 | k+1,S,h=>by
  have hn:=h.nm
  rw [rf1_succ]
  split
  ·next hi=>
   split
   ·exact rf1_inv k _ (h.step hi rfl (Nat.le_succ _) hn (.inl rfl) (.inl rfl))
   ·split
    ·split
     ·exact h
     ·exact rf1_inv k _ (h.step hi rfl (Nat.le_succ _) hn (.inr (.inr rfl)) (.inl rfl))
    ·split
     ·split
      ·exact rf1_inv k _ (h.step hi rfl (Nat.le_succ _) hn (.inr (.inl rfl)) (.inl rfl))
      ·split
       ·exact rf1_inv k _ (h.step hi rfl (Nat.le_refl _) (Nat.succ_le_succ hn) (.inl rfl) (.inr ⟨_,_,_,rfl⟩))
       ·split
        ·exact rf1_inv k _ (h.step hi rfl (Nat.le_refl _) (Nat.le_succ_of_le hn) (.inl rfl) (.inl rfl))
        ·exact rf1_inv k _ (h.step hi rfl (Nat.le_refl _) (Nat.le_succ_of_le hn) (.inl rfl) (.inl rfl))
     ·split
      ·split
       ·exact rf1_inv k _ (h.step hi rfl (Nat.le_refl _) (Nat.succ_le_succ hn) (.inl rfl) (.inr ⟨_,_,_,rfl⟩))
       ·exact rf1_inv k _ (h.step hi rfl (Nat.le_refl _) (Nat.le_succ_of_le hn) (.inl rfl) (.inl rfl))
      ·exact h
  ·exact h
theorem rf1_end {hx:Bool} {b:Int} {mx:Nat} {s:ByteArray} {k:Nat} {S:RS} (h:¬S.i<s.size):rf1 hx b mx s k S=S:=by
 cases k with
 | zero=>rfl
 | succ m=>rw [rf1_succ,if_neg h]
structure RO where
 m:Int
 x:Int
 ng:Bool
 tr:Bool
 hx:Bool
 i:Nat
 ok:Bool
def ex3 (s:ByteArray):Nat→Nat→Int→Bool→Nat × Int × Bool
 | 0,i,e,u=>(i,e,u)
 | k+1,i,e,u=>if i<s.size∧(48≤sb s i∧sb s i≤57∨sb s i=95) then
   (if sb s i=95 then ex3 s k (i+1) e true else if e<10000 then ex3 s k (i+1) (e*10+(sb s i:Int)-48) u else ex3 s k (i+1) e u) else (i,e,u)
theorem ex3_succ (s:ByteArray) (k i:Nat) (e:Int) (u:Bool):ex3 s (k+1) i e u=if i<s.size∧(48≤sb s i∧sb s i≤57∨sb s i=95) then
   (if sb s i=95 then ex3 s k (i+1) e true else if e<10000 then ex3 s k (i+1) (e*10+(sb s i:Int)-48) u else ex3 s k (i+1) e u) else (i,e,u):=rfl
theorem ex3_stop {s:ByteArray} {k i:Nat} {e:Int} {u:Bool} (h:¬(i<s.size∧(48≤sb s i∧sb s i≤57∨sb s i=95))):ex3 s k i e u=(i,e,u):=by
 cases k with
 | zero=>rfl
 | succ m=>rw [ex3_succ,if_neg h]
theorem ex3_ok {s:ByteArray}:∀ (k i:Nat) (e:Int) (u:Bool),i≤s.size→0≤e→e≤200000→(ex3 s k i e u).1≤s.size∧0≤(ex3 s k i e u).2.1∧(ex3 s k i e u).2.1≤200000
 | 0,i,e,u,h,h1,h2=>⟨h,h1,h2⟩
 | k+1,i,e,u,h,h1,h2=>by
  rw [ex3_succ]
  split
  ·next hc=>
   split
   ·exact ex3_ok k _ _ _ (by omega) h1 h2
   ·split
    ·exact ex3_ok k _ _ _ (by omega) (by omega) (by omega)
    ·exact ex3_ok k _ _ _ (by omega) h1 h2
  ·exact ⟨h,h1,h2⟩
def rfX (m dp:Int) (nm:Int):Int:=if m=0 then 0 else dp-nm
def rfFin (s:ByteArray) (ng hx:Bool) (m:Int) (tr:Bool) (nm dp:Int) (i:Nat) (us:Bool):RO:=
 ⟨m,rfX m dp nm,ng,tr,hx,i,if us=true then uOk (s.extract 0 i) else true⟩
def rfBad (ng hx:Bool) (m:Int) (tr:Bool) (i:Nat):RO:=⟨m,0,ng,tr,hx,i,false⟩
def rfEx (s:ByteArray) (ng hx:Bool) (m:Int) (tr:Bool) (nm dp:Int) (us:Bool) (j:Nat):RO:=
 if s.size≤j then rfBad ng hx m tr j else
 if s.size≤sgI s j∨sb s (sgI s j)<48∨57<sb s (sgI s j) then rfBad ng hx m tr (sgI s j) else
 rfFin s ng hx m tr nm (dp+sgZ (sgN s j) (ex3 s s.size (sgI s j) 0 us).2.1) (ex3 s s.size (sgI s j) 0 us).1 (ex3 s s.size (sgI s j) 0 us).2.2
def rfEnd (s:ByteArray) (ng hx:Bool) (ec:Int) (m:Int) (tr:Bool) (nm dp:Int) (us:Bool) (i:Nat):RO:=
 if i<s.size∧low8 (sb s i)=ec then rfEx s ng hx m tr nm dp us (i+1)
 else if hx=true then rfBad ng hx m tr i else rfFin s ng hx m tr nm dp i us
def rfDp (F:RS):Int:=if F.sd=true then F.dp else (F.nd:Int)
def x4 (hx:Bool) (n:Int):Int:=if hx=true then n*4 else n
def rfL (s:ByteArray) (ng hx:Bool) (ec:Int) (F:RS):RO:=
 if F.sg=true then rfEnd s ng hx ec F.m F.tr (x4 hx (F.nm:Int)) (x4 hx (rfDp F)) F.us F.i else rfBad ng hx F.m F.tr F.i
def rfHex (s:ByteArray) (i:Nat):Bool:=decide (i+2<s.size∧sb s i=48∧low8 (sb s (i+1))=120)
def rfI (s:ByteArray) (i:Nat):Nat:=if rfHex s i=true then i+2 else i
def rfB (hx:Bool):Int:=if hx=true then 16 else 10
def rfMx (hx:Bool):Nat:=if hx=true then 16 else 19
def rfC (hx:Bool):Int:=if hx=true then 112 else 101
def rfS0 (i:Nat):RS:=⟨i,0,false,false,false,false,0,0,0⟩
def rfR (s:ByteArray):RO:=
 if s.size=0 then rfBad false false 0 false 0 else
 rfL s (sgN s 0) (rfHex s (sgI s 0)) (rfC (rfHex s (sgI s 0))) (rf1 (rfHex s (sgI s 0)) (rfB (rfHex s (sgI s 0))) (rfMx (rfHex s (sgI s 0))) s s.size (rfS0 (rfI s (sgI s 0))))
def RO.Good (s:ByteArray) (R:RO):Prop:=R.i≤s.size∧0≤R.m∧R.m≤18446744073709551615∧-300000≤R.x∧R.x≤300000
theorem x4_in {hx:Bool} {n:Int} (h:-800≤n∧n≤800):-3200≤x4 hx n∧x4 hx n≤3200:=by unfold x4; split <;> omega
theorem rfDp_in {s:ByteArray} {F:RS} (hs:s.size≤800) (h:F.Inv s):-800≤rfDp F∧rfDp F≤800:=by
 have:=h.le;have:=h.lo;have:=h.hi;have:=h.nd
 unfold rfDp; split <;> omega
theorem rfX_in {m dp nm:Int} (h:-210000≤dp∧dp≤210000) (h2:0≤nm∧nm≤3200):-300000≤rfX m dp nm∧rfX m dp nm≤300000:=by unfold rfX; split <;> omega
theorem rfI_le {s:ByteArray} {i:Nat} (h:i≤s.size):rfI s i≤s.size:=by
 unfold rfI
 split
 ·next h2=>have:=(of_decide_eq_true h2).1;omega
 ·exact h
theorem rfS0_inv {s:ByteArray} {i:Nat} (h:i≤s.size):(rfS0 i).Inv s:=⟨h,Nat.zero_le _,Nat.le_refl _,by show -(i:Int)≤0;omega,by show (0:Int)≤(i:Int);omega,Int.le_refl _,by show (0:Int)≤_;decide⟩
theorem rfR_good {s:ByteArray} (hs:s.size≤800):(rfR s).Good s:=by
 unfold rfR
 split
 ·exact ⟨Nat.zero_le _,Int.le_refl _,by show (0:Int)≤_;decide,by show -300000≤(0:Int);decide,by show (0:Int)≤300000;decide⟩
 ·next h0=>
  have h1:=sgI_le (s:=s) (j:=0) (by omega)
  generalize rfHex s (sgI s 0)=hx
  have hF:=rf1_inv (hx:=hx) (b:=rfB hx) (mx:=rfMx hx) (s:=s) s.size _ (rfS0_inv (rfI_le h1.1))
  generalize rf1 hx (rfB hx) (rfMx hx) s s.size (rfS0 (rfI s (sgI s 0)))=F at hF
  have hbad:∀ j,j≤s.size→(rfBad (sgN s 0) hx F.m F.tr j).Good s:=fun j hj=>⟨hj,hF.m0,hF.m1,by show -300000≤(0:Int);decide,by show (0:Int)≤300000;decide⟩
  have hnm:0≤x4 hx (F.nm:Int)∧x4 hx (F.nm:Int)≤3200:=by
   have:=hF.le;have:=hF.nd;have:=hF.nm
   unfold x4; split <;> omega
  have hdp:=x4_in (hx:=hx) (rfDp_in hs hF)
  have hfin:∀ dp i us,-210000≤dp∧dp≤210000→i≤s.size→(rfFin s (sgN s 0) hx F.m F.tr (x4 hx (F.nm:Int)) dp i us).Good s:=
   fun dp i us hd hi=>⟨hi,hF.m0,hF.m1,(rfX_in hd hnm).1,(rfX_in hd hnm).2⟩
  unfold rfL
  split
  ·unfold rfEnd
   split
   ·next hc=>
    unfold rfEx
    split
    ·exact hbad _ hc.1
    ·next h2=>
     have h3:=sgI_le (s:=s) (j:=F.i+1) (by omega)
     split
     ·exact hbad _ h3.1
     ·have h4:=ex3_ok (s:=s) s.size (sgI s (F.i+1)) 0 F.us h3.1 (by omega) (by omega)
      refine hfin _ _ _ ?_ h4.1
      generalize ex3 s s.size (sgI s (F.i+1)) 0 F.us=q at h4
      unfold sgZ
      split <;> omega
   ·split
    ·exact hbad _ hF.le
    ·exact hfin _ _ _ (by omega) hF.le
  ·exact hbad _ hF.le
def RfPost (w:World) (R:RO) (e:Ending) (w':World):Prop:=
 e=.returned (.tuple #[.int .u64 R.m,.int .i64 R.x,.bool R.ng,.bool R.tr,.bool R.hx,.int .i64 (R.i:Int),.bool R.ok])∧w'=w
set_option maxHeartbeats 32000000 in
theorem rf_spec {s:ByteArray} (hs:s.size≤800) (w:World):Calls Tryz.prog 173 #[.string s] w (RfPost w (rfR s)):=by
 obtain ⟨R,hR⟩:∃ R,rfR s=R:=⟨_,rfl⟩
 rw [hR]
 have HR:=Lib.hid hR
 clear hR
 go_enter Tryz.func173,Tryz.ntmps173
 go_wp2_with fail
 apply wp_scope_straight
 by_cases h0:s.size=0
 ·have HE:Hid (R=rfBad false false 0 false 0):=Lib.hid (by rw [←HR.out];unfold rfR;rw [if_pos h0])
  have b1:(s.size:Int)≤0:=by omega
  go_wp2
  try rw [Exit.noGoto_ret]
  refine bodyPost_ret (results_tmp7 rfl _ _ _) rfl ?_
  exact ⟨by rw [HE.out];rfl,rfl⟩
 ·obtain ⟨hx,hhx⟩:∃ b,rfHex s (sgI s 0)=b:=⟨_,rfl⟩
  obtain ⟨ng,hng⟩:∃ b,sgN s 0=b:=⟨_,rfl⟩
  have hrr:rfL s (sgN s 0) (rfHex s (sgI s 0)) (rfC (rfHex s (sgI s 0))) (rf1 (rfHex s (sgI s 0)) (rfB (rfHex s (sgI s 0))) (rfMx (rfHex s (sgI s 0))) s s.size (rfS0 (rfI s (sgI s 0))))=R:=by
   rw [←HR.out];unfold rfR;rw [if_neg h0]
  obtain ⟨i1,hi1⟩:∃ i,sgI s 0=i:=⟨_,rfl⟩
  have hil:=(sgI_le (s:=s) (j:=0) (by omega)).1
  rw [hi1] at hil hrr hhx
  rw [hhx,hng] at hrr
  have hpos:0<s.size:=by omega
  have b1:decide ((s.size:Int)≤0)=false:=decide_eq_false (by omega)
  have b1n:decide (s.size≤0)=false:=decide_eq_false (by omega)
  have bne:=not_empty hpos
  have qn0:(0<s.size)=True:=eq_true hpos
  have qi0:((0:Int)<(s.size:Int))=True:=eq_true (by omega)
  have hx0:∀ h:0<s.size,((s[0]'h).toNat:Int)=(sb s 0:Int):=sb_at s 0 0 rfl
  obtain ⟨y0,hy0⟩:∃ y,sb s 0=y:=⟨_,rfl⟩
  rw [hy0] at hx0
  have HR2:=Lib.hid hrr
  have H1:=Lib.hid (And.intro hi1 (And.intro hng hy0))
  have H2:=Lib.hid (And.intro hil hpos)
  have HHX:=Lib.hid hhx
  clear h0 hrr hi1 hng hy0 hil hpos hhx
  go_upto_block 0 with fail
  go_cut [4,7] from 28 to 35 (fun v4 v7 wx=>v4=.bool ng∧v7=.int .i64 (i1:Int)∧wx=w)
  case first=>
   by_cases t1:y0=43
   ·have u1:(y0:Int)=43:=by omega
    have HQ:Hid (i1=1∧ng=false):=Lib.hid (by
     obtain ⟨h1,h2,h3⟩:=H1.out
     have hq:=sg_one (h3.trans t1)
     rw [hq.1] at h1;rw [hq.2] at h2
     exact ⟨h1.symm,h2.symm⟩)
    clear t1
    go_wp2
    go_meet
    rw [HQ.out.1,HQ.out.2]
    exact ⟨rfl,rfl,rfl⟩
   ·have u1:¬(y0:Int)=43:=by omega
    by_cases t2:y0=45
    ·have u2:(y0:Int)=45:=by omega
     have HQ:Hid (i1=1∧ng=true):=Lib.hid (by
      obtain ⟨h1,h2,h3⟩:=H1.out
      have hq:=sg_two (by rw [h3];exact t1) (h3.trans t2)
      rw [hq.1] at h1;rw [hq.2] at h2
      exact ⟨h1.symm,h2.symm⟩)
     clear t1 t2
     go_wp2
     go_meet
     rw [HQ.out.1,HQ.out.2]
     exact ⟨rfl,rfl,rfl⟩
    ·have u2:¬(y0:Int)=45:=by omega
     have HQ:Hid (i1=0∧ng=false):=Lib.hid (by
      obtain ⟨h1,h2,h3⟩:=H1.out
      have hq:=sg_three (s:=s) (j:=0) (by rw [h3];exact t1) (by rw [h3];exact t2)
      rw [hq.1] at h1;rw [hq.2] at h2
      exact ⟨h1.symm,h2.symm⟩)
     clear t1 t2
     go_wp2
     go_meet
     rw [HQ.out.1,HQ.out.2]
     exact ⟨rfl,rfl,rfl⟩
  case rest=>
   obtain ⟨rfl,rfl,rfl⟩:=hcut
   clear hx0 qn0 qi0 b1 b1n bne
   obtain ⟨x1,hx1⟩:∃ x:Int,x=(i1:Int):=⟨_,rfl⟩
   rw [←hx1]
   have hil:=H2.out.1
   have HX1:=Lib.hid hx1
   have W2:IntKind.i64.wrap (x1+2)=x1+2:=IntWalk.i64_in _ (by omega)
   have W1:IntKind.i64.wrap (x1+1)=x1+1:=IntWalk.i64_in _ (by omega)
   go_upto_region 12 with fail
   go_cut [54] from 36 to 54 (fun v54 wx=>v54=.bool hx∧wx=wc)
   case first=>
    by_cases t1:i1+2<s.size
    ·have q2:(x1+2<(s.size:Int))=True:=eq_true (by omega)
     have q1:(x1<(s.size:Int))=True:=eq_true (by omega)
     have q0:(0≤x1)=True:=eq_true (by omega)
     have hb:=sb_at s i1 x1 hx1
     obtain ⟨x2,hx2⟩:∃ x,x1+1=x:=⟨_,rfl⟩
     rw [hx2] at W1
     have hb2:=sb_at s (i1+1) x2 (by omega)
     have r1:(x2<(s.size:Int))=True:=eq_true (by omega)
     have r0:(0≤x2)=True:=eq_true (by omega)
     have HLOW:=Lib.hid (low_spec (sb s (i1+1)))
     have he:hx=decide (sb s i1=48∧low8 (sb s (i1+1))=120):=by rw [←HHX.out];exact decide_eq_decide.2 ⟨fun h=>h.2,fun h=>⟨t1,h⟩⟩
     obtain ⟨y,hy⟩:∃ y,sb s i1=y:=⟨_,rfl⟩
     obtain ⟨y2,hy2⟩:∃ y,sb s (i1+1)=y:=⟨_,rfl⟩
     obtain ⟨L,hL⟩:∃ L,low8 (sb s (i1+1))=L:=⟨_,rfl⟩
     rw [hL] at he HLOW
     rw [hy] at he hb
     rw [hy2] at hb2 HLOW
     have HHE:=Lib.hid he
     clear hx1 hy hy2 hL t1 hil he
     by_cases t2:y=48
     ·have u2:(y:Int)=48:=by omega
      go_wp2_with fail
      refine (HLOW.out _).mono ?_
      rintro ex w2 ⟨rfl,rfl⟩
      have HE0:Hid (hx=decide (L=120)):=Lib.hid (HHE.out.trans (decide_eq_decide.2 ⟨fun h=>h.2,fun h=>⟨t2,h⟩⟩))
      go_wp2_with fail
      go_meet
      exact ⟨by rw [HE0.out]; exact congrArg _ (by by_cases h:L=120 <;> simp [h]),rfl⟩
     ·have u2:¬(y:Int)=48:=by omega
      have HE0:Hid (hx=false):=Lib.hid (HHE.out.trans (decide_eq_false (fun h=>t2 h.1)))
      clear HLOW t2
      go_wp2
      go_meet
      exact ⟨by rw [HE0.out],rfl⟩
    ·have q2:(x1+2<(s.size:Int))=False:=eq_false (by omega)
     have HE0:Hid (hx=false):=Lib.hid (HHX.out.symm.trans (decide_eq_false (fun h=>t1 h.1)))
     clear t1 hx1
     go_wp2
     go_meet
     exact ⟨by rw [HE0.out],rfl⟩
   case rest=>
    obtain ⟨rfl,rfl⟩:=hcut
    obtain ⟨i0,hi0⟩:∃ i,rfI s i1=i:=⟨_,rfl⟩
    obtain ⟨b,hb⟩:∃ b,rfB hx=b:=⟨_,rfl⟩
    obtain ⟨mx,hmx⟩:∃ b,rfMx hx=b:=⟨_,rfl⟩
    obtain ⟨ec,hec⟩:∃ b,rfC hx=b:=⟨_,rfl⟩
    have hil0:=rfI_le hil
    have HE:=Lib.hid (And.intro hi0 (And.intro hb (And.intro hmx hec)))
    rw [hi0] at hil0
    rw [hi0,hb,hmx,hec] at HR2
    clear hi0 hb hmx hec hil
    go_upto_if 54 with fail
    go_cut [6,7,10,11,12] from 54 to 56 (fun v6 v7 v10 v11 v12 wx=>v6=.bool hx∧v7=.int .i64 (i0:Int)∧v10=.int .u64 b∧v11=.int .i64 (mx:Int)∧v12=.int .u8 ec∧wx=wc)
    case first=>
     cases hx with
     | true=>
      have HE0:Hid (i0=i1+2∧b=16∧mx=16∧ec=112):=Lib.hid (by
       obtain ⟨h1,h2,h3,h4⟩:=HE.out
       exact ⟨by rw [←h1];unfold rfI;rw [HHX.out];exact if_pos rfl,h2.symm,h3.symm,h4.symm⟩)
      clear hx1
      go_wp2
      go_meet
      rw [HE0.out.2.1,HE0.out.2.2.1,HE0.out.2.2.2]
      exact ⟨rfl,congrArg _ (by have:=HE0.out.1;have:=HX1.out;omega),rfl,rfl,rfl,rfl⟩
     | false=>
      have HE0:Hid (i0=i1∧b=10∧mx=19∧ec=101):=Lib.hid (by
       obtain ⟨h1,h2,h3,h4⟩:=HE.out
       exact ⟨by rw [←h1];unfold rfI;rw [HHX.out];exact if_neg (fun h=>by cases h),h2.symm,h3.symm,h4.symm⟩)
      clear hx1
      go_wp2
      go_meet
      rw [HE0.out.2.1,HE0.out.2.2.1,HE0.out.2.2.2]
      exact ⟨rfl,congrArg _ (by have:=HE0.out.1;have:=HX1.out;omega),rfl,rfl,rfl,rfl⟩
    case rest=>
     obtain ⟨rfl,rfl,rfl,rfl,rfl,rfl⟩:=hcut
     clear W1 W2 hx1
     have HB:Hid ((b=16→hx=true)∧(hx=true→b=16)∧(hx=false→b=10)):=Lib.hid (by
      have h2:=HE.out.2.1
      cases hx with
      | true=>exact ⟨fun _=>rfl,fun _=>h2.symm,fun h=>by cases h⟩
      | false=>
       have h3:(10:Int)=b:=h2
       exact ⟨fun h=>by omega,fun h=>(by cases h),fun _=>h3.symm⟩)
     obtain ⟨F,hF⟩:∃ F,rf1 hx b mx s s.size (rfS0 i0)=F:=⟨_,rfl⟩
     rw [hF] at HR2
     have HF:=Lib.hid hF
     have HS0:=Lib.hid (rfS0_inv hil0)
     have hFI:F.Inv s:=by rw [←hF];exact rf1_inv _ _ HS0.out
     have HFI:=Lib.hid hFI
     clear hF hFI hil0
     go_upto_block 1 with fail
     apply wp_label
     go_upto_block 1 with fail
     go_cut [2,5,7,9,13,14,15,16,17] from 57 to 138 (fun v2 v5 v7 v9 v13 v14 v15 v16 v17 wx=>v2=.int .u64 F.m∧v5=.bool F.tr∧v7=.int .i64 (F.i:Int)∧v9=.bool F.us∧v13=.bool F.sd∧v14=.bool F.sg∧v15=.int .i64 (F.nd:Int)∧v16=.int .i64 (F.nm:Int)∧v17=.int .i64 F.dp∧wx=wc)
     case first=>
      go_wp2_with fail
      go_loopg [2,5,7,9,13,14,15,16,17] s.size (fun mq v2 v5 v7 v9 v13 v14 v15 v16 v17 wr=>∃ (S:RS) (x:Int),v2=.int .u64 S.m∧v5=.bool S.tr∧v7=.int .i64 x∧v9=.bool S.us∧v13=.bool S.sd∧v14=.bool S.sg∧v15=.int .i64 (S.nd:Int)∧v16=.int .i64 (S.nm:Int)∧v17=.int .i64 S.dp∧x=(S.i:Int)∧s.size≤S.i+mq∧rf1 hx b mx s mq S=F∧wr=wc∧S.Inv s)
      case atStart=>exact ⟨rfS0 i0,_,rfl,rfl,rfl,rfl,rfl,rfl,rfl,rfl,rfl,rfl,by show s.size≤i0+s.size;omega,HF.out,rfl,HS0.out⟩
      case round=>
       obtain ⟨⟨i,m,tr,us,sd,sg,nd,nm,dp⟩,x,rfl,rfl,rfl,rfl,rfl,rfl,rfl,rfl,rfl,hnx,hm,hr,rfl,hI⟩:=hrel
       dsimp only at hnx hm
       have HI:=Lib.hid hI
       obtain ⟨j1,j2,j3,j4,j5,j6,j7⟩:=hI
       dsimp only at j1 j2 j3 j4 j5 j6 j7
       have HR:=Lib.hid hr
       have WP:IntKind.i64.wrap (dp-1)=dp-1:=IntWalk.i64_in _ (by omega)
       have WX:IntKind.i64.wrap (x+1)=x+1:=IntWalk.i64_in _ (by omega)
       have WN:IntKind.i64.wrap ((nd:Int)+1)=(nd:Int)+1:=IntWalk.i64_in _ (by omega)
       have WM:IntKind.i64.wrap ((nm:Int)+1)=(nm:Int)+1:=IntWalk.i64_in _ (by omega)
       have HM:=Lib.hid (And.intro hnx hm)
       clear hr j2 j3 j4 j5 j6 j7
       by_cases hi:i<s.size
       ·cases gk with
        | zero=>omega
        | succ k=>
         have hb:=sb_at s i x hnx
         have hlt:=sb_lt s i
         obtain ⟨y,hy⟩:∃ y,sb s i=y:=⟨_,rfl⟩
         rw [hy] at hb hlt
         have q1:(x<(s.size:Int))=True:=eq_true (by omega)
         have q0:(0≤x)=True:=eq_true (by omega)
         have HL:=Lib.hid (And.intro hi hy)
         have HLOW:=Lib.hid (low_spec y)
         obtain ⟨L,hL⟩:∃ L,low8 y=L:=⟨_,rfl⟩
         rw [hL] at HLOW
         have HLL:=Lib.hid hL
         clear hm j1 hi hy hL
         by_cases y1:y=95
         ·have z1:(y:Int)=95:=by omega
          have HE:Hid (rf1 hx b mx s k ⟨i+1,m,tr,true,sd,sg,nd,nm,dp⟩=F):=Lib.hid (by
           have:=HR.out
           rw [rf1_succ,if_pos HL.out.1,if_pos (by rw [HL.out.2];exact y1)] at this
           exact this)
          clear y1 hnx
          go_wp2
          go_roundg k
          case measure=>omega
          case rel=>exact ⟨⟨i+1,m,tr,true,sd,sg,nd,nm,dp⟩,x+1,rfl,rfl,rfl,rfl,rfl,rfl,rfl,rfl,rfl,by have:=HM.out;show x+1=((i+1:Nat):Int);omega,by have:=HM.out;show s.size≤i+1+k;omega,HE.out,rfl,HI.out.step HL.out.1 rfl (Nat.le_succ _) (HI.out.nm) (.inl rfl) (.inl rfl)⟩
         ·have z1:¬(y:Int)=95:=by omega
          by_cases y2:y=46
          ·have z2:(y:Int)=46:=by omega
           cases sd with
           | true=>
            have HE:Hid ((⟨i,m,tr,us,true,sg,nd,nm,dp⟩:RS)=F):=Lib.hid (by
             have:=HR.out
             rw [rf1_succ,if_pos HL.out.1,if_neg (by rw [HL.out.2];exact y1),if_pos (by rw [HL.out.2];exact y2),if_pos rfl] at this
             exact this)
            clear y1 y2 hnx
            go_wp2
            go_meet
            rw [←HE.out]
            exact ⟨rfl,rfl,by rw [HM.out.1],rfl,rfl,rfl,rfl,rfl,rfl,rfl⟩
           | false=>
            have HE:Hid (rf1 hx b mx s k ⟨i+1,m,tr,us,true,sg,nd,nm,(nd:Int)⟩=F):=Lib.hid (by
             have:=HR.out
             rw [rf1_succ,if_pos HL.out.1,if_neg (by rw [HL.out.2];exact y1),if_pos (by rw [HL.out.2];exact y2),if_neg (fun h=>by cases h)] at this
             exact this)
            clear y1 y2 hnx
            go_wp2
            go_roundg k
            case measure=>omega
            case rel=>exact ⟨⟨i+1,m,tr,us,true,sg,nd,nm,(nd:Int)⟩,x+1,rfl,rfl,rfl,rfl,rfl,rfl,rfl,rfl,rfl,by have:=HM.out;show x+1=((i+1:Nat):Int);omega,by have:=HM.out;show s.size≤i+1+k;omega,HE.out,rfl,HI.out.step HL.out.1 rfl (Nat.le_succ _) (HI.out.nm) (.inr (.inr rfl)) (.inl rfl)⟩
          ·have z2:¬(y:Int)=46:=by omega
           by_cases y3:48≤y∧y≤57
           ·have z3:(48:Int)≤(y:Int):=by omega
            have z4:(y:Int)≤57:=by omega
            by_cases y5:y=48∧nd=0
            ·obtain ⟨y5,rfl⟩:=y5
             have z5:(y:Int)=48:=by omega
             have HE:Hid (rf1 hx b mx s k ⟨i+1,m,tr,us,sd,true,0,nm,dp-1⟩=F):=Lib.hid (by
              have:=HR.out
              rw [rf1_succ,if_pos HL.out.1,if_neg (by rw [HL.out.2];exact y1),if_neg (by rw [HL.out.2];exact y2),if_pos (by rw [HL.out.2];exact y3),if_pos ⟨HL.out.2.trans y5,rfl⟩] at this
              exact this)
             clear y1 y2 y3 y5 hnx
             go_wp2
             go_roundg k
             case measure=>omega
             case rel=>exact ⟨⟨i+1,m,tr,us,sd,true,0,nm,dp-1⟩,x+1,rfl,rfl,rfl,rfl,rfl,rfl,rfl,rfl,rfl,by have:=HM.out;show x+1=((i+1:Nat):Int);omega,by have:=HM.out;show s.size≤i+1+k;omega,HE.out,rfl,HI.out.step HL.out.1 rfl (Nat.le_succ _) (HI.out.nm) (.inr (.inl rfl)) (.inl rfl)⟩
            ·have WZ:IntKind.u8.wrap ((y:Int)-48)=(y:Int)-48:=IntWalk.u8_in _ (by omega)
             have WZ2:IntKind.u64.wrap ((y:Int)-48)=(y:Int)-48:=IntWalk.u64_in _ (by omega)
             by_cases y6:y=48
             ·have z6:¬(nd:Int)=0:=by omega
              have z5:(y:Int)=48:=by omega
              by_cases w1:nm<mx
              ·have w1':(nm:Int)<(mx:Int):=by omega
               have HW1:=Lib.hid w1
               have HY6:=Lib.hid y6
               have HE:Hid (rf1 hx b mx s k ⟨i+1,rfM m b ((y:Int)-48),tr,us,sd,true,nd+1,nm+1,dp⟩=F):=Lib.hid (by
                have:=HR.out
                rw [rf1_succ,if_pos HL.out.1,if_neg (by rw [HL.out.2];exact y1),if_neg (by rw [HL.out.2];exact y2),if_pos (by rw [HL.out.2];exact y3),if_neg (by rw [HL.out.2];exact y5),if_pos w1,HL.out.2] at this
                exact this)
               clear y1 y2 y3 y5 y6 w1 hnx
               go_wp2
               go_roundg k
               case measure=>omega
               case rel=>exact ⟨⟨i+1,rfM m b ((y:Int)-48),tr,us,sd,true,nd+1,nm+1,dp⟩,x+1,(by have e0:(y:Int)-48=0:=(by have:=HY6.out;omega);show Value.int .u64 _=.int .u64 (rfM m b ((y:Int)-48));rw [e0];unfold rfM;rw [Int.add_zero]),rfl,rfl,rfl,rfl,rfl,rfl,rfl,rfl,by have:=HM.out;show x+1=((i+1:Nat):Int);omega,by have:=HM.out;show s.size≤i+1+k;omega,HE.out,rfl,HI.out.step HL.out.1 rfl (Nat.le_refl _) (Nat.succ_le_succ HI.out.nm) (.inl rfl) (.inr ⟨_,_,_,rfl⟩)⟩
              ·have w1':¬(nm:Int)<(mx:Int):=by omega
               have HE:Hid (rf1 hx b mx s k ⟨i+1,m,tr,us,sd,true,nd+1,nm,dp⟩=F):=Lib.hid (by
                have:=HR.out
                rw [rf1_succ,if_pos HL.out.1,if_neg (by rw [HL.out.2];exact y1),if_neg (by rw [HL.out.2];exact y2),if_pos (by rw [HL.out.2];exact y3),if_neg (by rw [HL.out.2];exact y5),if_neg w1,if_pos (by rw [HL.out.2];exact y6)] at this
                exact this)
               clear y1 y2 y3 y5 y6 w1 hnx
               go_wp2
               go_roundg k
               case measure=>omega
               case rel=>exact ⟨⟨i+1,m,tr,us,sd,true,nd+1,nm,dp⟩,x+1,rfl,rfl,rfl,rfl,rfl,rfl,rfl,rfl,rfl,by have:=HM.out;show x+1=((i+1:Nat):Int);omega,by have:=HM.out;show s.size≤i+1+k;omega,HE.out,rfl,HI.out.step HL.out.1 rfl (Nat.le_refl _) (Nat.le_succ_of_le HI.out.nm) (.inl rfl) (.inl rfl)⟩
             ·have z5:¬(y:Int)=48:=by omega
              by_cases w1:nm<mx
              ·have w1':(nm:Int)<(mx:Int):=by omega
               have HW1:=Lib.hid w1
               have HE:Hid (rf1 hx b mx s k ⟨i+1,rfM m b ((y:Int)-48),tr,us,sd,true,nd+1,nm+1,dp⟩=F):=Lib.hid (by
                have:=HR.out
                rw [rf1_succ,if_pos HL.out.1,if_neg (by rw [HL.out.2];exact y1),if_neg (by rw [HL.out.2];exact y2),if_pos (by rw [HL.out.2];exact y3),if_neg (by rw [HL.out.2];exact y5),if_pos w1,HL.out.2] at this
                exact this)
               clear y1 y2 y3 y5 y6 w1 hnx
               go_wp2
               go_roundg k
               case measure=>omega
               case rel=>exact ⟨⟨i+1,rfM m b ((y:Int)-48),tr,us,sd,true,nd+1,nm+1,dp⟩,x+1,rfl,rfl,rfl,rfl,rfl,rfl,rfl,rfl,rfl,by have:=HM.out;show x+1=((i+1:Nat):Int);omega,by have:=HM.out;show s.size≤i+1+k;omega,HE.out,rfl,HI.out.step HL.out.1 rfl (Nat.le_refl _) (Nat.succ_le_succ HI.out.nm) (.inl rfl) (.inr ⟨_,_,_,rfl⟩)⟩
              ·have w1':¬(nm:Int)<(mx:Int):=by omega
               have HE:Hid (rf1 hx b mx s k ⟨i+1,m,true,us,sd,true,nd+1,nm,dp⟩=F):=Lib.hid (by
                have:=HR.out
                rw [rf1_succ,if_pos HL.out.1,if_neg (by rw [HL.out.2];exact y1),if_neg (by rw [HL.out.2];exact y2),if_pos (by rw [HL.out.2];exact y3),if_neg (by rw [HL.out.2];exact y5),if_neg w1,if_neg (by rw [HL.out.2];exact y6)] at this
                exact this)
               clear y1 y2 y3 y5 y6 w1 hnx
               go_wp2
               go_roundg k
               case measure=>omega
               case rel=>exact ⟨⟨i+1,m,true,us,sd,true,nd+1,nm,dp⟩,x+1,rfl,rfl,rfl,rfl,rfl,rfl,rfl,rfl,rfl,by have:=HM.out;show x+1=((i+1:Nat):Int);omega,by have:=HM.out;show s.size≤i+1+k;omega,HE.out,rfl,HI.out.step HL.out.1 rfl (Nat.le_refl _) (Nat.le_succ_of_le HI.out.nm) (.inl rfl) (.inl rfl)⟩
           ·by_cases y4:48≤y
            ·have z3:(48:Int)≤(y:Int):=by omega
             have z4:¬(y:Int)≤57:=by omega
             by_cases hb16:b=16
             ·have HHX:Hid (hx=true):=Lib.hid (HB.out.1 hb16)
              subst hb16
              by_cases l1:97≤L
              ·by_cases l2:L≤102
               ·have WL1:IntKind.u8.wrap (L-97)=L-97:=IntWalk.u8_in _ (by omega)
                have WL2:IntKind.u8.wrap (L-97+10)=L-97+10:=IntWalk.u8_in _ (by omega)
                have WL3:IntKind.u64.wrap (L-97+10)=L-97+10:=IntWalk.u64_in _ (by omega)
                have HL12:=Lib.hid (And.intro l1 l2)
                by_cases w1:nm<mx
                ·have w1':(nm:Int)<(mx:Int):=by omega
                 have HE:Hid (rf1 hx 16 mx s k ⟨i+1,rfM m 16 (L-87),tr,us,sd,true,nd+1,nm+1,dp⟩=F):=Lib.hid (by
                  have:=HR.out
                  rw [rf1_succ,if_pos HL.out.1,if_neg (by rw [HL.out.2];exact y1),if_neg (by rw [HL.out.2];exact y2),if_neg (by rw [HL.out.2];exact y3),if_pos (by rw [HL.out.2,HLL.out];exact ⟨HHX.out,l1,l2⟩),if_pos w1,HL.out.2,HLL.out] at this
                  exact this)
                 clear y1 y2 y3 y4 w1 hnx
                 go_wp2_with fail
                 refine (HLOW.out _).mono ?_
                 rintro ex w2 ⟨rfl,rfl⟩
                 go_wp2_with fail
                 refine (HLOW.out _).mono ?_
                 rintro ex w2 ⟨rfl,rfl⟩
                 go_wp2_with fail
                 refine (HLOW.out _).mono ?_
                 rintro ex w2 ⟨rfl,rfl⟩
                 go_wp2_with fail
                 go_roundg k
                 case measure=>omega
                 case rel=>exact ⟨⟨i+1,rfM m 16 (L-87),tr,us,sd,true,nd+1,nm+1,dp⟩,x+1,(by show Value.int .u64 _=.int .u64 (rfM m 16 (L-87));rw [show L-87=L-97+10 by omega];rfl),rfl,rfl,rfl,rfl,rfl,rfl,rfl,rfl,by have:=HM.out;show x+1=((i+1:Nat):Int);omega,by have:=HM.out;show s.size≤i+1+k;omega,HE.out,rfl,HI.out.step HL.out.1 rfl (Nat.le_refl _) (Nat.succ_le_succ HI.out.nm) (.inl rfl) (.inr ⟨_,_,_,rfl⟩)⟩
                ·have w1':¬(nm:Int)<(mx:Int):=by omega
                 have HE:Hid (rf1 hx 16 mx s k ⟨i+1,m,true,us,sd,true,nd+1,nm,dp⟩=F):=Lib.hid (by
                  have:=HR.out
                  rw [rf1_succ,if_pos HL.out.1,if_neg (by rw [HL.out.2];exact y1),if_neg (by rw [HL.out.2];exact y2),if_neg (by rw [HL.out.2];exact y3),if_pos (by rw [HL.out.2,HLL.out];exact ⟨HHX.out,l1,l2⟩),if_neg w1] at this
                  exact this)
                 clear y1 y2 y3 y4 w1 hnx
                 go_wp2_with fail
                 refine (HLOW.out _).mono ?_
                 rintro ex w2 ⟨rfl,rfl⟩
                 go_wp2_with fail
                 refine (HLOW.out _).mono ?_
                 rintro ex w2 ⟨rfl,rfl⟩
                 go_wp2_with fail
                 go_roundg k
                 case measure=>omega
                 case rel=>exact ⟨⟨i+1,m,true,us,sd,true,nd+1,nm,dp⟩,x+1,rfl,rfl,rfl,rfl,rfl,rfl,rfl,rfl,rfl,by have:=HM.out;show x+1=((i+1:Nat):Int);omega,by have:=HM.out;show s.size≤i+1+k;omega,HE.out,rfl,HI.out.step HL.out.1 rfl (Nat.le_refl _) (Nat.le_succ_of_le HI.out.nm) (.inl rfl) (.inl rfl)⟩
               ·have HL12:=Lib.hid l2
                have HE:Hid ((⟨i,m,tr,us,sd,sg,nd,nm,dp⟩:RS)=F):=Lib.hid (by
                 have:=HR.out
                 rw [rf1_succ,if_pos HL.out.1,if_neg (by rw [HL.out.2];exact y1),if_neg (by rw [HL.out.2];exact y2),if_neg (by rw [HL.out.2];exact y3),if_neg (by rw [HL.out.2,HLL.out];exact fun h=>l2 h.2.2)] at this
                 exact this)
                clear y1 y2 y3 y4 hnx
                go_wp2_with fail
                refine (HLOW.out _).mono ?_
                rintro ex w2 ⟨rfl,rfl⟩
                go_wp2_with fail
                refine (HLOW.out _).mono ?_
                rintro ex w2 ⟨rfl,rfl⟩
                go_wp2_with fail
                go_meet
                rw [←HE.out]
                exact ⟨rfl,rfl,by rw [HM.out.1],rfl,rfl,rfl,rfl,rfl,rfl,rfl⟩
              ·have HL12:=Lib.hid l1
               have HE:Hid ((⟨i,m,tr,us,sd,sg,nd,nm,dp⟩:RS)=F):=Lib.hid (by
                have:=HR.out
                rw [rf1_succ,if_pos HL.out.1,if_neg (by rw [HL.out.2];exact y1),if_neg (by rw [HL.out.2];exact y2),if_neg (by rw [HL.out.2];exact y3),if_neg (by rw [HL.out.2,HLL.out];exact fun h=>l1 h.2.1)] at this
                exact this)
               clear y1 y2 y3 y4 hnx
               go_wp2_with fail
               refine (HLOW.out _).mono ?_
               rintro ex w2 ⟨rfl,rfl⟩
               go_wp2_with fail
               go_meet
               rw [←HE.out]
               exact ⟨rfl,rfl,by rw [HM.out.1],rfl,rfl,rfl,rfl,rfl,rfl,rfl⟩
             ·have HHX:Hid (¬hx=true):=Lib.hid (fun h=>hb16 (HB.out.2.1 h))
              have HE:Hid ((⟨i,m,tr,us,sd,sg,nd,nm,dp⟩:RS)=F):=Lib.hid (by
               have:=HR.out
               rw [rf1_succ,if_pos HL.out.1,if_neg (by rw [HL.out.2];exact y1),if_neg (by rw [HL.out.2];exact y2),if_neg (by rw [HL.out.2];exact y3),if_neg (fun h=>HHX.out h.1)] at this
               exact this)
              clear y1 y2 y3 y4 hnx
              go_wp2
              go_meet
              rw [←HE.out]
              exact ⟨rfl,rfl,by rw [HM.out.1],rfl,rfl,rfl,rfl,rfl,rfl,rfl⟩
            ·have z3:¬(48:Int)≤(y:Int):=by omega
             by_cases hb16:b=16
             ·have HHX:Hid (hx=true):=Lib.hid (HB.out.1 hb16)
              subst hb16
              by_cases l1:97≤L
              ·by_cases l2:L≤102
               ·have WL1:IntKind.u8.wrap (L-97)=L-97:=IntWalk.u8_in _ (by omega)
                have WL2:IntKind.u8.wrap (L-97+10)=L-97+10:=IntWalk.u8_in _ (by omega)
                have WL3:IntKind.u64.wrap (L-97+10)=L-97+10:=IntWalk.u64_in _ (by omega)
                have HL12:=Lib.hid (And.intro l1 l2)
                by_cases w1:nm<mx
                ·have w1':(nm:Int)<(mx:Int):=by omega
                 have HE:Hid (rf1 hx 16 mx s k ⟨i+1,rfM m 16 (L-87),tr,us,sd,true,nd+1,nm+1,dp⟩=F):=Lib.hid (by
                  have:=HR.out
                  rw [rf1_succ,if_pos HL.out.1,if_neg (by rw [HL.out.2];exact y1),if_neg (by rw [HL.out.2];exact y2),if_neg (by rw [HL.out.2];exact y3),if_pos (by rw [HL.out.2,HLL.out];exact ⟨HHX.out,l1,l2⟩),if_pos w1,HL.out.2,HLL.out] at this
                  exact this)
                 clear y1 y2 y3 y4 w1 hnx
                 go_wp2_with fail
                 refine (HLOW.out _).mono ?_
                 rintro ex w2 ⟨rfl,rfl⟩
                 go_wp2_with fail
                 refine (HLOW.out _).mono ?_
                 rintro ex w2 ⟨rfl,rfl⟩
                 go_wp2_with fail
                 refine (HLOW.out _).mono ?_
                 rintro ex w2 ⟨rfl,rfl⟩
                 go_wp2_with fail
                 go_roundg k
                 case measure=>omega
                 case rel=>exact ⟨⟨i+1,rfM m 16 (L-87),tr,us,sd,true,nd+1,nm+1,dp⟩,x+1,(by show Value.int .u64 _=.int .u64 (rfM m 16 (L-87));rw [show L-87=L-97+10 by omega];rfl),rfl,rfl,rfl,rfl,rfl,rfl,rfl,rfl,by have:=HM.out;show x+1=((i+1:Nat):Int);omega,by have:=HM.out;show s.size≤i+1+k;omega,HE.out,rfl,HI.out.step HL.out.1 rfl (Nat.le_refl _) (Nat.succ_le_succ HI.out.nm) (.inl rfl) (.inr ⟨_,_,_,rfl⟩)⟩
                ·have w1':¬(nm:Int)<(mx:Int):=by omega
                 have HE:Hid (rf1 hx 16 mx s k ⟨i+1,m,true,us,sd,true,nd+1,nm,dp⟩=F):=Lib.hid (by
                  have:=HR.out
                  rw [rf1_succ,if_pos HL.out.1,if_neg (by rw [HL.out.2];exact y1),if_neg (by rw [HL.out.2];exact y2),if_neg (by rw [HL.out.2];exact y3),if_pos (by rw [HL.out.2,HLL.out];exact ⟨HHX.out,l1,l2⟩),if_neg w1] at this
                  exact this)
                 clear y1 y2 y3 y4 w1 hnx
                 go_wp2_with fail
                 refine (HLOW.out _).mono ?_
                 rintro ex w2 ⟨rfl,rfl⟩
                 go_wp2_with fail
                 refine (HLOW.out _).mono ?_
                 rintro ex w2 ⟨rfl,rfl⟩
                 go_wp2_with fail
                 go_roundg k
                 case measure=>omega
                 case rel=>exact ⟨⟨i+1,m,true,us,sd,true,nd+1,nm,dp⟩,x+1,rfl,rfl,rfl,rfl,rfl,rfl,rfl,rfl,rfl,by have:=HM.out;show x+1=((i+1:Nat):Int);omega,by have:=HM.out;show s.size≤i+1+k;omega,HE.out,rfl,HI.out.step HL.out.1 rfl (Nat.le_refl _) (Nat.le_succ_of_le HI.out.nm) (.inl rfl) (.inl rfl)⟩
               ·have HL12:=Lib.hid l2
                have HE:Hid ((⟨i,m,tr,us,sd,sg,nd,nm,dp⟩:RS)=F):=Lib.hid (by
                 have:=HR.out
                 rw [rf1_succ,if_pos HL.out.1,if_neg (by rw [HL.out.2];exact y1),if_neg (by rw [HL.out.2];exact y2),if_neg (by rw [HL.out.2];exact y3),if_neg (by rw [HL.out.2,HLL.out];exact fun h=>l2 h.2.2)] at this
                 exact this)
                clear y1 y2 y3 y4 hnx
                go_wp2_with fail
                refine (HLOW.out _).mono ?_
                rintro ex w2 ⟨rfl,rfl⟩
                go_wp2_with fail
                refine (HLOW.out _).mono ?_
                rintro ex w2 ⟨rfl,rfl⟩
                go_wp2_with fail
                go_meet
                rw [←HE.out]
                exact ⟨rfl,rfl,by rw [HM.out.1],rfl,rfl,rfl,rfl,rfl,rfl,rfl⟩
              ·have HL12:=Lib.hid l1
               have HE:Hid ((⟨i,m,tr,us,sd,sg,nd,nm,dp⟩:RS)=F):=Lib.hid (by
                have:=HR.out
                rw [rf1_succ,if_pos HL.out.1,if_neg (by rw [HL.out.2];exact y1),if_neg (by rw [HL.out.2];exact y2),if_neg (by rw [HL.out.2];exact y3),if_neg (by rw [HL.out.2,HLL.out];exact fun h=>l1 h.2.1)] at this
                exact this)
               clear y1 y2 y3 y4 hnx
               go_wp2_with fail
               refine (HLOW.out _).mono ?_
               rintro ex w2 ⟨rfl,rfl⟩
               go_wp2_with fail
               go_meet
               rw [←HE.out]
               exact ⟨rfl,rfl,by rw [HM.out.1],rfl,rfl,rfl,rfl,rfl,rfl,rfl⟩
             ·have HHX:Hid (¬hx=true):=Lib.hid (fun h=>hb16 (HB.out.2.1 h))
              have HE:Hid ((⟨i,m,tr,us,sd,sg,nd,nm,dp⟩:RS)=F):=Lib.hid (by
               have:=HR.out
               rw [rf1_succ,if_pos HL.out.1,if_neg (by rw [HL.out.2];exact y1),if_neg (by rw [HL.out.2];exact y2),if_neg (by rw [HL.out.2];exact y3),if_neg (fun h=>HHX.out h.1)] at this
               exact this)
              clear y1 y2 y3 y4 hnx
              go_wp2
              go_meet
              rw [←HE.out]
              exact ⟨rfl,rfl,by rw [HM.out.1],rfl,rfl,rfl,rfl,rfl,rfl,rfl⟩
       ·have HE:Hid ((⟨i,m,tr,us,sd,sg,nd,nm,dp⟩:RS)=F):=Lib.hid (by rw [←HR.out];exact (rf1_end hi).symm)
        have q1:(x<(s.size:Int))=False:=eq_false (by omega)
        clear hm j1 hi hnx
        go_wp2
        go_meet
        rw [←HE.out]
        exact ⟨rfl,rfl,by rw [HM.out.1],rfl,rfl,rfl,rfl,rfl,rfl,rfl⟩
     case rest=>
      obtain ⟨rfl,rfl,rfl,rfl,rfl,rfl,rfl,rfl,rfl,rfl⟩:=hcut
      have hF:=HFI.out
      have hdp:=rfDp_in hs hF
      have hnm:0≤(F.nm:Int)∧(F.nm:Int)≤800:=by have:=hF.le;have:=hF.nd;have:=hF.nm;omega
      have hfi:=hF.le
      have HMM:=Lib.hid (And.intro hF.m0 hF.m1)
      obtain ⟨sg,hsg⟩:∃ b,F.sg=b:=⟨_,rfl⟩
      rw [hsg]
      cases sg with
      | false=>
       have HE:Hid (R=rfBad ng hx F.m F.tr F.i):=Lib.hid (by rw [←HR2.out];unfold rfL;rw [hsg];exact if_neg (fun h=>by cases h))
       clear hsg hF hdp hnm hfi
       go_wp2
       try rw [Exit.noGoto_ret]
       refine bodyPost_ret (results_tmp7 rfl _ _ _) rfl ?_
       exact ⟨by rw [HE.out];rfl,rfl⟩
      | true=>
       have HE:Hid (rfEnd s ng hx ec F.m F.tr (x4 hx (F.nm:Int)) (x4 hx (rfDp F)) F.us F.i=R):=Lib.hid (by rw [←HR2.out];unfold rfL;rw [hsg];exact (if_pos rfl).symm)
       clear hsg hF HR2 HFI HF HS0
       obtain ⟨sd,hsd⟩:∃ b,F.sd=b:=⟨_,rfl⟩
       rw [hsd]
       go_upto_if 142 with fail
       go_cut [17] from 142 to 143 (fun v17 wx=>v17=.int .i64 (rfDp F)∧wx=wc)
       case first=>
        cases sd with
        | true=>
         have HD:Hid (rfDp F=F.dp):=Lib.hid (by unfold rfDp;exact if_pos hsd)
         clear hsd hdp hnm hfi
         go_wp2
         go_meet
         exact ⟨by rw [HD.out],rfl⟩
        | false=>
         have HD:Hid (rfDp F=(F.nd:Int)):=Lib.hid (by unfold rfDp;exact if_neg (by rw [hsd];exact fun h=>by cases h))
         clear hsd hdp hnm hfi
         go_wp2
         go_meet
         exact ⟨by rw [HD.out],rfl⟩
       case rest=>
        obtain ⟨rfl,rfl⟩:=hcut
        clear hsd
        obtain ⟨dp0,hdp0⟩:∃ d,rfDp F=d:=⟨_,rfl⟩
        obtain ⟨nm0,hnm0⟩:∃ n:Int,(F.nm:Int)=n:=⟨_,rfl⟩
        obtain ⟨us,hus⟩:∃ b,F.us=b:=⟨_,rfl⟩
        obtain ⟨M,hM⟩:∃ b,F.m=b:=⟨_,rfl⟩
        obtain ⟨TR,hTR⟩:∃ b,F.tr=b:=⟨_,rfl⟩
        obtain ⟨i,hi⟩:∃ b,F.i=b:=⟨_,rfl⟩
        obtain ⟨x,hxi⟩:∃ x:Int,x=(i:Int):=⟨_,rfl⟩
        rw [hdp0,hnm0,hus,hM,hTR,hi] at HE
        rw [hdp0] at hdp
        rw [hnm0] at hnm
        rw [hi] at hfi
        rw [hM] at HMM
        rw [hdp0,hnm0,hus,hM,hTR,hi,←hxi]
        clear hdp0 hnm0 hus hM hTR hi
        have W1:IntKind.i64.wrap (dp0*4)=dp0*4:=IntWalk.i64_in _ (by omega)
        have W2:IntKind.i64.wrap (nm0*4)=nm0*4:=IntWalk.i64_in _ (by omega)
        have HDN:=Lib.hid (And.intro hdp hnm)
        have HXI:=Lib.hid (And.intro hxi hfi)
        clear hdp hnm hxi hfi
        go_upto_if 145 with fail
        go_cut [16,17] from 145 to 149 (fun v16 v17 wx=>v16=.int .i64 (x4 hx nm0)∧v17=.int .i64 (x4 hx dp0)∧wx=wc)
        case first=>
         cases hx with
         | true=>
          have hb:=HB.out.2.1 rfl
          subst hb
          go_wp2
          go_meet
          exact ⟨rfl,rfl,rfl⟩
         | false=>
          have hb:=HB.out.2.2 rfl
          subst hb
          go_wp2
          go_meet
          exact ⟨rfl,rfl,rfl⟩
        case rest=>
         obtain ⟨rfl,rfl,rfl⟩:=hcut
         have hD:=x4_in (hx:=hx) (n:=dp0) (by have:=HDN.out;omega)
         have hN:0≤x4 hx nm0∧x4 hx nm0≤3200:=by
          have:=HDN.out
          unfold x4; split <;> omega
         obtain ⟨D,hD0⟩:∃ d,x4 hx dp0=d:=⟨_,rfl⟩
         obtain ⟨N,hN0⟩:∃ d,x4 hx nm0=d:=⟨_,rfl⟩
         rw [hD0] at hD HE
         rw [hN0] at hN HE
         rw [hD0,hN0]
         have HDB:=Lib.hid (And.intro hD hN)
         clear hD0 hN0 hD hN W1 W2
         obtain ⟨P,hP⟩:∃ P:Bool,decide (i<s.size∧low8 (sb s i)=ec)=P:=⟨_,rfl⟩
         have HP:=Lib.hid hP
         clear hP
         go_upto_region 57 with fail
         go_cut [161] from 150 to 161 (fun v161 wx=>v161=.bool P∧wx=wc)
         case first=>
          have hxi:=HXI.out.1
          by_cases hlt:i<s.size
          ·have hb:=sb_at s i x hxi
           have p1:(x<(s.size:Int))=True:=eq_true (by omega)
           have p0:(0≤x)=True:=eq_true (by omega)
           have HLOW:=Lib.hid (low_spec (sb s i))
           have he:P=decide (low8 (sb s i)=ec):=by rw [←HP.out];exact decide_eq_decide.2 ⟨fun h=>h.2,fun h=>⟨hlt,h⟩⟩
           obtain ⟨y,hy⟩:∃ y,sb s i=y:=⟨_,rfl⟩
           obtain ⟨L,hL⟩:∃ L,low8 (sb s i)=L:=⟨_,rfl⟩
           rw [hL] at he HLOW
           rw [hy] at hb HLOW
           have HHE:=Lib.hid he
           clear hxi hlt hy hL he
           go_wp2_with fail
           refine (HLOW.out _).mono ?_
           rintro ex w2 ⟨rfl,rfl⟩
           go_wp2_with fail
           go_meet
           exact ⟨by rw [HHE.out]; exact congrArg _ (by by_cases h:L=ec <;> simp [h]),rfl⟩
          ·have p1:(x<(s.size:Int))=False:=eq_false (by omega)
           have HHE:Hid (P=false):=Lib.hid (HP.out.symm.trans (decide_eq_false (fun h=>hlt h.1)))
           clear hxi hlt
           go_wp2
           go_meet
           exact ⟨by rw [HHE.out],rfl⟩
         case rest=>
          obtain ⟨rfl,rfl⟩:=hcut
          go_upto_if 161 with fail
          go_cut [7,9,17] from 161 to 239 (fun v7 v9 v17 wx=>∃ (j:Nat) (D':Int) (u:Bool),v7=.int .i64 (j:Int)∧v9=.bool u∧v17=.int .i64 D'∧R=rfFin s ng hx M TR N D' j u∧j≤s.size∧-210000≤D'∧D'≤210000∧wx=wc)
          case first=>
           cases P with
           | true=>
            have hpp:=of_decide_eq_true HP.out
            have HE2:Hid (rfEx s ng hx M TR N D us (i+1)=R):=Lib.hid (by rw [←HE.out];unfold rfEnd;exact (if_pos hpp).symm)
            have hxi:=HXI.out.1
            have hlt:=hpp.1
            clear hpp
            have WX:IntKind.i64.wrap (x+1)=x+1:=IntWalk.i64_in _ (by omega)
            have HX:=Lib.hid (And.intro hxi hlt)
            by_cases h1:s.size≤i+1
            ·have HE3:Hid (R=rfBad ng hx M TR (i+1)):=Lib.hid (by rw [←HE2.out];unfold rfEx;exact if_pos h1)
             have z1:((s.size:Int)≤x+1)=True:=eq_true (by omega)
             have HX2:Hid (x+1=((i+1:Nat):Int)):=Lib.hid (by omega)
             clear h1 hxi hlt
             go_wp2
             try rw [Exit.noGoto_ret]
             refine bodyPost_ret (results_tmp7 rfl _ _ _) rfl ?_
             refine ⟨?_,rfl⟩
             rw [HE3.out]
             show Ending.returned (.tuple #[_,_,_,_,_,.int .i64 (x+1),_])=Ending.returned (.tuple #[_,_,_,_,_,.int .i64 ((i+1:Nat):Int),_])
             rw [HX2.out]
             rfl
            ·have z1:((s.size:Int)≤x+1)=False:=eq_false (by omega)
             obtain ⟨x1,hx1⟩:∃ x1,x+1=x1:=⟨_,rfl⟩
             rw [hx1] at WX z1
             have hxi1:x1=((i+1:Nat):Int):=by omega
             have hil1:i+1<s.size:=by omega
             have hb1:=sb_at s (i+1) x1 hxi1
             have hsI:=sgI_le hil1
             obtain ⟨y2,hy2⟩:∃ y,sb s (i+1)=y:=⟨_,rfl⟩
             rw [hy2] at hb1
             have r1:(x1<(s.size:Int))=True:=eq_true (by omega)
             have r0:(0≤x1)=True:=eq_true (by omega)
             obtain ⟨j,hj⟩:∃ j,sgI s (i+1)=j:=⟨_,rfl⟩
             obtain ⟨es,hes⟩:∃ es:Int,(if sgN s (i+1)=true then -1 else 1)=es:=⟨_,rfl⟩
             rw [hj] at hsI
             have WX1:IntKind.i64.wrap (x1+1)=x1+1:=IntWalk.i64_in _ (by omega)
             have HJ:=Lib.hid (And.intro hj (And.intro hes (And.intro hy2 (And.intro hxi1 hsI))))
             have HE3:Hid (R=if s.size≤j∨sb s j<48∨57<sb s j then rfBad ng hx M TR j else
               rfFin s ng hx M TR N (D+sgZ (sgN s (i+1)) (ex3 s s.size j 0 us).2.1) (ex3 s s.size j 0 us).1 (ex3 s s.size j 0 us).2.2):=Lib.hid (by
              rw [←HE2.out];unfold rfEx;rw [hj];exact if_neg h1)
             clear h1 hj hes hy2 hxi1 hil1 hsI hxi hlt
             go_upto_block 4 with fail
             go_cut [7,19] from 171 to 178 (fun v7 v19 wx=>v7=.int .i64 (j:Int)∧v19=.int .i64 es∧wx=wc)
             case first=>
              by_cases t1:y2=43
              ·have u1:(y2:Int)=43:=by omega
               have HQ:Hid (j=i+2∧es=1):=Lib.hid (by
                obtain ⟨h1,h2,h3,_⟩:=HJ.out
                have hq:=sg_one (h3.trans t1)
                rw [hq.1] at h1;rw [hq.2] at h2
                exact ⟨h1.symm,h2.symm⟩)
               clear t1
               go_wp2
               go_meet
               exact ⟨congrArg _ (by have:=HQ.out;have:=HJ.out;omega),by rw [HQ.out.2],rfl⟩
              ·have u1:¬(y2:Int)=43:=by omega
               by_cases t2:y2=45
               ·have u2:(y2:Int)=45:=by omega
                have HQ:Hid (j=i+2∧es=-1):=Lib.hid (by
                 obtain ⟨h1,h2,h3,_⟩:=HJ.out
                 have hq:=sg_two (by rw [h3];exact t1) (h3.trans t2)
                 rw [hq.1] at h1;rw [hq.2] at h2
                 exact ⟨h1.symm,h2.symm⟩)
                clear t1 t2
                go_wp2
                go_meet
                exact ⟨congrArg _ (by have:=HQ.out;have:=HJ.out;omega),by rw [HQ.out.2],rfl⟩
               ·have u2:¬(y2:Int)=45:=by omega
                have HQ:Hid (j=i+1∧es=1):=Lib.hid (by
                 obtain ⟨h1,h2,h3,_⟩:=HJ.out
                 have hq:=sg_three (s:=s) (j:=i+1) (by rw [h3];exact t1) (by rw [h3];exact t2)
                 rw [hq.1] at h1;rw [hq.2] at h2
                 exact ⟨h1.symm,h2.symm⟩)
                clear t1 t2
                go_wp2
                go_meet
                exact ⟨congrArg _ (by have:=HQ.out;have:=HJ.out;omega),by rw [HQ.out.2],rfl⟩
             case rest=>
              obtain ⟨rfl,rfl,rfl⟩:=hcut
              obtain ⟨xj,hxj⟩:∃ xj:Int,xj=(j:Int):=⟨_,rfl⟩
              rw [←hxj]
              have hjl:=HJ.out.2.2.2.2.1
              have HXJ:=Lib.hid (And.intro hxj hjl)
              clear hb1 r1 r0 WX WX1 z1
              by_cases d1:s.size≤j
              ·have HE4:Hid (R=rfBad ng hx M TR j):=Lib.hid (by rw [HE3.out];exact if_pos (.inl d1))
               have v1:((s.size:Int)≤xj)=True:=eq_true (by omega)
               clear d1 hjl hxj
               go_wp2
               try rw [Exit.noGoto_ret]
               refine bodyPost_ret (results_tmp7 rfl _ _ _) rfl ?_
               refine ⟨?_,rfl⟩
               rw [HE4.out]
               show Ending.returned (.tuple #[_,_,_,_,_,.int .i64 xj,_])=Ending.returned (.tuple #[_,_,_,_,_,.int .i64 (j:Int),_])
               rw [HXJ.out.1]
               rfl
              ·have v1:((s.size:Int)≤xj)=False:=eq_false (by omega)
               have v2:(xj<(s.size:Int))=True:=eq_true (by omega)
               have v3:(0≤xj)=True:=eq_true (by omega)
               have hb3:=sb_at s j xj hxj
               obtain ⟨y3,hy3⟩:∃ y,sb s j=y:=⟨_,rfl⟩
               rw [hy3] at hb3
               by_cases d2:y3<48
               ·have HE4:Hid (R=rfBad ng hx M TR j):=Lib.hid (by rw [HE3.out];exact if_pos (.inr (.inl (by omega))))
                have u2:(y3:Int)<48:=by omega
                clear d1 d2 hjl hxj hy3
                go_wp2
                try rw [Exit.noGoto_ret]
                refine bodyPost_ret (results_tmp7 rfl _ _ _) rfl ?_
                refine ⟨?_,rfl⟩
                rw [HE4.out]
                show Ending.returned (.tuple #[_,_,_,_,_,.int .i64 xj,_])=Ending.returned (.tuple #[_,_,_,_,_,.int .i64 (j:Int),_])
                rw [HXJ.out.1]
                rfl
               ·have u2:¬(y3:Int)<48:=by omega
                by_cases d3:57<y3
                ·have HE4:Hid (R=rfBad ng hx M TR j):=Lib.hid (by rw [HE3.out];exact if_pos (.inr (.inr (by omega))))
                 have u3:(57:Int)<(y3:Int):=by omega
                 clear d1 d2 d3 hjl hxj hy3
                 go_wp2
                 try rw [Exit.noGoto_ret]
                 refine bodyPost_ret (results_tmp7 rfl _ _ _) rfl ?_
                 refine ⟨?_,rfl⟩
                 rw [HE4.out]
                 show Ending.returned (.tuple #[_,_,_,_,_,.int .i64 xj,_])=Ending.returned (.tuple #[_,_,_,_,_,.int .i64 (j:Int),_])
                 rw [HXJ.out.1]
                 rfl
                ·have u3:¬(57:Int)<(y3:Int):=by omega
                 have HE4:Hid (R=rfFin s ng hx M TR N (D+sgZ (sgN s (i+1)) (ex3 s s.size j 0 us).2.1) (ex3 s s.size j 0 us).1 (ex3 s s.size j 0 us).2.2):=
                  Lib.hid (by rw [HE3.out];exact if_neg (by omega))
                 obtain ⟨Q,hQ⟩:∃ Q,ex3 s s.size j 0 us=Q:=⟨_,rfl⟩
                 rw [hQ] at HE4
                 have HQ:=Lib.hid hQ
                 clear d1 d2 d3 hjl hxj hy3 hQ HE3 HE2
                 go_upto_block 5 with fail
                 go_cut [7,9,20] from 195 to 232 (fun v7 v9 v20 wx=>v7=.int .i64 (Q.1:Int)∧v9=.bool Q.2.2∧v20=.int .i64 Q.2.1∧wx=wc)
                 case first=>
                  clear hb3 v1 v2 v3 u2 u3
                  go_wp2_with fail
                  go_loopg [7,9,20] s.size (fun mq v7 v9 v20 wr=>∃ (k:Nat) (x e:Int) (u:Bool),v7=.int .i64 x∧v9=.bool u∧v20=.int .i64 e∧x=(k:Int)∧0≤e∧e≤200000∧k≤s.size∧s.size≤k+mq∧ex3 s mq k e u=Q∧wr=wc)
                  case atStart=>exact ⟨j,xj,0,us,rfl,rfl,rfl,HXJ.out.1,by omega,by omega,HXJ.out.2,by omega,HQ.out,rfl⟩
                  case round=>
                   obtain ⟨k,x5,e5,u5,rfl,rfl,rfl,hxk,he0,he1,hk,hm,hq,rfl⟩:=hrel
                   have HK:=Lib.hid (And.intro hxk (And.intro he0 (And.intro he1 (And.intro hk (And.intro hm hq)))))
                   by_cases hks:k<s.size
                   ·have hb5:=sb_at s k x5 hxk
                    have h256:=sb_lt s k
                    obtain ⟨y5,hy5⟩:∃ y,sb s k=y:=⟨_,rfl⟩
                    rw [hy5] at hb5 h256
                    have v2:(x5<(s.size:Int))=True:=eq_true (by omega)
                    have v3:(0≤x5)=True:=eq_true (by omega)
                    have WX5:IntKind.i64.wrap (x5+1)=x5+1:=IntWalk.i64_in _ (by omega)
                    have HY5:=Lib.hid hks
                    by_cases d1:y5=95
                    ·cases gk with
                     | zero=>omega
                     | succ m=>
                      have u1:(48:Int)≤(y5:Int):=by omega
                      have u2:¬(y5:Int)≤57:=by omega
                      have u3:(y5:Int)=95:=by omega
                      have HE5:Hid (ex3 s m (k+1) (e5) true=Q):=Lib.hid (by rw [←hq,ex3_succ,hy5,if_pos ⟨hks,.inr d1⟩,if_pos d1])
                      clear d1 hks hxk he0 he1 hk hm hq hy5 h256
                      go_wp2
                      go_roundg m
                      case measure=>omega
                      case rel=>exact ⟨k+1,x5+1,e5,true,rfl,rfl,rfl,by have:=HK.out;omega,by have:=HK.out;omega,by have:=HK.out;omega,by have:=HK.out;have:=HY5.out;omega,by have:=HK.out;omega,HE5.out,rfl⟩
                    ·have u3:¬(y5:Int)=95:=by omega
                     by_cases d2:48≤y5
                     ·have u1:(48:Int)≤(y5:Int):=by omega
                      by_cases d3:y5≤57
                      ·have u2:(y5:Int)≤57:=by omega
                       cases gk with
                       | zero=>omega
                       | succ m=>
                        by_cases d4:e5<10000
                        ·have HD4:=Lib.hid (And.intro d4 h256)
                         have W1:IntKind.i64.wrap (e5*10)=e5*10:=IntWalk.i64_in _ (by omega)
                         have W2:IntKind.i64.wrap (e5*10+(y5:Int))=e5*10+(y5:Int):=IntWalk.i64_in _ (by omega)
                         have W3:IntKind.i64.wrap (e5*10+(y5:Int)-48)=e5*10+(y5:Int)-48:=IntWalk.i64_in _ (by omega)
                         have W4:IntKind.i64.wrap (y5:Int)=(y5:Int):=IntWalk.i64_in _ (by omega)
                         have HE5:Hid (ex3 s m (k+1) (e5*10+(y5:Int)-48) u5=Q):=Lib.hid (by rw [←hq,ex3_succ,hy5,if_pos ⟨hks,.inl ⟨d2,d3⟩⟩,if_neg d1,if_pos d4])
                         clear d1 d2 d3 hks hxk he0 he1 hk hm hq hy5 h256
                         go_wp2
                         go_roundg m
                         case measure=>omega
                         case rel=>exact ⟨k+1,x5+1,e5*10+(y5:Int)-48,u5,rfl,rfl,rfl,by have:=HK.out;omega,by have:=HK.out;omega,by have:=HK.out;have:=HD4.out;omega,by have:=HK.out;have:=HY5.out;omega,by have:=HK.out;omega,HE5.out,rfl⟩
                        ·skip
                         have HE5:Hid (ex3 s m (k+1) (e5) u5=Q):=Lib.hid (by rw [←hq,ex3_succ,hy5,if_pos ⟨hks,.inl ⟨d2,d3⟩⟩,if_neg d1,if_neg d4])
                         clear d1 d2 d3 hks hxk he0 he1 hk hm hq hy5 h256
                         go_wp2
                         go_roundg m
                         case measure=>omega
                         case rel=>exact ⟨k+1,x5+1,e5,u5,rfl,rfl,rfl,by have:=HK.out;omega,by have:=HK.out;omega,by have:=HK.out;omega,by have:=HK.out;have:=HY5.out;omega,by have:=HK.out;omega,HE5.out,rfl⟩
                      ·have u2:¬(y5:Int)≤57:=by omega
                       have HE5:Hid (Q=(k,e5,u5)):=Lib.hid (by rw [←hq,ex3_stop (by rw [hy5];omega)])
                       clear d1 d2 d3 hks hxk he0 he1 hk hm hq hy5 h256
                       go_wp2
                       go_meet
                       rw [HE5.out]
                       exact ⟨congrArg _ HK.out.1,rfl,rfl,rfl⟩
                     ·have u1:¬(48:Int)≤(y5:Int):=by omega
                      have HE5:Hid (Q=(k,e5,u5)):=Lib.hid (by rw [←hq,ex3_stop (by rw [hy5];omega)])
                      clear d1 d2 hks hxk he0 he1 hk hm hq hy5 h256
                      go_wp2
                      go_meet
                      rw [HE5.out]
                      exact ⟨congrArg _ HK.out.1,rfl,rfl,rfl⟩
                   ·have v2:(x5<(s.size:Int))=False:=eq_false (by omega)
                    have HE5:Hid (Q=(k,e5,u5)):=Lib.hid (by rw [←hq,ex3_stop (fun h=>hks h.1)])
                    clear hks hxk he0 he1 hk hm hq
                    go_wp2
                    go_meet
                    rw [HE5.out]
                    exact ⟨congrArg _ HK.out.1,rfl,rfl,rfl⟩
                 case rest=>
                  obtain ⟨rfl,rfl,rfl,rfl⟩:=hcut
                  have hqo:=ex3_ok (s:=s) s.size j 0 us HXJ.out.2 (by omega) (by omega)
                  rw [HQ.out] at hqo
                  obtain ⟨q1,q2,q3⟩:=Q
                  dsimp only at hqo
                  replace HE4:Hid (R=rfFin s ng hx M TR N (D+sgZ (sgN s (i+1)) q2) q1 q3):=HE4
                  have hes:=HJ.out.2.1
                  obtain ⟨dv,hdv⟩:∃ dv:Int,sgZ (sgN s (i+1)) q2=dv:=⟨_,rfl⟩
                  have hdb:-200000≤dv∧dv≤200000:=by
                   rw [←hdv]; unfold sgZ; split <;> omega
                  have WM:IntKind.i64.wrap (q2*es)=dv:=by
                   rw [←hdv,←hes]
                   unfold sgZ
                   cases sgN s (i+1) with
                   | true=>rw [if_pos rfl,if_pos rfl,Int.mul_neg,Int.mul_one];exact IntWalk.i64_in _ (by omega)
                   | false=>rw [if_neg (fun h=>by cases h),if_neg (fun h=>by cases h),Int.mul_one];exact IntWalk.i64_in _ (by omega)
                  have WA:IntKind.i64.wrap (D+dv)=D+dv:=IntWalk.i64_in _ (by have:=HDB.out;omega)
                  rw [hdv] at HE4
                  have HQO:=Lib.hid (And.intro hqo.1 hdb)
                  clear hdb hdv hes hqo hb3 v1 v2 v3 u2 u3
                  go_wp2
                  go_meet
                  exact ⟨q1,D+dv,q3,rfl,rfl,rfl,HE4.out,HQO.out.1,by have:=HQO.out;have:=HDB.out;omega,by have:=HQO.out;have:=HDB.out;omega,rfl⟩
           | false=>
            have hpp:=of_decide_eq_false HP.out
            cases hx with
            | true=>
             have HE2:Hid (R=rfBad ng true M TR i):=Lib.hid (by rw [←HE.out];unfold rfEnd;rw [if_neg hpp];exact if_pos rfl)
             have hb:=HB.out.2.1 rfl
             subst hb
             clear hpp
             go_wp2
             try rw [Exit.noGoto_ret]
             refine bodyPost_ret (results_tmp7 rfl _ _ _) rfl ?_
             refine ⟨?_,rfl⟩
             rw [HE2.out]
             show Ending.returned (.tuple #[_,_,_,_,_,.int .i64 x,_])=Ending.returned (.tuple #[_,_,_,_,_,.int .i64 (i:Int),_])
             rw [HXI.out.1]
             rfl
            | false=>
             have HE2:Hid (R=rfFin s ng false M TR N D i us):=Lib.hid (by rw [←HE.out];unfold rfEnd;rw [if_neg hpp];exact if_neg (fun h=>by cases h))
             have hb:=HB.out.2.2 rfl
             subst hb
             clear hpp
             go_wp2
             go_meet
             exact ⟨i,D,us,congrArg _ HXI.out.1,rfl,rfl,HE2.out,HXI.out.2,by have:=HDB.out;omega,by have:=HDB.out;omega,rfl⟩
          case rest=>
           obtain ⟨j,D',u,rfl,rfl,rfl,hR3,hjl,hd1,hd2,rfl⟩:=hcut
           have HR3:=Lib.hid hR3
           have WS:IntKind.i64.wrap (D'-N)=D'-N:=IntWalk.i64_in _ (by have:=HDB.out;omega)
           obtain ⟨xj,hxj⟩:∃ x:Int,x=(j:Int):=⟨_,rfl⟩
           rw [←hxj]
           have HXJ:=Lib.hid (And.intro hxj hjl)
           clear hR3 hjl hd1 hd2 hxj
           go_upto_if 241 with fail
           go_cut [3] from 241 to 244 (fun v3 wx=>v3=.int .i64 (rfX M D' N)∧wx=wc)
           case first=>
            by_cases hM:M=0
            ·have HX0:Hid (rfX M D' N=0):=Lib.hid (if_pos hM)
             subst hM
             go_wp2
             go_meet
             exact ⟨by rw [HX0.out],rfl⟩
            ·have HX0:Hid (rfX M D' N=D'-N):=Lib.hid (if_neg hM)
             go_wp2
             go_meet
             exact ⟨by rw [HX0.out],rfl⟩
           case rest=>
            obtain ⟨rfl,rfl⟩:=hcut
            obtain ⟨ex,hex⟩:∃ e,rfX M D' N=e:=⟨_,rfl⟩
            rw [hex]
            have HEX:=Lib.hid hex
            clear hex WS
            cases u with
            | false=>
             have HR4:Hid (R=⟨M,ex,ng,TR,hx,j,true⟩):=Lib.hid (by rw [HR3.out,←HEX.out];rfl)
             go_wp2
             try rw [Exit.noGoto_ret]
             refine bodyPost_ret (results_tmp7 rfl _ _ _) rfl ?_
             refine ⟨?_,rfl⟩
             rw [HR4.out]
             show Ending.returned (.tuple #[_,_,_,_,_,.int .i64 xj,_])=Ending.returned (.tuple #[_,_,_,_,_,.int .i64 (j:Int),_])
             rw [HXJ.out.1]
             rfl
            | true=>
             have p1:(xj≤(s.size:Int))=True:=eq_true (by have:=HXJ.out;omega)
             have p0:(0≤xj)=True:=eq_true (by have:=HXJ.out;omega)
             have hsl:(s.extract 0 xj.toNat).size≤800:=by rw [ByteArray.size_extract];omega
             have hR4:R=⟨M,ex,ng,TR,hx,j,uOk (s.extract 0 xj.toNat)⟩:=by rw [HR3.out,←HEX.out,show xj.toNat=j by have:=HXJ.out;omega];rfl
             obtain ⟨t,ht⟩:∃ t,s.extract 0 xj.toNat=t:=⟨_,rfl⟩
             rw [ht] at hsl hR4
             have HU:=Lib.hid (uok_spec hsl)
             obtain ⟨ub,hub⟩:∃ b,uOk t=b:=⟨_,rfl⟩
             rw [hub] at HU hR4
             have HR4:=Lib.hid hR4
             clear hsl hR4 hub
             go_wp2_with fail
             refine (HU.out _).mono ?_
             rintro ex w2 ⟨rfl,rfl⟩
             cases ub with
             | true=>
              go_wp2_with fail
              try rw [Exit.noGoto_ret]
              refine bodyPost_ret (results_tmp7 rfl _ _ _) rfl ?_
              refine ⟨?_,rfl⟩
              rw [HR4.out]
              show Ending.returned (.tuple #[_,_,_,_,_,.int .i64 xj,_])=Ending.returned (.tuple #[_,_,_,_,_,.int .i64 (j:Int),_])
              rw [HXJ.out.1]
              rfl
             | false=>
              go_wp2_with fail
              try rw [Exit.noGoto_ret]
              refine bodyPost_ret (results_tmp7 rfl _ _ _) rfl ?_
              refine ⟨?_,rfl⟩
              rw [HR4.out]
              show Ending.returned (.tuple #[_,_,_,_,_,.int .i64 xj,_])=Ending.returned (.tuple #[_,_,_,_,_,.int .i64 (j:Int),_])
              rw [HXJ.out.1]
              rfl
end Go.Proofs.YtkfggfjdplnkpaaGreatDoor
end
