/- A part of the proof that the law FnDecodeValues returns true; its conditions are those of the last part. -/
import Derived.Test.YtkfggfjdplnkpaaGreatDoorVShift
import Derived.Test.YtkfggfjdplnkpaaGreatDoorProg
import Derived.WalkKit
import Derived.ScopeJumps
import Derived.Test.YtkfggfjdplnkpaaGreatDoorVShelf
import Derived.Deep.CutBlock
set_option maxRecDepth 100000
set_option linter.unusedVariables false
set_option linter.unusedSimpArgs false
section
namespace Go.Proofs.YtkfggfjdplnkpaaGreatDoor
def pwN (m:Nat):Nat:=if m<9 then [1,3,6,9,13,16,19,23,26].getD m 0 else 27
theorem pwN_le (m:Nat):pwN m≤27∧1≤pwN m:=by
 unfold pwN
 split
 ·next h=>
  have:∀ i:Fin 9,[1,3,6,9,13,16,19,23,26].getD i.val 0≤27∧1≤[1,3,6,9,13,16,19,23,26].getD i.val 0:=by decide
  exact this ⟨m,h⟩
 ·omega
theorem pwN_two {m:Nat} (h:2≤m):6≤pwN m:=by
 unfold pwN
 split
 ·next h9=>
  have:∀ i:Fin 9,2≤i.val→6≤[1,3,6,9,13,16,19,23,26].getD i.val 0:=by decide
  exact this ⟨m,h9⟩ h
 ·omega
theorem rsP_one {f:Nat→Nat} {nd:Nat} (hn:0<nd):rsP f nd 1=f 0-48:=by
 show 0*10+(pad f nd 0-48)=_
 unfold pad
 rw [if_pos hn]
 omega
theorem rsR_two {f:Nat→Nat} {nd k:Nat} (h0:f 0≠48) (hd:Digs f nd) (hn:0<nd) (hk:0<k) (h:f 0-48<2 ^ k):2≤rsR f nd k:=by
 obtain ⟨a,b,c⟩:=rsR_spec (k:=k) h0 hd hn hk
 rcases Nat.lt_or_ge 1 (rsR f nd k) with h1 | h1
 ·exact h1
 ·have e:rsR f nd k=1:=by omega
  rw [e,rsP_one hn] at a
  omega
theorem rsR_one {f:Nat→Nat} {nd k:Nat} (h0:f 0≠48) (hd:Digs f nd) (hn:0<nd) (hk:0<k) (h:2 ^ k≤f 0-48):rsR f nd k=1∧rsd f nd k 0=(f 0-48)/2 ^ k:=by
 have e:(1:Nat)=rsR f nd k:=rsR_unique h0 hd hn hk (by rw [rsP_one hn];exact h) (fun j hj=>by
  have:j=0:=by omega
  subst this
  show 0<2 ^ k
  exact Nat.pow_pos (by decide))
 refine ⟨e.symm,?_⟩
 show rsP f nd (rsR f nd k)/2 ^ k=_
 rw [←e,rsP_one hn]
def m1 (D:DS):Nat:=2*D.dp.toNat+if 56≤D.f 0 then 1 else 0
def l1:Nat→DS→Int→DS × Int
 | 0,D,e=>(D,e)
 | m+1,D,e=>if 0<D.dp then l1 m (shrD (pwN D.dp.toNat) D) (e+(pwN D.dp.toNat:Int)) else (D,e)
theorem m1_less {D:DS} (h:D.Ok) (hp:0<D.dp):m1 (shrD (pwN D.dp.toNat) D)<m1 D∧D.dp-30≤(shrD (pwN D.dp.toNat) D).dp∧(shrD (pwN D.dp.toNat) D).dp≤D.dp:=by
 obtain ⟨n,hn⟩:∃ n,D.dp.toNat=n:=⟨_,rfl⟩
 rw [hn]
 have hb:=pwN_le n
 have hok:=shrD_ok (k:=pwN n) h (by omega)
 have hR:=rsR_le D.f D.nd (pwN n)
 have hR1:=(rsR_spec (k:=pwN n) h.head h.digs h.pos (by omega)).2.2
 have hd0:=h.digs 0 h.pos
 refine ⟨?_,by rw [hok.2.1];omega,by rw [hok.2.1];omega⟩
 by_cases hbig:D.f 0-48<2 ^ pwN n
 ·have h2:=rsR_two h.head h.digs h.pos (by omega) hbig
  have e:=hok.2.1
  unfold m1
  split <;> split <;> omega
 ·have h3:3≤pwN n:=by
   rcases Nat.lt_or_ge n 2 with h4 | h4
   ·have:n=1:=by omega
    subst this
    decide
   ·have:=pwN_two h4;omega
  have h8:2 ^ 3≤2 ^ pwN n:=Nat.pow_le_pow_right (by decide) h3
  obtain ⟨e1,e2⟩:=rsR_one h.head h.digs h.pos (k:=pwN n) (by omega) (by omega)
  have e:=hok.2.1
  have e3:=hok.2.2
  rw [e2] at e3
  have h9:(D.f 0-48)/2 ^ pwN n≤1:=by
   have:(D.f 0-48)/2 ^ pwN n≤(D.f 0-48)/2 ^ 3:=Nat.div_le_div_left h8 (by decide)
   omega
  unfold m1
  rw [if_neg (by rw [e3];omega),if_pos (by omega)]
  omega
def m2 (D:DS):Nat:=10*(-D.dp).toNat+(58-D.f 0)
def low (D:DS):Prop:=D.dp<0∨D.dp=0∧D.f 0<53
instance (D:DS):Decidable (low D):=inferInstanceAs (Decidable (_∨_))
def l2:Nat→DS→Int→DS × Int
 | 0,D,e=>(D,e)
 | m+1,D,e=>if low D then l2 m (shlD (pwN (-D.dp).toNat) D) (e-(pwN (-D.dp).toNat:Int)) else (D,e)
theorem valN_head {f:Nat→Nat}:∀ {n:Nat},0<n→(f 0-48)*10 ^ (n-1)≤valN f n
 | 0,h=>absurd h (by omega)
 | 1,_=>by show (f 0-48)*10 ^ 0≤0*10+(f 0-48);omega
 | n+2,_=>by
  have:=valN_head (f:=f) (n:=n+1) (by omega)
  show (f 0-48)*10 ^ (n+1)≤valN f (n+1)*10+(f (n+1)-48)
  rw [Nat.add_sub_cancel] at this
  rw [Nat.pow_succ,←Nat.mul_assoc]
  omega
theorem valN_top {f:Nat→Nat}:∀ {n:Nat},Digs f n→0<n→valN f n<(f 0-48+1)*10 ^ (n-1)
 | 0,_,h=>absurd h (by omega)
 | 1,_,_=>by show 0*10+(f 0-48)<(f 0-48+1)*10 ^ 0;omega
 | n+2,hd,_=>by
  have:=valN_top (f:=f) (n:=n+1) (fun i hi=>hd i (by omega)) (by omega)
  have h2:=hd (n+1) (by omega)
  show valN f (n+1)*10+(f (n+1)-48)<(f 0-48+1)*10 ^ (n+1)
  rw [Nat.add_sub_cancel] at this
  rw [Nat.pow_succ,←Nat.mul_assoc]
  omega
theorem m2_less {D:DS} (h:D.Ok) (hp:low D):m2 (shlD (pwN (-D.dp).toNat) D)<m2 D∧D.dp≤(shlD (pwN (-D.dp).toNat) D).dp∧(shlD (pwN (-D.dp).toNat) D).dp≤D.dp+27:=by
 obtain ⟨n,hn⟩:∃ n,(-D.dp).toNat=n:=⟨_,rfl⟩
 rw [hn]
 have hb:=pwN_le n
 have hok:=shlD_ok (k:=pwN n) h (by omega) (by omega)
 have hdl:=dlt_bounds ⟨pwN n,by omega⟩ (by show 0<pwN n;omega)
 dsimp only at hdl
 have hd0:=h.digs 0 h.pos
 have hh:=h.head
 obtain ⟨V,hV⟩:∃ V,valN D.f D.nd*2 ^ pwN n=V:=⟨_,rfl⟩
 rw [hV] at hok
 have hsh:shD V D.nd (pwN n)=dlt (pwN n)-1∧V<10 ^ (D.nd+dlt (pwN n)-1)∨shD V D.nd (pwN n)=dlt (pwN n):=by
  unfold shD
  split
  ·next h1=>exact .inl ⟨rfl,h1⟩
  ·exact .inr rfl
 have hok0:=hok.1.digs 0 hok.1.pos
 have hokh:=hok.1.head
 refine ⟨?_,by rw [hok.2.1]; omega,by rw [hok.2.1]; rcases hsh with ⟨e,_⟩ | e <;> rw [e] <;> omega⟩
 have hgo:1≤shD V D.nd (pwN n)→D.dp<0→m2 (shlD (pwN n) D)<m2 D:=by
  intro h1 h2
  have e:=hok.2.1
  unfold m2
  omega
 have hstay:shD V D.nd (pwN n)=0→D.f 0<(shlD (pwN n) D).f 0→m2 (shlD (pwN n) D)<m2 D:=by
  intro h1 h2
  have e:=hok.2.1
  rw [h1] at e
  unfold m2
  omega
 have hup:shD V D.nd (pwN n)=0→D.f 0<(shlD (pwN n) D).f 0:=by
  intro h1
  rw [hok.2.2,h1,Nat.add_zero]
  have h2:=valN_head (f:=D.f) h.pos
  have h3:(D.f 0-48)*2 ^ pwN n≤V/10 ^ (D.nd-1):=by
   rw [Nat.le_div_iff_mul_le (pow10_pos _),←hV]
   calc (D.f 0-48)*2 ^ pwN n*10 ^ (D.nd-1)=(D.f 0-48)*10 ^ (D.nd-1)*2 ^ pwN n:=by ac_rfl
    _≤valN D.f D.nd*2 ^ pwN n:=Nat.mul_le_mul_right _ h2
  have h4:2 ^ 1≤2 ^ pwN n:=Nat.pow_le_pow_right (by decide) hb.2
  have h5:(D.f 0-48)*2≤(D.f 0-48)*2 ^ pwN n:=Nat.mul_le_mul_left _ (by omega)
  omega
 by_cases hz:shD V D.nd (pwN n)=0
 ·exact hstay hz (hup hz)
 ·rcases hp with hp | ⟨hp,h5⟩
  ·exact hgo (by omega) hp
  ·-- the number is below one half: no digit more
   exfalso
   have hn0:n=0:=by omega
   subst hn0
   have h6:=valN_top h.digs h.pos
   have h7:V<10 ^ D.nd:=by
    rw [←hV]
    show valN D.f D.nd*2 ^ 1<_
    have h8:(D.f 0-48+1)*10 ^ (D.nd-1)≤5*10 ^ (D.nd-1):=Nat.mul_le_mul_right _ (by omega)
    have h9:10 ^ D.nd=10*10 ^ (D.nd-1):=by
     obtain ⟨q,hq⟩:∃ q,D.nd=q+1:=⟨D.nd-1,by have:=h.pos;omega⟩
     rw [hq,Nat.add_sub_cancel,Nat.pow_succ,Nat.mul_comm]
    omega
   apply hz
   unfold shD
   exact (if_pos (show V<10 ^ (D.nd+dlt (pwN 0)-1) from h7)).trans rfl
end Go.Proofs.YtkfggfjdplnkpaaGreatDoor
end
section
namespace Go.Proofs.YtkfggfjdplnkpaaGreatDoor
open Go Go.RowKit
def gotoTwo (g0 g1:Act→World→Prop) (Q:Exit→Act→World→Prop):Exit→Act→World→Prop
 | .goto 0,a,w=>g0 a w
 | .goto 1,a,w=>g1 a w
 | .goto _,_,_=>False
 | e,a,w=>Q e a w
section
variable {P:Program} {a:Act} {w:World} {Q:Exit→Act→World→Prop} {g0 g1:Act→World→Prop}
theorem gotoTwo_normal:gotoTwo g0 g1 Q .normal a w=Q .normal a w:=rfl
theorem gotoTwo_exit (i:Nat):gotoTwo g0 g1 Q (.exit i) a w=Q (.exit i) a w:=rfl
theorem gotoTwo_ret:gotoTwo g0 g1 Q .ret a w=Q .ret a w:=rfl
theorem gotoTwo_panic (c:List PanicEntry):gotoTwo g0 g1 Q (.panic c) a w=Q (.panic c) a w:=rfl
theorem gotoTwo_0:gotoTwo g0 g1 Q (.goto 0) a w=g0 a w:=rfl
theorem gotoTwo_1:gotoTwo g0 g1 Q (.goto 1) a w=g1 a w:=rfl
theorem wp_scope_two {c rest0 rest1:Code} (h0:findLabel c 0=some rest0) (h1:findLabel c 1=some rest1)
  (h:c.wp P (gotoTwo (fun a w=>rest0.wp P (Exit.noGoto Q) a w) (fun a w=>rest1.wp P (gotoTwo (fun a w=>rest0.wp P (Exit.noGoto Q) a w) (fun _ _=>False) Q) a w) Q) a w):(Code.scope c).wp P Q a w:=by
 intro b k cs
 have hg0:gotoIn 0 (.inScope c::k)=some (.code rest0::.inScope c::k):=by simp [gotoIn,h0]
 have hg1:gotoIn 1 (.inScope c::k)=some (.code rest1::.inScope c::k):=by simp [gotoIn,h1]
 have key0:∀ a w,rest0.wp P (Exit.noGoto Q) a w→∃ e a' w',Q e a' w'∧Arrives P (lone (b.at a (.code rest0::.inScope c::k)) cs w) b k cs e a' w':=by
  intro a w hw
  obtain ⟨e,a₁,w₁,hq,harr⟩:=hw b (.inScope c::k) cs
  cases e with
  | normal=>exact ⟨.normal,a₁,w₁,hq,Steps.trans harr (.one step_inScope)⟩
  | exit id=>exact ⟨.exit id,a₁,w₁,hq,fun k' hk=>harr k' (by simp [exitTo,hk])⟩
  | goto l=>exact hq.elim
  | ret=>exact ⟨_,a₁,w₁,hq,harr⟩
  | panic ch=>exact ⟨_,a₁,w₁,hq,harr⟩
  | outgrown=>exact ⟨_,a₁,w₁,hq,harr⟩
 have key1:∀ a w,rest1.wp P (gotoTwo (fun a w=>rest0.wp P (Exit.noGoto Q) a w) (fun _ _=>False) Q) a w→∃ e a' w',Q e a' w'∧Arrives P (lone (b.at a (.code rest1::.inScope c::k)) cs w) b k cs e a' w':=by
  intro a w hw
  obtain ⟨e,a₁,w₁,hq,harr⟩:=hw b (.inScope c::k) cs
  cases e with
  | normal=>exact ⟨.normal,a₁,w₁,hq,Steps.trans harr (.one step_inScope)⟩
  | exit id=>exact ⟨.exit id,a₁,w₁,hq,fun k' hk=>harr k' (by simp [exitTo,hk])⟩
  | goto l=>
   match l,hq,harr with
   | 0,hq,harr=>
    obtain ⟨e₂,a₂,w₂,hq₂,harr₂⟩:=key0 a₁ w₁ hq
    exact ⟨e₂,a₂,w₂,hq₂,.of_steps (harr _ hg0) harr₂⟩
   | 1,hq,harr=>exact hq.elim
   | n+2,hq,harr=>exact hq.elim
  | ret=>exact ⟨_,a₁,w₁,hq,harr⟩
  | panic ch=>exact ⟨_,a₁,w₁,hq,harr⟩
  | outgrown=>exact ⟨_,a₁,w₁,hq,harr⟩
 obtain ⟨e,a₁,w₁,hq,harr⟩:=h b (.inScope c::k) cs
 cases e with
 | normal=>exact ⟨.normal,a₁,w₁,hq,.head step_scope (Steps.trans harr (.one step_inScope))⟩
 | exit id=>exact ⟨.exit id,a₁,w₁,hq,fun k' hk=>.head step_scope (harr k' (by simp [exitTo,hk]))⟩
 | goto l=>
  match l,hq,harr with
  | 0,hq,harr=>
   obtain ⟨e₂,a₂,w₂,hq₂,harr₂⟩:=key0 a₁ w₁ hq
   exact ⟨e₂,a₂,w₂,hq₂,.of_steps (.head step_scope (harr _ hg0)) harr₂⟩
  | 1,hq,harr=>
   obtain ⟨e₂,a₂,w₂,hq₂,harr₂⟩:=key1 a₁ w₁ hq
   exact ⟨e₂,a₂,w₂,hq₂,.of_steps (.head step_scope (harr _ hg1)) harr₂⟩
  | n+2,hq,harr=>exact hq.elim
 | ret=>exact ⟨_,a₁,w₁,hq,.of_steps (.one step_scope) harr⟩
 | panic ch=>exact ⟨_,a₁,w₁,hq,.of_steps (.one step_scope) harr⟩
 | outgrown=>exact ⟨_,a₁,w₁,hq,.of_steps (.one step_scope) harr⟩
end
end Go.Proofs.YtkfggfjdplnkpaaGreatDoor
end
section
namespace Go.Proofs.YtkfggfjdplnkpaaGreatDoor
open Go.RowKit
attribute [local go_sem] gotoTwo_normal gotoTwo_exit gotoTwo_ret gotoTwo_panic
theorem wr64 (n:Int) (h:-9223372036854775808≤n∧n≤9223372036854775807):wrap64 n=n:=by unfold wrap64;omega
structure FTab (w:World) (B:Nat):Prop where
 m:w.cell? ⟨11,0,none⟩=some (.int .u64 52)
 e:w.cell? ⟨11,1,none⟩=some (.int .u64 11)
 b:w.cell? ⟨11,2,none⟩=some (.int .i64 (-1023))
 pow:∃ pb po cap,pb<B∧9≤cap∧w.cell? ⟨13,0,none⟩=some (.slice (some ⟨pb,po,none⟩) 9 cap)∧∀ i,i<9→w.cell? ⟨pb,po+i,none⟩=some (.int .i64 (pwN i:Int))
 cheat:Cheat w B
 low:25<B
theorem FTab.keep {w w':World} {B:Nat} (h:FTab w B) (hl:∀ k,k<B→w'.heap[k]?=w.heap[k]?):FTab w' B:=by
 have hc:∀ b o,b<B→w'.cell? ⟨b,o,none⟩=w.cell? ⟨b,o,none⟩:=fun b o hb=>World.cell?_of_block (hl b hb)
 have h25:=h.low
 obtain ⟨pb,po,cap,h1,h2,h3,h4⟩:=h.pow
 obtain ⟨cb,co,ccap,k1,k2,k3,k4⟩:=h.cheat
 exact ⟨(hc _ _ (by omega)).trans h.m,(hc _ _ (by omega)).trans h.e,(hc _ _ (by omega)).trans h.b,
  ⟨pb,po,cap,h1,h2,(hc _ _ (by omega)).trans h3,fun i hi=>(hc _ _ h1).trans (h4 i hi)⟩,
  ⟨cb,co,ccap,k1,k2,(hc _ _ (by omega)).trans k3,fun k hk=>⟨(hc _ _ k1).trans (k4 k hk).1,(hc _ _ k1).trans (k4 k hk).2⟩⟩,h.low⟩
theorem FTab.only {w w':World} {B g:Nat} (h:FTab w B) (ho:OnlyG g w w') (hg:B≤g) (hlt:g<w.heap.size):FTab w' B:=
 h.keep fun k hk=>ho.block k (by omega) (by omega)
def BitsPost (w:World) (g:Nat) (v:Value) (e:Ending) (w':World):Prop:=e=.returned v∧OnlyG g w w'
def outV (m x:Int):Int:=bits .or .u64 (bits .and .u64 m 4503599627370495) (IntKind.u64.wrap (IntKind.u64.wrap (bits .and .i64 x 2047)*4503599627370496))
def outS (ng:Bool) (v:Int):Int:=match ng with
 | true=>bits .or .u64 v 9223372036854775808
 | false=>v
def fin2 (ng:Bool) (m e:Int):Int × Bool:=if bits .and .u64 m 4503599627370496=0 then (outS ng (outV m 0),false) else (outS ng (outV m (e+1023)),false)
def finB (ng:Bool) (e r:Int):Int × Bool:=
 if 2047≤e+1023 then (outS ng (outV 0 2047),true)
 else if r=9007199254740992 then
  if 2047≤e+1+1023 then (outS ng (outV 0 2047),true) else fin2 ng 4503599627370496 (e+1)
 else fin2 ng r e
set_option maxHeartbeats 8000000 in
theorem bits_nil {w:World} {B g:Nat} {f:Nat→Nat} {dp:Int} {ng tr:Bool} (hT:FTab w B) (h:DecB w g f 0 dp ng tr) :
  Calls Tryz.prog 180 #[.pointer (some ⟨g,0,none⟩),.pointer (some ⟨11,0,none⟩)] w (BitsPost w g (.tuple #[.int .u64 (outS ng (outV 0 0)),.bool false])):=by
 obtain ⟨i0,i1,i2,_,_,_⟩:=hT
 have c8:=h.c800
 have c3:=h.c802
 rw [Int.natCast_zero] at c8
 clear h
 obtain ⟨v,hv⟩:∃ v,outS ng (outV 0 0)=v:=⟨_,rfl⟩
 rw [hv]
 have HV:=Lib.hid hv.symm
 clear hv
 go_enter Tryz.func180,Tryz.ntmps180
 go_wp2_with fail
 apply wp_scope_two ?h0 ?h1
 case h0=>exact rfl
 case h1=>exact rfl
 go_wp2_with fail
 go_step3
 go_wp2_with fail
 rw [gotoTwo_0]
 go_wp2_with fail
 go_quiet (fail)
 cases ng with
 | true=>
  go_wp2_with fail
  go_quiet (fail)
  go_wp2_with fail
  rw [Exit.noGoto_ret]
  go_ret2
  exact ⟨by rw [HV.out];rfl,by repeat (first | exact Only.refl _ _ | refine Only.drewN ?_ _)⟩
 | false=>
  go_wp2_with fail
  rw [Exit.noGoto_ret]
  go_ret2
  exact ⟨by rw [HV.out];rfl,by repeat (first | exact Only.refl _ _ | refine Only.drewN ?_ _)⟩
set_option maxHeartbeats 8000000 in
theorem bits_big {w:World} {B g:Nat} {D:DS} {ng:Bool} (hT:FTab w B) (h:DecS w g D ng) (ho:D.Ok) (hdp:310<D.dp) :
  Calls Tryz.prog 180 #[.pointer (some ⟨g,0,none⟩),.pointer (some ⟨11,0,none⟩)] w (BitsPost w g (.tuple #[.int .u64 (outS ng (outV 0 2047)),.bool true])):=by
 obtain ⟨i0,i1,i2,_,_,_⟩:=hT
 have c8:=DecB.c800 h
 have c1:=DecB.c801 h
 have c3:=DecB.c802 h
 have d1:¬(D.nd:Int)=0:=by have:=ho.pos;omega
 clear h ho
 obtain ⟨v,hv⟩:∃ v,outS ng (outV 0 2047)=v:=⟨_,rfl⟩
 rw [hv]
 have HV:=Lib.hid hv.symm
 clear hv
 go_enter Tryz.func180,Tryz.ntmps180
 go_wp2_with fail
 apply wp_scope_two ?h0 ?h1
 case h0=>exact rfl
 case h1=>exact rfl
 go_wp2_with fail
 go_step3
 go_wp2_with fail
 rw [gotoTwo_1]
 go_wp2_with fail
 go_quiet (fail)
 go_wp2_with fail
 go_step3
 go_wp2_with fail
 go_quiet (fail)
 cases ng with
 | true=>
  go_wp2_with fail
  go_quiet (fail)
  go_wp2_with fail
  rw [gotoTwo_ret]
  go_ret2
  exact ⟨by rw [HV.out];rfl,by repeat (first | exact Only.refl _ _ | refine Only.drewN ?_ _)⟩
 | false=>
  go_wp2_with fail
  rw [gotoTwo_ret]
  go_ret2
  exact ⟨by rw [HV.out];rfl,by repeat (first | exact Only.refl _ _ | refine Only.drewN ?_ _)⟩
set_option maxHeartbeats 8000000 in
theorem bits_small {w:World} {B g:Nat} {D:DS} {ng:Bool} (hT:FTab w B) (h:DecS w g D ng) (ho:D.Ok) (hdp:D.dp < -330) :
  Calls Tryz.prog 180 #[.pointer (some ⟨g,0,none⟩),.pointer (some ⟨11,0,none⟩)] w (BitsPost w g (.tuple #[.int .u64 (outS ng (outV 0 0)),.bool false])):=by
 obtain ⟨i0,i1,i2,_,_,_⟩:=hT
 have c8:=DecB.c800 h
 have c1:=DecB.c801 h
 have c3:=DecB.c802 h
 have d1:¬(D.nd:Int)=0:=by have:=ho.pos;omega
 have d2:¬310<D.dp:=by omega
 clear h ho
 obtain ⟨v,hv⟩:∃ v,outS ng (outV 0 0)=v:=⟨_,rfl⟩
 rw [hv]
 have HV:=Lib.hid hv.symm
 clear hv
 go_enter Tryz.func180,Tryz.ntmps180
 go_wp2_with fail
 apply wp_scope_two ?h0 ?h1
 case h0=>exact rfl
 case h1=>exact rfl
 go_wp2_with fail
 go_step3
 go_wp2_with fail
 rw [gotoTwo_0]
 go_wp2_with fail
 go_quiet (fail)
 cases ng with
 | true=>
  go_wp2_with fail
  go_quiet (fail)
  go_wp2_with fail
  rw [Exit.noGoto_ret]
  go_ret2
  exact ⟨by rw [HV.out];rfl,by repeat (first | exact Only.refl _ _ | refine Only.drewN ?_ _)⟩
 | false=>
  go_wp2_with fail
  rw [Exit.noGoto_ret]
  go_ret2
  exact ⟨by rw [HV.out];rfl,by repeat (first | exact Only.refl _ _ | refine Only.drewN ?_ _)⟩
def scale1 (D:DS):DS × Int:=l1 700 D 0
def scale2 (D:DS):DS × Int:=l2 4200 (scale1 D).1 (scale1 D).2
def scale3 (D:DS):DS × Int:=if (scale2 D).2-1 < -1022 then (shrM 3000 (-1022-((scale2 D).2-1)).toNat (scale2 D).1,-1022) else ((scale2 D).1,(scale2 D).2-1)
theorem l1_zero {D:DS} {e:Int} (h:¬0<D.dp):∀ m,l1 m D e=(D,e)
 | 0=>rfl
 | m+1=>by unfold l1;rw [if_neg h]
theorem l2_zero {D:DS} {e:Int} (h:¬low D):∀ m,l2 m D e=(D,e)
 | 0=>rfl
 | m+1=>by unfold l2;rw [if_neg h]
theorem shrM_dp:∀ (m n:Nat) (D:DS),D.Ok→0<n→(n≤60*m+60)→D.dp-62*((m:Int)+1)≤(shrM m n D).dp∧(shrM m n D).dp≤D.dp
 | 0,n,D,h,hn,hm=>by
  have hok:=shrD_ok (k:=n) h hn
  have hR:=rsR_le D.f D.nd n
  have hR1:=(rsR_spec (k:=n) h.head h.digs h.pos hn).2.2
  show _≤(shrD n D).dp∧(shrD n D).dp≤_
  rw [hok.2.1]
  omega
 | m+1,n,D,h,hn,hm=>by
  unfold shrM
  split
  ·have hok:=shrD_ok (k:=60) h (by omega)
   have hR:=rsR_le D.f D.nd 60
   have hR1:=(rsR_spec (k:=60) h.head h.digs h.pos (by omega)).2.2
   have:=shrM_dp m (n-60) (shrD 60 D) hok.1 (by omega) (by omega)
   rw [hok.2.1] at this
   omega
  ·have hok:=shrD_ok (k:=n) h hn
   have hR:=rsR_le D.f D.nd n
   have hR1:=(rsR_spec (k:=n) h.head h.digs h.pos hn).2.2
   rw [hok.2.1]
   omega
theorem l1_ok:∀ (m:Nat) (E:DS) (e:Int),E.Ok→m1 E≤m→-400≤E.dp→E.dp≤310→(l1 m E e).1.Ok∧-400≤(l1 m E e).1.dp∧(l1 m E e).1.dp≤310
 | 0,E,e,h,_,h1,h2=>⟨h,h1,h2⟩
 | m+1,E,e,h,hm,h1,h2=>by
  unfold l1
  split
  ·next hp=>
   have:=m1_less h hp
   have hb:=pwN_le E.dp.toNat
   exact l1_ok m _ _ (shrD_ok h (by omega)).1 (by omega) (by omega) (by omega)
  ·exact ⟨h,h1,h2⟩
theorem l1_up:∀ (m:Nat) (E:DS) (e:Int),e≤(l1 m E e).2
 | 0,E,e=>Int.le_refl _
 | m+1,E,e=>by
  unfold l1
  split
  ·exact Int.le_trans (by omega) (l1_up m _ _)
  ·exact Int.le_refl _
theorem l2_up:∀ (m:Nat) (E:DS) (e:Int),e-27*(m:Int)≤(l2 m E e).2
 | 0,E,e=>by show _≤e;omega
 | m+1,E,e=>by
  unfold l2
  split
  ·have hb:=pwN_le (-E.dp).toNat
   exact Int.le_trans (by omega) (l2_up m _ _)
  ·show _≤e;omega
theorem l2_ok:∀ (m:Nat) (E:DS) (e:Int),E.Ok→m2 E≤m→-400≤E.dp→E.dp≤400→(l2 m E e).1.Ok∧-400≤(l2 m E e).1.dp∧(l2 m E e).1.dp≤400
 | 0,E,e,h,_,h1,h2=>⟨h,h1,h2⟩
 | m+1,E,e,h,hm,h1,h2=>by
  unfold l2
  split
  ·next hp=>
   have:=m2_less h hp
   have hb:=pwN_le (-E.dp).toNat
   have hd:E.dp≤0:=by rcases hp with q | q <;> omega
   exact l2_ok m _ (e-(pwN (-E.dp).toNat:Int)) (shlD_ok h (by omega) (by omega)).1 (by omega) (by omega) (by omega)
  ·exact ⟨h,h1,h2⟩
theorem scale_ok (D:DS) (h:D.Ok) (hdp:-330≤D.dp∧D.dp≤310):(scale3 D).1.Ok∧-400000≤(scale3 D).1.dp∧(scale3 D).1.dp≤400:=by
 have a:=l1_ok 700 D 0 h (by unfold m1; split <;> omega) (by omega) (by omega)
 have a':(scale1 D).1.Ok∧-400≤(scale1 D).1.dp∧(scale1 D).1.dp≤310:=a
 have hm:m2 (scale1 D).1≤4200:=by
  have h1:=a'.2.1
  unfold m2
  omega
 have b:(scale2 D).1.Ok∧-400≤(scale2 D).1.dp∧(scale2 D).1.dp≤400:=l2_ok 4200 (scale1 D).1 (scale1 D).2 a'.1 hm a'.2.1 (by have:=a'.2.2;omega)
 have c1:(0:Int)≤(scale1 D).2:=l1_up 700 D 0
 have c2:(scale1 D).2-27*((4200:Nat):Int)≤(scale2 D).2:=l2_up 4200 (scale1 D).1 (scale1 D).2
 obtain ⟨b1,b2,b3⟩:=b
 unfold scale3
 split
 ·next hl=>
  obtain ⟨n,hn⟩:∃ n:Nat,(-1022-((scale2 D).2-1)).toNat=n:=⟨_,rfl⟩
  rw [hn]
  have hdp:=shrM_dp 3000 n (scale2 D).1 b1 (by omega) (by omega)
  exact ⟨shrM_ok (D:=D) 3000 n _ b1 (by omega),by show _≤(shrM 3000 n (scale2 D).1).dp;omega,by show (shrM 3000 n (scale2 D).1).dp≤_;omega⟩
 ·exact ⟨b1,by show _≤(scale2 D).1.dp;omega,by show (scale2 D).1.dp≤_;omega⟩
set_option maxHeartbeats 16000000 in
theorem bits_mid (D:DS) (ng:Bool) (ho:D.Ok) (hdp:-330≤D.dp∧D.dp≤310) (r:Int)
  (hround:∀ w g,DecS w g (shlD 53 (scale3 D).1) ng→Calls Tryz.prog 201 #[.pointer (some ⟨g,0,none⟩)] w (Quiet w (.int .u64 r)))
  {w:World} {B g:Nat} (hT:FTab w B) (hB:B≤g) (h:DecS w g D ng) :
  Calls Tryz.prog 180 #[.pointer (some ⟨g,0,none⟩),.pointer (some ⟨11,0,none⟩)] w (BitsPost w g (.tuple #[.int .u64 (finB ng (scale3 D).2 r).1,.bool (finB ng (scale3 D).2 r).2])):=by
 obtain ⟨v,hv⟩:∃ v,finB ng (scale3 D).2 r=v:=⟨_,rfl⟩
 rw [hv]
 have HFIN:=Lib.hid hv.symm
 clear hv
 obtain ⟨D1,hD1⟩:∃ x,(scale1 D).1=x:=⟨_,rfl⟩
 obtain ⟨e1,he1⟩:∃ x,(scale1 D).2=x:=⟨_,rfl⟩
 obtain ⟨D2,hD2⟩:∃ x,(scale2 D).1=x:=⟨_,rfl⟩
 obtain ⟨e2,he2⟩:∃ x,(scale2 D).2=x:=⟨_,rfl⟩
 have hs1:l1 700 D 0=(D1,e1):=by rw [←hD1,←he1];rfl
 have hs2:l2 4200 D1 e1=(D2,e2):=by rw [←hD2,←he2,←hD1,←he1];rfl
 have hs3:scale3 D=if e2-1 < -1022 then (shrM 3000 (-1022-(e2-1)).toNat D2,-1022) else (D2,e2-1):=by unfold scale3;rw [hD2,he2]
 have HS1:=Lib.hid hs1
 have HS2:=Lib.hid hs2
 have HS3:=Lib.hid hs3
 have HR:=Lib.hid hround
 have HT:=Lib.hid hT
 have HH:=Lib.hid h
 have HO:=Lib.hid ho
 have HX:=Lib.hid (And.intro hdp hB)
 have hlt:=DecB.lt h
 have HLT:=Lib.hid hlt
 have hm1:m1 D≤700:=by unfold m1; split <;> omega
 have HM1:=Lib.hid hm1
 have c8:=DecB.c800 h
 have c1:=DecB.c801 h
 have d1:¬(D.nd:Int)=0:=by have:=ho.pos;omega
 have d2:¬310<D.dp:=by omega
 have d3:¬D.dp < -330:=by omega
 have d4:-330≤D.dp∧D.dp≤310:=hdp
 clear hD1 he1 hD2 he2 hs1 hs2 hs3 hround hT h ho hdp hB hlt hm1
 go_enter Tryz.func180,Tryz.ntmps180
 go_wp2_with fail
 apply wp_scope_two ?h0 ?h1
 case h0=>exact rfl
 case h1=>exact rfl
 go_wp2_with fail
 generalize ((D.nd:Int)==0)=bz
 clear c8 c1 d1 d2 d3 d4
 go_loopg [6] 700 (fun mq v6 wr=>∃ (E:DS) (e:Int),v6=.int .i64 e∧m1 E≤mq∧l1 mq E e=(D1,e1)∧E.Ok∧DecS wr g E ng∧OnlyG g w wr∧-400≤E.dp∧E.dp≤310∧0≤e∧e+27*(mq:Int)≤18900)
 case atStart=>exact ⟨D,0,rfl,HM1.out,HS1.out,HO.out,HH.out,Only.refl _ _,by have:=HX.out;omega,by have:=HX.out;omega,by omega,by omega⟩
 case round=>
  obtain ⟨E,e,rfl,h1,h2,h3,h4,h5,h6,h7,h8,h9⟩:=hrel
  have H5:=Lib.hid h5
  have HO5:=Lib.hid h3
  have c1:=DecB.c801 h4
  have hT5:=HT.out.only h5 HX.out.2 HLT.out
  have HT5:=Lib.hid hT5
  obtain ⟨pb,po,cap,k1,k2,k3,k4⟩:=hT5.pow
  by_cases hp:0<E.dp
  ·cases gk with
   | zero=>unfold m1 at h1;omega
   | succ m=>
    obtain ⟨q,hq⟩:∃ q:Nat,E.dp=(q:Int):=⟨E.dp.toNat,by omega⟩
    have hqt:E.dp.toNat=q:=by omega
    have hml:=m1_less h3 hp
    rw [hqt] at hml
    obtain ⟨pn,hpn⟩:∃ pn,pwN q=pn:=⟨_,rfl⟩
    have hpb:=pwN_le q
    rw [hpn] at hml hpb
    have hcon:Hid (∀ w',DecS w' g E ng→OnlyG g w w'→Calls Tryz.prog 200 #[.pointer (some ⟨g,0,none⟩),.int .i64 (-(pn:Int))] w' fun e w''=>e=.returned (.tuple #[])∧DecS w'' g (shrD pn E) ng∧OnlyG g w w''):=Lib.hid fun w' k1 k2=>
     (shift_right k1 h3 (n:=pn) (by omega) (by omega) (by omega)).mono fun e w'' ⟨he,hd,hw⟩=>⟨he,by rw [show shrM 3000 pn E=shrD pn E by show (if 60<pn then _ else shrD pn E)=_;rw [if_neg (by omega)]] at hd;exact hd,k2.trans hw (fun k hk=>.inl hk)⟩
    have H4:=Lib.hid h4
    have heq:l1 m (shrD pn E) (e+(pn:Int))=(D1,e1):=by
     rw [←h2]
     show _=if 0<E.dp then l1 m (shrD (pwN E.dp.toNat) E) (e+(pwN E.dp.toNat:Int)) else (E,e)
     rw [if_pos hp,hqt,hpn]
    have hok:=shrD_ok (k:=pn) h3 (by omega)
    rw [hq] at c1
    have b1:(0:Int)<(q:Int):=by omega
    have WN:IntKind.i64.wrap (-(pn:Int))=-(pn:Int):=IntWalk.i64_in _ (by omega)
    have WE:IntKind.i64.wrap (e+(pn:Int))=e+(pn:Int):=IntWalk.i64_in _ (by omega)
    have HP:=Lib.hid (And.intro h1 (And.intro heq (And.intro hok (And.intro hml (And.intro h6 (And.intro h7 (And.intro h8 (And.intro h9 (And.intro hpb hq)))))))))
    by_cases hq9:q<9
    ·have kq:=k4 q hq9
     rw [hpn] at kq
     have b2:¬(9:Int)≤(q:Int):=by omega
     have b3:(q:Int)<9:=by omega
     clear h1 h2 h3 h4 h5 h6 h7 h8 h9 hp hq hqt hml hpn hpb heq hok k4 hT5 hq9
     go_wp2
     go_quiet (fail)
     go_wp2
     go_quiet (fail)
     go_wp2_with fail
     refine (hcon.out _ (by repeat (first | exact H4.out | refine DecB.drewN ?_ _)) (by repeat (first | exact H5.out | refine Only.drewN ?_ _))).mono ?_
     clear hcon
     rintro ex w2 ⟨rfl,q2,q3⟩
     have K2:=Lib.hid q2
     have K3:=Lib.hid q3
     clear q2 q3
     go_wp2_with fail
     go_roundg m
     case measure=>omega
     case rel=>
      obtain ⟨h1,heq,hok,hml,h6,h7,h8,h9,hpb,hq⟩:=HP.out
      exact ⟨_,e+(pn:Int),by first | rfl | exact congrArg _ WE',by omega,heq,hok.1,K2.out,K3.out,by omega,by omega,by omega,by omega⟩
    ·have e27:pn=27:=by rw [←hpn];unfold pwN;rw [if_neg hq9]
     subst e27
     have b2:(9:Int)≤(q:Int):=by omega
     have WE':wrap64 (e+27)=e+27:=wr64 _ (by omega)
     clear h1 h2 h3 h4 h5 h6 h7 h8 h9 hp hq hqt hml hpn hpb heq hok k4 hT5 hq9
     go_wp2
     go_quiet (fail)
     go_wp2_with fail
     refine (hcon.out _ (by repeat (first | exact H4.out | refine DecB.drewN ?_ _)) (by repeat (first | exact H5.out | refine Only.drewN ?_ _))).mono ?_
     clear hcon
     rintro ex w2 ⟨rfl,q2,q3⟩
     have K2:=Lib.hid q2
     have K3:=Lib.hid q3
     clear q2 q3
     go_wp2_with fail
     go_roundg m
     case measure=>omega
     case rel=>
      obtain ⟨h1,heq,hok,hml,h6,h7,h8,h9,hpb,hq⟩:=HP.out
      exact ⟨_,e+((27:Nat):Int),by first | rfl | exact congrArg _ WE',by omega,heq,hok.1,K2.out,K3.out,by omega,by omega,by omega,by omega⟩
  ·have hD:E=D1∧e=e1:=by
    have:=h2
    rw [l1_zero hp] at this
    injection this with a b
    exact ⟨a,b⟩
   obtain ⟨rfl,rfl⟩:=hD
   have HE:=Lib.hid (And.intro h6 (And.intro h7 (And.intro h8 (And.intro h9 hp))))
   have H4:=Lib.hid h4
   have b1:¬0<E.dp:=hp
   have hm2:m2 E≤4200:=by unfold m2;omega
   have HM2:=Lib.hid hm2
   clear h1 h2 h3 h4 h5 h6 h7 h8 h9 hp hT5 k4 k1 k2 k3 hm2
   go_upto_block 2 with fail
   go_cut [6] from 35 to 102 (fun v6 wx=>v6=.int .i64 e2∧DecS wx g D2 ng∧OnlyG g w wx∧D2.Ok∧-400≤D2.dp∧D2.dp≤40∧-113400≤e2∧e2≤18900)
   case first=>
    clear b1 c1
    go_wp2_with fail
    go_loopg [6] 4200 (fun mq v6 wr2=>∃ (F:DS) (x:Int),v6=.int .i64 x∧m2 F≤mq∧l2 mq F x=(D2,e2)∧F.Ok∧DecS wr2 g F ng∧OnlyG g w wr2∧-400≤F.dp∧F.dp≤40∧-113400+27*(mq:Int)≤x∧x≤18900)
    case atStart=>exact ⟨E,e,rfl,HM2.out,HS2.out,HO5.out,H4.out,H5.out,HE.out.1,by have:=HE.out;omega,by have:=HE.out;omega,by have:=HE.out;omega⟩
    case round=>
     obtain ⟨F,x,rfl,h1,h2,h3,h4,h5,h6,h7,h8,h9⟩:=hrel
     have K4:=Lib.hid h4
     have K5:=Lib.hid h5
     have KO:=Lib.hid h3
     have c1:=DecB.c801 h4
     have hT6:=HT.out.only h5 HX.out.2 HLT.out
     have HT6:=Lib.hid hT6
     obtain ⟨pb,po,cap,k1,k2,k3,k4⟩:=hT6.pow
     have hx0:=h3.digs 0 h3.pos
     have cx:=DecB.d h4 0 (by omega)
     by_cases hlo:low F
     ·cases gk with
      | zero=>unfold m2 at h1;omega
      | succ m=>
       have hdp0:F.dp≤0:=by rcases hlo with h | h <;> omega
       obtain ⟨q,hq⟩:∃ q:Nat,F.dp=-(q:Int):=⟨(-F.dp).toNat,by omega⟩
       have hqt:(-F.dp).toNat=q:=by omega
       have hml:=m2_less h3 hlo
       rw [hqt] at hml
       obtain ⟨pn,hpn⟩:∃ pn,pwN q=pn:=⟨_,rfl⟩
       have hpb:=pwN_le q
       rw [hpn] at hml hpb
       have hcon:Hid (∀ w',DecS w' g F ng→OnlyG g w w'→Calls Tryz.prog 200 #[.pointer (some ⟨g,0,none⟩),.int .i64 (pn:Int)] w' fun e w''=>e=.returned (.tuple #[])∧DecS w'' g (shlD pn F) ng∧OnlyG g w w''):=Lib.hid fun w' k1 k2=>
        (shift_left (HT.out.only k2 HX.out.2 HLT.out).cheat HX.out.2 (by have:=HT.out.low;omega) k1 h3 (k:=pn) (by omega) (by omega) (by omega)).mono fun e w'' ⟨he,hd,hw⟩=>⟨he,hd,k2.trans hw (fun k hk=>.inl hk)⟩
       have heq:l2 m (shlD pn F) (x-(pn:Int))=(D2,e2):=by
        rw [←h2]
        show _=if low F then l2 m (shlD (pwN (-F.dp).toNat) F) (x-(pwN (-F.dp).toNat:Int)) else (F,x)
        rw [if_pos hlo,hqt,hpn]
       have hok:=shlD_ok (k:=pn) h3 (by omega) (by omega)
       rw [hq] at c1
       have WE:IntKind.i64.wrap (x-(pn:Int))=x-(pn:Int):=IntWalk.i64_in _ (by omega)
       have HP:=Lib.hid (And.intro h1 (And.intro heq (And.intro hok.1 (And.intro hml (And.intro h6 (And.intro h7 (And.intro h8 (And.intro h9 (And.intro hpb hq)))))))))
       have WNN:IntKind.i64.wrap (- -(q:Int))=(q:Int):=by rw [Int.neg_neg];exact IntWalk.i64_in _ (by omega)
       have hbx:(x:Int)-27≤20000∧-114000≤x-27:=by omega
       by_cases hq0:q=0
       ·have hf0:F.f 0<53:=by rcases hlo with h | h <;> omega
        subst hq0
        have e1:(pn:Int)=1:=by rw [←hpn];rfl
        rw [e1] at hcon
        have WE':wrap64 (x-1)=x-(pn:Int):=by rw [e1];exact wr64 _ ⟨by omega,by omega⟩
        obtain ⟨y,hy⟩:∃ y,F.f 0=y:=⟨_,rfl⟩
        rw [hy] at cx hf0
        have b4:(y:Int)<53:=by omega
        have k0:=k4 0 (by omega)
        rw [show pwN 0=1 from rfl,Nat.add_zero] at k0
        rw [show (-((0:Nat):Int))=0 from rfl] at c1
        clear h1 h2 h3 h4 h5 h6 h7 h8 h9 hlo hq hqt hml hpn hpb heq hok k4 hT6 hdp0 hf0 hy hx0 WNN
        go_wp2
        go_quiet (fail)
        go_wp2
        go_quiet (fail)
        go_wp2_with fail
        refine (hcon.out _ (by repeat (first | exact K4.out | refine DecB.drewN ?_ _)) (by repeat (first | exact K5.out | refine Only.drewN ?_ _))).mono ?_
        clear hcon
        rintro ex w2 ⟨rfl,q2,q3⟩
        have K2:=Lib.hid q2
        have K3:=Lib.hid q3
        clear q2 q3
        go_wp2_with fail
        go_roundg m
        case measure=>omega
        case rel=>
         obtain ⟨h1,heq,hok,hml,h6,h7,h8,h9,hpb,hq⟩:=HP.out
         exact ⟨_,x-(pn:Int),by first | exact congrArg _ WE' | exact congrArg _ (by rw [←WE'];rfl) | exact congrArg _ (by have:=WE';rw [wr64 _ ⟨by omega,by omega⟩] at this;exact this),by omega,heq,hok,K2.out,K3.out,by omega,by omega,by omega,by omega⟩
       ·have b0:-(q:Int)<0:=by omega
        by_cases hq9:q<9
        ·have kq:=k4 q hq9
         rw [hpn] at kq
         have b2:¬(9:Int)≤(q:Int):=by omega
         have b3:(q:Int)<9:=by omega
         clear h1 h2 h3 h4 h5 h6 h7 h8 h9 hlo hq hqt hml hpn hpb heq hok k4 hT6 hdp0 hx0 hq0 hq9
         go_wp2
         go_quiet (fail)
         go_wp2
         go_quiet (fail)
         go_wp2_with fail
         refine (hcon.out _ (by repeat (first | exact K4.out | refine DecB.drewN ?_ _)) (by repeat (first | exact K5.out | refine Only.drewN ?_ _))).mono ?_
         clear hcon
         rintro ex w2 ⟨rfl,q2,q3⟩
         have K2:=Lib.hid q2
         have K3:=Lib.hid q3
         clear q2 q3
         go_wp2_with fail
         go_roundg m
         case measure=>omega
         case rel=>
          obtain ⟨h1,heq,hok,hml,h6,h7,h8,h9,hpb,hq⟩:=HP.out
          exact ⟨_,x-(pn:Int),rfl,by omega,heq,hok,K2.out,K3.out,by omega,by omega,by omega,by omega⟩
        ·have e27:(pn:Int)=27:=by rw [←hpn];unfold pwN;rw [if_neg hq9];rfl
         have b2:(9:Int)≤(q:Int):=by omega
         have b3:(q:Int)≤400:=by omega
         have WE':wrap64 (x-27)=x-(pn:Int):=by rw [e27];exact wr64 _ ⟨by omega,by omega⟩
         rw [e27] at hcon
         have E27:=Lib.hid e27
         clear e27
         clear h1 h2 h3 h4 h5 h6 h7 h8 h9 hlo hq hqt hml hpn hpb heq hok k4 hT6 hdp0 hx0 hq0 hq9
         go_wp2
         go_quiet (fail)
         go_wp2_with fail
         refine (hcon.out _ (by repeat (first | exact K4.out | refine DecB.drewN ?_ _)) (by repeat (first | exact K5.out | refine Only.drewN ?_ _))).mono ?_
         clear hcon
         rintro ex w2 ⟨rfl,q2,q3⟩
         have K2:=Lib.hid q2
         have K3:=Lib.hid q3
         clear q2 q3
         go_wp2_with fail
         go_roundg m
         case measure=>omega
         case rel=>
          obtain ⟨h1,heq,hok,hml,h6,h7,h8,h9,hpb,hq⟩:=HP.out
          exact ⟨_,x-(pn:Int),by have:=E27.out;exact congrArg _ (by omega),by omega,heq,hok,K2.out,K3.out,by omega,by omega,by omega,by omega⟩
     ·have hD:F=D2∧x=e2:=by
       have:=h2
       rw [l2_zero hlo] at this
       injection this with a b
       exact ⟨a,b⟩
      obtain ⟨rfl,rfl⟩:=hD
      have hn1:¬F.dp<0:=fun h=>hlo (.inl h)
      have HN:=Lib.hid (And.intro h6 (And.intro h7 (And.intro h8 h9)))
      by_cases hz:F.dp=0
      ·have hf0:¬F.f 0<53:=fun h=>hlo (.inr ⟨hz,h⟩)
       obtain ⟨y,hy⟩:∃ y,F.f 0=y:=⟨_,rfl⟩
       rw [hy] at cx hf0
       have b4:¬(y:Int)<53:=by omega
       rw [hz] at c1
       clear h1 h2 h3 h4 h5 h6 h7 h8 h9 hlo k4 hT6 hx0 hn1 hz hy hf0
       go_wp2
       go_meet
       exact ⟨rfl,K4.out,K5.out,KO.out,HN.out.1,HN.out.2.1,by have:=HN.out;omega,HN.out.2.2.2⟩
      ·clear h1 h2 h3 h4 h5 h6 h7 h8 h9 hlo k4 hT6 hx0
       go_wp2
       go_meet
       exact ⟨rfl,K4.out,K5.out,KO.out,HN.out.1,HN.out.2.1,by have:=HN.out;omega,HN.out.2.2.2⟩
   case rest=>
    obtain ⟨rfl,h1,h2,h3,h4,h5,h6,h7⟩:=hcut
    obtain ⟨D3,hD3⟩:∃ y,(scale3 D).1=y:=⟨_,rfl⟩
    obtain ⟨e3,he3⟩:∃ y,(scale3 D).2=y:=⟨_,rfl⟩
    have hs3:=HS3.out
    have WE1:IntKind.i64.wrap (e2-1)=e2-1:=IntWalk.i64_in _ (by omega)
    have K1:=Lib.hid h1
    have K2:=Lib.hid h2
    have K3:=Lib.hid h3
    have HT7:=HT.out.only h2 HX.out.2 HLT.out
    have i0:=HT7.m
    have i1:=HT7.e
    have i2:=HT7.b
    go_upto_if 111 with fail
    go_cut [6] from 103 to 125 (fun v6 wx=>v6=.int .i64 e3∧DecS wx g D3 ng∧OnlyG g w wx∧D3.Ok∧-300000≤D3.dp∧D3.dp≤40∧-1022≤e3∧e3≤18900)
    case first=>
     by_cases hlow:e2-1 < -1022
     ·obtain ⟨n,hn⟩:∃ n:Nat,(n:Int)=-1022-(e2-1):=⟨(-1022-(e2-1)).toNat,by omega⟩
      have hcon:=Lib.hid (shift_right (n:=n) h1 h3 (by omega) (by omega) (by omega))
      have hdp:=shrM_dp 3000 n D2 h3 (by omega) (by omega)
      have hok:=shrM_ok (D:=D2) 3000 n D2 h3 (by omega)
      rw [if_pos hlow,show (-1022-(e2-1)).toNat=n by omega] at hs3
      rw [hs3] at hD3 he3
      obtain ⟨DX,hDX⟩:∃ y,shrM 3000 n D2=y:=⟨_,rfl⟩
      rw [hDX] at hcon hdp hok hD3
      have hD3':DX=D3:=hD3
      have he3':(-1022:Int)=e3:=he3
      subst hD3'
      subst he3'
      have HP:=Lib.hid (And.intro hdp (And.intro hok (And.intro h4 (And.intro h5 hn))))
      have b1:-1022-(e2-1)=(n:Int):=hn.symm
      have b2:(n:Int)≤200000:=by omega
      have b3:e2-1+(n:Int)=-1022:=by omega
      clear h1 h2 h3 h4 h5 h6 h7 hD3 he3 hs3 hdp hok hn hDX HT7
      go_wp2_with fail
      refine hcon.out.mono ?_
      clear hcon
      rintro ex w3 ⟨rfl,q2,q3⟩
      have L2:=Lib.hid q2
      have L3:=Lib.hid (K2.out.trans q3 (fun k hk=>.inl hk))
      clear q2 q3
      go_wp2_with fail
      go_meet
      obtain ⟨hdp,hok,h4,h5,hn⟩:=HP.out
      exact ⟨rfl,L2.out,L3.out,hok,by omega,by omega,by omega,by omega⟩
     ·rw [if_neg hlow] at hs3
      rw [hs3] at hD3 he3
      have hD3':D2=D3:=hD3
      have he3':e2-1=e3:=he3
      subst hD3'
      have HP:=Lib.hid (And.intro h4 (And.intro h5 (And.intro h6 (And.intro h7 (And.intro hlow he3')))))
      clear h1 h2 h3 h4 h5 h6 h7 hD3 he3 hs3 he3' HT7
      go_wp2_with fail
      go_meet
      obtain ⟨h4,h5,h6,h7,h8,h9⟩:=HP.out
      exact ⟨by rw [h9],K1.out,K2.out,K3.out,by omega,h5,by omega,by omega⟩
    case rest=>
     obtain ⟨rfl,q1,q2,q3,q4,q5,q6,q7⟩:=hcut
     rw [hD3] at HR
     rw [he3] at HFIN
     have L1:=Lib.hid q1
     have L2:=Lib.hid q2
     have HT8:=HT.out.only q2 HX.out.2 HLT.out
     have j0:=HT8.m
     have j1:=HT8.e
     have j2:=HT8.b
     have c3:=DecB.c802 q1
     have hcon:Hid (∀ w',DecS w' g D3 ng→OnlyG g w w'→Calls Tryz.prog 200 #[.pointer (some ⟨g,0,none⟩),.int .i64 53] w' fun e w''=>e=.returned (.tuple #[])∧DecS w'' g (shlD 53 D3) ng∧OnlyG g w w''):=Lib.hid fun w' k1 k2=>
      (shift_left (HT.out.only k2 HX.out.2 HLT.out).cheat HX.out.2 (by have:=HT.out.low;omega) k1 q3 (k:=53) (by omega) (by omega) (by omega)).mono fun e w'' ⟨he,hd,hw⟩=>⟨he,hd,k2.trans hw (fun k hk=>.inl hk)⟩
     have b1:e3+1023≤20000:=by omega
     have b2:0≤e3+1023-1+1:=by omega
     have b3:-1022≤e3:=q6
     have b4:e3≤18900:=q7
     clear h1 h2 h3 h4 h5 h6 h7 q1 q2 q3 q4 q5 q6 q7 HT7 HT8 i0 i1 i2 hD3 he3 hs3 WE1
     by_cases hov:2047≤e3+1023
     ·have HFV:Hid (v=(outS ng (outV 0 2047),true)):=Lib.hid (by rw [HFIN.out];unfold finB;rw [if_pos hov])
      go_wp2_with fail
      go_quiet (fail)
      go_wp2_with fail
      go_step3
      go_wp2_with fail
      rw [gotoTwo_1]
      go_wp2_with fail
      go_quiet (fail)
      go_wp2_with fail
      go_step3
      go_wp2_with fail
      go_quiet (fail)
      cases ng with
      | true=>
       go_wp2_with fail
       go_quiet (fail)
       go_wp2_with fail
       rw [gotoTwo_ret]
       go_ret2
       exact ⟨by rw [HFV.out];rfl,by repeat (first | exact L2.out | refine Only.drewN ?_ _)⟩
      | false=>
       go_wp2_with fail
       rw [gotoTwo_ret]
       go_ret2
       exact ⟨by rw [HFV.out];rfl,by repeat (first | exact L2.out | refine Only.drewN ?_ _)⟩
     ·go_wp2_with fail
      go_quiet (fail)
      go_wp2_with fail
      refine (hcon.out _ (by repeat (first | exact L1.out | refine DecB.drewN ?_ _)) (by repeat (first | exact L2.out | refine Only.drewN ?_ _))).mono ?_
      clear hcon j0 j1 j2 c3
      rintro ex w4 ⟨rfl,q2,q3⟩
      have M1:=Lib.hid q2
      have M2:=Lib.hid q3
      have HT9:=HT.out.only q3 HX.out.2 HLT.out
      have j0:=HT9.m
      have j1:=HT9.e
      have j2:=HT9.b
      have c3:=DecB.c802 q2
      clear q2 q3 HT9
      go_wp2_with fail
      refine (HR.out _ _ M1.out).mono ?_
      rintro ex w5 ⟨rfl,n5,rfl⟩
      by_cases hr9:r=9007199254740992
      ·subst hr9
       have A0:bits .and .u64 4503599627370496 4503599627370496=4503599627370496:=by decide
       by_cases hov2:2047≤e3+1+1023
       ·have HFV:Hid (v=(outS ng (outV 0 2047),true)):=Lib.hid (by rw [HFIN.out];unfold finB;rw [if_neg (by omega),if_pos rfl,if_pos (by omega)])
        go_wp2_with fail
        go_quiet (fail)
        go_wp2_with fail
        go_step3
        go_wp2_with fail
        rw [gotoTwo_1]
        go_wp2_with fail
        go_quiet (fail)
        go_wp2_with fail
        go_step3
        go_wp2_with fail
        go_quiet (fail)
        cases ng with
        | true=>
         go_wp2_with fail
         go_quiet (fail)
         go_wp2_with fail
         rw [gotoTwo_ret]
         go_ret2
         exact ⟨by rw [HFV.out];rfl,by repeat (first | exact M2.out | refine Only.drewN ?_ _)⟩
        | false=>
         go_wp2_with fail
         rw [gotoTwo_ret]
         go_ret2
         exact ⟨by rw [HFV.out];rfl,by repeat (first | exact M2.out | refine Only.drewN ?_ _)⟩
       ·have HFV:Hid (v=(outS ng (outV 4503599627370496 (e3+1+1023)),false)):=Lib.hid (by rw [HFIN.out];unfold finB fin2;rw [if_neg (by omega),if_pos rfl,if_neg (by omega),if_neg (by rw [A0];decide)])
        go_wp2_with fail
        go_quiet (fail)
        go_wp2_with fail
        go_step3
        go_wp2_with fail
        rw [gotoTwo_0]
        go_wp2_with fail
        go_quiet (fail)
        cases ng with
        | true=>
         go_wp2_with fail
         go_quiet (fail)
         go_wp2_with fail
         rw [Exit.noGoto_ret]
         go_ret2
         exact ⟨by rw [HFV.out];rfl,by repeat (first | exact M2.out | refine Only.drewN ?_ _)⟩
        | false=>
         go_wp2_with fail
         rw [Exit.noGoto_ret]
         go_ret2
         exact ⟨by rw [HFV.out];rfl,by repeat (first | exact M2.out | refine Only.drewN ?_ _)⟩
      ·obtain ⟨aa,haa⟩:∃ aa,bits .and .u64 r 4503599627370496=aa:=⟨_,rfl⟩
       by_cases hz:aa=0
       ·have HFV:Hid (v=(outS ng (outV r 0),false)):=Lib.hid (by rw [HFIN.out];unfold finB fin2;rw [if_neg (by omega),if_neg hr9,if_pos (by rw [haa];exact hz)])
        rw [hz] at haa
        go_wp2_with fail
        go_step3
        go_wp2_with fail
        rw [gotoTwo_0]
        go_wp2_with fail
        go_quiet (fail)
        cases ng with
        | true=>
         go_wp2_with fail
         go_quiet (fail)
         go_wp2_with fail
         rw [Exit.noGoto_ret]
         go_ret2
         exact ⟨by rw [HFV.out];rfl,by repeat (first | exact M2.out | refine Only.drewN ?_ _)⟩
        | false=>
         go_wp2_with fail
         rw [Exit.noGoto_ret]
         go_ret2
         exact ⟨by rw [HFV.out];rfl,by repeat (first | exact M2.out | refine Only.drewN ?_ _)⟩
       ·have HFV:Hid (v=(outS ng (outV r (e3+1023)),false)):=Lib.hid (by rw [HFIN.out];unfold finB fin2;rw [if_neg (by omega),if_neg hr9,if_neg (by rw [haa];exact hz)])
        go_wp2_with fail
        go_step3
        go_wp2_with fail
        rw [gotoTwo_0]
        go_wp2_with fail
        go_quiet (fail)
        cases ng with
        | true=>
         go_wp2_with fail
         go_quiet (fail)
         go_wp2_with fail
         rw [Exit.noGoto_ret]
         go_ret2
         exact ⟨by rw [HFV.out];rfl,by repeat (first | exact M2.out | refine Only.drewN ?_ _)⟩
        | false=>
         go_wp2_with fail
         rw [Exit.noGoto_ret]
         go_ret2
         exact ⟨by rw [HFV.out];rfl,by repeat (first | exact M2.out | refine Only.drewN ?_ _)⟩
theorem floatBits_det (D:DS) (ng:Bool) (ho:D.nd=0∨D.Ok) :
  ∃ (v:Int) (b:Bool),∀ w B g,FTab w B→B≤g→DecS w g D ng→Calls Tryz.prog 180 #[.pointer (some ⟨g,0,none⟩),.pointer (some ⟨11,0,none⟩)] w (BitsPost w g (.tuple #[.int .u64 v,.bool b])):=by
 by_cases h0:D.nd=0
 ·refine ⟨_,_,fun w B g hT hB h=>bits_nil (f:=D.f) (dp:=D.dp) (ng:=ng) (tr:=D.tr) hT ?_⟩
  rw [←h0]
  exact h
 ·have ho':D.Ok:=ho.resolve_left h0
  by_cases h1:310<D.dp
  ·exact ⟨_,_,fun w B g hT hB h=>bits_big hT h ho' h1⟩
  ·by_cases h2:D.dp < -330
   ·exact ⟨_,_,fun w B g hT hB h=>bits_small hT h ho' h2⟩
   ·have hs:=scale_ok D ho' ⟨by omega,by omega⟩
    have hsh:=shlD_ok (k:=53) hs.1 (by omega) (by omega)
    have hdl:shD (valN (scale3 D).1.f (scale3 D).1.nd*2 ^ 53) (scale3 D).1.nd 53≤60:=by
     have:dlt 53=16:=by decide
     unfold shD
     rw [this]
     split <;> omega
    obtain ⟨r,hr⟩:=rounded_det (shlD 53 (scale3 D).1) ng hsh.1 (by rw [hsh.2.1];omega)
    exact ⟨_,_,fun w B g hT hB h=>bits_mid D ng ho' ⟨by omega,by omega⟩ r hr hT hB h⟩
end Go.Proofs.YtkfggfjdplnkpaaGreatDoor
end
