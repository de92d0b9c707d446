/- A part of the proof that the law FnDecodeValues returns true; its conditions are those of the last part. -/
import Derived.Test.YtkfggfjdplnkpaaGreatDoorVShl
import Derived.Deep.CutBlock
set_option maxRecDepth 100000
set_option linter.unusedVariables false
set_option linter.unusedSimpArgs false
section
namespace Go.Proofs.YtkfggfjdplnkpaaGreatDoor
open Go.RowKit
structure DS where
 f:Nat→Nat
 nd:Nat
 dp:Int
 tr:Bool
structure DS.Ok (D:DS):Prop where
 pos:0<D.nd
 le:D.nd≤800
 digs:Digs D.f D.nd
 head:D.f 0≠48
def DecS (w:World) (g:Nat) (D:DS) (ng:Bool):Prop:=DecB w g D.f D.nd D.dp ng D.tr
def cap8 (n:Nat):Nat:=if n≤800 then n else 800
theorem cap8_le (n:Nat):cap8 n≤800:=by unfold cap8; split <;> omega
theorem cap8_le' (n:Nat):cap8 n≤n:=by unfold cap8; split <;> omega
theorem cap8_pos {n:Nat} (h:0<n):0<cap8 n:=by unfold cap8; split <;> omega
def trimD (f:Nat→Nat) (n:Nat) (dp:Int) (tr:Bool):DS:=⟨f,trimN f n,if trimN f n=0 then 0 else dp,tr⟩
theorem trimN_pos {f:Nat→Nat} (h:f 0≠48):∀ {n:Nat},0<n→0<trimN f n
 | 0,h0=>absurd h0 (by omega)
 | 1,_=>by unfold trimN;rw [if_neg h];omega
 | n+2,_=>by
  unfold trimN
  split
  ·exact trimN_pos h (by omega)
  ·omega
theorem trimD_ok {f:Nat→Nat} {n:Nat} {dp:Int} {tr:Bool} (hn:0<n) (h8:n≤800) (hd:Digs f n) (h0:f 0≠48):(trimD f n dp tr).Ok∧(trimD f n dp tr).dp=dp:=by
 have h1:=trimN_pos h0 hn
 have h2:=trimN_le f n
 refine ⟨⟨h1,?_,fun i hi=>hd i ?_,h0⟩,?_⟩
 ·show trimN f n≤800
  omega
 ·have:i<trimN f n:=hi
  omega
 ·show (if trimN f n=0 then 0 else dp)=dp
  rw [if_neg (by omega)]
def shlD (k:Nat) (D:DS):DS:=
 trimD (shF D.f (valN D.f D.nd*2 ^ k) (D.nd+shD (valN D.f D.nd*2 ^ k) D.nd k) (D.nd+shD (valN D.f D.nd*2 ^ k) D.nd k)) (cap8 (D.nd+shD (valN D.f D.nd*2 ^ k) D.nd k)) (D.dp+(shD (valN D.f D.nd*2 ^ k) D.nd k:Int))
  (shT D.tr (valN D.f D.nd*2 ^ k) (D.nd+shD (valN D.f D.nd*2 ^ k) D.nd k) (D.nd+shD (valN D.f D.nd*2 ^ k) D.nd k))
def shrD (k:Nat) (D:DS):DS:=
 trimD (rsF D.f D.nd k (cap8 (rsS D.f D.nd k))) (cap8 (rsS D.f D.nd k)) (D.dp-((rsR D.f D.nd k:Int)-1)) (rsT D.tr D.f D.nd k (rsS D.f D.nd k))
theorem dg_lt (V j:Nat):dg V j<10:=Nat.mod_lt _ (by decide)
theorem dg_top {V n:Nat} (hn:0<n) (h1:10 ^ (n-1)≤V) (h2:V<10 ^ n):dg V (n-1)=V/10 ^ (n-1)∧1≤dg V (n-1):=by
 have e:V/10 ^ (n-1)<10:=by
  rw [Nat.div_lt_iff_lt_mul (pow10_pos _)]
  have:10 ^ n=10*10 ^ (n-1):=by
   obtain ⟨m,rfl⟩:∃ m,n=m+1:=⟨n-1,by omega⟩
   rw [Nat.add_sub_cancel,Nat.pow_succ,Nat.mul_comm]
  omega
 unfold dg
 rw [Nat.mod_eq_of_lt e]
 exact ⟨rfl,(Nat.one_le_div_iff (pow10_pos _)).2 h1⟩
theorem shlD_ok {D:DS} {k:Nat} (h:D.Ok) (hk:0<k) (hk2:k≤60) :
  (shlD k D).Ok∧(shlD k D).dp=D.dp+(shD (valN D.f D.nd*2 ^ k) D.nd k:Int)∧
   (shlD k D).f 0=48+valN D.f D.nd*2 ^ k/10 ^ (D.nd+shD (valN D.f D.nd*2 ^ k) D.nd k-1):=by
 have hb:=shV_bounds h.digs h.head h.pos hk hk2
 obtain ⟨V,hV⟩:∃ V,valN D.f D.nd*2 ^ k=V:=⟨_,rfl⟩
 unfold shlD
 rw [hV] at hb ⊢
 obtain ⟨n,hn⟩:∃ n,D.nd+shD V D.nd k=n:=⟨_,rfl⟩
 rw [hn] at hb ⊢
 have hn0:0<n:=by have:=h.pos;omega
 have ht:=dg_top hn0 hb.1 hb.2
 have e0:shF D.f V n n 0=48+dg V (n-1):=by
  unfold shF
  rw [if_pos (by omega)]
  rfl
 have:=trimD_ok (f:=shF D.f V n n) (n:=cap8 n) (dp:=D.dp+(shD V D.nd k:Int)) (tr:=shT D.tr V n n) (cap8_pos hn0) (cap8_le n) (fun i hi=>by
  have h1:=cap8_le' n
  have h2:=dg_lt V (n-1-i)
  unfold shF
  rw [if_pos (by omega)]
  omega) (by rw [e0];omega)
 refine ⟨this.1,this.2,?_⟩
 show shF D.f V n n 0=_
 rw [e0,ht.1]
theorem shrD_ok {D:DS} {k:Nat} (h:D.Ok) (hk:0<k) :
  (shrD k D).Ok∧(shrD k D).dp=D.dp-((rsR D.f D.nd k:Int)-1)∧(shrD k D).f 0=48+rsd D.f D.nd k 0:=by
 have h1:=rsd_zero h.head h.digs h.pos hk
 have hS:0<rsS D.f D.nd k:=by
  rcases Nat.lt_or_ge 0 (rsS D.f D.nd k) with h2 | h2
  ·exact h2
  ·have e:rsS D.f D.nd k=0:=by omega
   have:=(rsS_spec h.head h.digs h.pos hk).1.2
   rw [e] at this
   unfold rsd at h1
   rw [this,Nat.zero_div] at h1
   omega
 have e0:rsF D.f D.nd k (cap8 (rsS D.f D.nd k)) 0=48+rsd D.f D.nd k 0:=by
  unfold rsF
  rw [if_pos (cap8_pos hS)]
 have:=trimD_ok (f:=rsF D.f D.nd k (cap8 (rsS D.f D.nd k))) (n:=cap8 (rsS D.f D.nd k)) (dp:=D.dp-((rsR D.f D.nd k:Int)-1)) (tr:=rsT D.tr D.f D.nd k (rsS D.f D.nd k)) (cap8_pos hS) (cap8_le _) (fun i hi=>by
  have h2:=rsd_lt h.head h.digs h.pos hk i
  unfold rsF
  rw [if_pos hi]
  omega) (by rw [e0];omega)
 exact ⟨this.1,this.2,e0⟩
def DSPost (w:World) (g:Nat) (D:DS) (ng:Bool) (e:Ending) (w':World):Prop:=e=.returned (.tuple #[])∧DecS w' g D ng∧OnlyG g w w'
theorem shl_calls {w:World} {B g k:Nat} {D:DS} {ng:Bool} (hC:Cheat w B) (hB:B≤g) (hB2:21<B) (h:DecS w g D ng) (ho:D.Ok) (hk:0<k) (hk2:k≤60) (hdp:-1000000≤D.dp∧D.dp≤1000000) :
  Calls Tryz.prog 208 #[.pointer (some ⟨g,0,none⟩),.int .u64 (k:Int)] w (DSPost w g (shlD k D) ng):=
 (leftShift_spec hC hB hB2 h ho.le ho.pos ho.digs ho.head hk hk2 hdp).mono fun e w' ⟨V,n,m,hV,hn,hm,he,hd,hw⟩=>by
  subst hV
  subst hn
  subst hm
  exact ⟨he,hd,hw⟩
theorem shr_calls {w:World} {g k:Nat} {D:DS} {ng:Bool} (h:DecS w g D ng) (ho:D.Ok) (hk:0<k) (hk2:k≤60) (hdp:-1000000≤D.dp∧D.dp≤1000000) :
  Calls Tryz.prog 209 #[.pointer (some ⟨g,0,none⟩),.int .u64 (k:Int)] w (DSPost w g (shrD k D) ng):=
 (rightShift_spec h ho.le ho.pos ho.digs ho.head hk hk2 hdp).mono fun e w' ⟨S,m,hS,hm,he,hd,hw⟩=>by
  subst hS
  subst hm
  exact ⟨he,hd,hw⟩
def shrM:Nat→Nat→DS→DS
 | 0,n,D=>shrD n D
 | m+1,n,D=>if 60<n then shrM m (n-60) (shrD 60 D) else shrD n D
theorem shrM_ok {D:DS}:∀ (m n:Nat) (D:DS),D.Ok→0<n→(shrM m n D).Ok
 | 0,n,D,h,hn=>(shrD_ok h hn).1
 | m+1,n,D,h,hn=>by
  unfold shrM
  split
  ·exact shrM_ok (D:=D) m (n-60) _ (shrD_ok h (by omega)).1 (by omega)
  ·exact (shrD_ok h hn).1
set_option maxHeartbeats 8000000 in
theorem shift_left {w:World} {B g k:Nat} {D:DS} {ng:Bool} (hC:Cheat w B) (hB:B≤g) (hB2:21<B) (h:DecS w g D ng) (ho:D.Ok) (hk:0<k) (hk2:k≤60) (hdp:-1000000≤D.dp∧D.dp≤1000000) :
  Calls Tryz.prog 200 #[.pointer (some ⟨g,0,none⟩),.int .i64 (k:Int)] w (DSPost w g (shlD k D) ng):=by
 have hcon:=Lib.hid (shl_calls hC hB hB2 h ho hk hk2 hdp)
 have HC:=Lib.hid hC
 have c8:=DecB.c800 h
 have d1:¬(D.nd:Int)=0:=by have:=ho.pos;omega
 have d2:(0:Int)<(k:Int):=by omega
 have d3:¬(60:Int)<(k:Int):=by omega
 have WK:IntKind.u64.wrap (k:Int)=(k:Int):=IntWalk.u64_in _ (by omega)
 have HX:=Lib.hid (And.intro h ho)
 clear hC h ho hdp
 go_enter Tryz.func200,Tryz.ntmps200
 go_wp2_with fail
 go_loopg [1] 1 (fun mq v1 wr=>v1=.int .i64 (k:Int)∧wr=w)
 case atStart=>exact ⟨rfl,rfl⟩
 case round=>
  obtain ⟨rfl,rfl⟩:=hrel
  go_wp2_with fail
  refine hcon.out.mono ?_
  rintro e w2 ⟨rfl,h2,h3⟩
  have H2:=Lib.hid h2
  have H3:=Lib.hid h3
  clear h2 h3
  go_wp2_with fail
  go_end0
  exact ⟨rfl,H2.out,H3.out⟩
set_option maxHeartbeats 8000000 in
theorem shift_right {w:World} {g n:Nat} {D:DS} {ng:Bool} (h:DecS w g D ng) (ho:D.Ok) (hn:0<n) (hn2:n≤180000) (hdp:-100000≤D.dp∧D.dp≤100000) :
  Calls Tryz.prog 200 #[.pointer (some ⟨g,0,none⟩),.int .i64 (-(n:Int))] w (DSPost w g (shrM 3000 n D) ng):=by
 have c8:=DecB.c800 h
 have d1:¬(D.nd:Int)=0:=by have:=ho.pos;omega
 have d2:¬(0:Int) < -(n:Int):=by omega
 have d3:-(n:Int)<0:=by omega
 have HX:=Lib.hid (And.intro h ho)
 obtain ⟨DR,hDR⟩:∃ DR,shrM 3000 n D=DR:=⟨_,rfl⟩
 rw [hDR]
 have HDR:=Lib.hid hDR
 clear h ho hDR
 go_enter Tryz.func200,Tryz.ntmps200
 go_wp2_with fail
 go_loopg [1] 3000 (fun mq v1 wr=>∃ (m:Nat) (D2:DS),v1=.int .i64 (-(m:Int))∧0<m∧m≤60*mq+60∧shrM mq m D2=DR∧DecS wr g D2 ng∧D2.Ok∧OnlyG g w wr∧-100000-62*(3000-(mq:Int))≤D2.dp∧D2.dp≤100000∧mq≤3000)
 case atStart=>exact ⟨n,D,rfl,hn,by omega,HDR.out,HX.out.1,HX.out.2,Only.refl _ _,by omega,by omega,by omega⟩
 case round=>
  obtain ⟨m,D2,rfl,h1,h2,h3,h4,h5,h6,h7,h8,h9⟩:=hrel
  have H6:=Lib.hid h6
  by_cases hm:60<m
  ·cases gk with
   | zero=>omega
   | succ q=>
    have e3:-(m:Int) < -60:=by omega
    have hR:=rsR_le D2.f D2.nd 60
    have hR1:=(rsR_spec (k:=60) h5.head h5.digs h5.pos (by omega)).2.2
    have hok:=shrD_ok (k:=60) h5 (by omega)
    have hcon:=Lib.hid (shr_calls h4 h5 (k:=60) (by omega) (by omega) (by omega))
    have WA:IntKind.i64.wrap (-(m:Int)+60)=-(((m-60:Nat)):Int):=by rw [IntWalk.i64_in _ (by omega)];omega
    have HP:=Lib.hid (And.intro h1 (And.intro h2 (And.intro h3 (And.intro hm (And.intro h7 (And.intro h8 (And.intro h9 (And.intro hR (And.intro hR1 hok)))))))))
    clear h1 h2 h3 h4 h5 h6 h7 h8 h9 hm hR hR1 hok
    go_wp2_with fail
    refine hcon.out.mono ?_
    clear hcon
    rintro e w2 ⟨rfl,k2,k3⟩
    have K2:=Lib.hid k2
    have K3:=Lib.hid (H6.out.trans k3 (fun k hk=>.inl hk))
    clear k2 k3
    go_wp2_with fail
    go_roundg q
    case measure=>omega
    case rel=>
     obtain ⟨h1,h2,h3,hm,h7,h8,h9,hR,hR1,hok⟩:=HP.out
     refine ⟨m-60,shrD 60 D2,rfl,by omega,by omega,?_,K2.out,hok.1,K3.out,?_,?_,by omega⟩
     ·rw [←h3]
      show _=if 60<m then shrM q (m-60) (shrD 60 D2) else shrD m D2
      rw [if_pos hm]
     ·rw [hok.2.1];omega
     ·rw [hok.2.1];omega
  ·have e3:¬-(m:Int) < -60:=by omega
   have e4:(-60:Int)≤-(m:Int):=by omega
   have hcon:=Lib.hid (shr_calls h4 h5 (k:=m) h1 (by omega) (by omega))
   have WN:IntKind.i64.wrap (- -(m:Int))=(m:Int):=by rw [Int.neg_neg];exact IntWalk.i64_in _ (by omega)
   have WU:IntKind.u64.wrap (m:Int)=(m:Int):=IntWalk.u64_in _ (by omega)
   have e:DR=shrD m D2:=by
    rw [←h3]
    cases gk with
    | zero=>rfl
    | succ q=>
     show (if 60<m then shrM q (m-60) (shrD 60 D2) else shrD m D2)=_
     rw [if_neg hm]
   have HE:=Lib.hid e
   have hm60:(m:Int)≤60:=by omega
   clear h1 h2 h3 h4 h5 h6 h7 h8 h9 hm e
   go_wp2_with fail
   refine hcon.out.mono ?_
   clear hcon
   rintro e w2 ⟨rfl,k2,k3⟩
   have K2:=Lib.hid k2
   have K3:=Lib.hid (H6.out.trans k3 (fun k hk=>.inl hk))
   clear k2 k3
   go_wp2_with fail
   go_end0
   exact ⟨rfl,by rw [HE.out];exact K2.out,K3.out⟩
end Go.Proofs.YtkfggfjdplnkpaaGreatDoor
end
section
namespace Go.Proofs.YtkfggfjdplnkpaaGreatDoor
open Go.RowKit
def sb (s:ByteArray) (i:Nat):Nat:=if h:i<s.size then (s[i]'h).toNat else 0
theorem sb_at (s:ByteArray) (i:Nat) (x:Int) (hx:x=(i:Int)):∀ h:x.toNat<s.size,((s[x.toNat]'h).toNat:Int)=(sb s i:Int):=by
 subst hx
 intro h
 have h':i<s.size:=h
 unfold sb
 rw [dif_pos h']
 rfl
theorem sb_lt (s:ByteArray) (i:Nat):sb s i<256:=by
 unfold sb
 split
 ·next h=>exact (s[i]'h).toNat_lt
 ·omega
def low8 (y:Nat):Int:=bits .or .u8 (y:Int) 32
theorem low_spec (y:Nat) (w:World):Calls Tryz.prog 162 #[.int .u8 (y:Int)] w fun e w'=>e=.returned (.int .u8 (low8 y))∧w'=w:=by
 obtain ⟨r,hr⟩:∃ r,low8 y=r:=⟨_,rfl⟩
 have hr':bits .or .u8 (y:Int) 32=r:=hr
 rw [hr]
 go_enter Tryz.func162,Tryz.ntmps162
 go_wp2
 go_ret
 exact ⟨rfl,rfl⟩
structure LS where
 i:Nat
 sd:Bool
 sg:Bool
 D:DS
def set1 (s:ByteArray):Nat→LS→Option LS
 | 0,S=>some S
 | m+1,S=>if S.i<s.size then
   if sb s S.i=95 then set1 s m ⟨S.i+1,S.sd,S.sg,S.D⟩
   else if sb s S.i=46 then (if S.sd=true then none else set1 s m ⟨S.i+1,true,S.sg,⟨S.D.f,S.D.nd,(S.D.nd:Int),S.D.tr⟩⟩)
   else if 48≤sb s S.i∧sb s S.i≤57 then
    (if sb s S.i=48∧S.D.nd=0 then set1 s m ⟨S.i+1,S.sd,true,⟨S.D.f,S.D.nd,S.D.dp-1,S.D.tr⟩⟩
    else set1 s m ⟨S.i+1,S.sd,true,⟨fun j=>if j=S.D.nd then sb s S.i else S.D.f j,S.D.nd+1,S.D.dp,S.D.tr⟩⟩)
   else some S
  else some S
theorem set1_succ (s:ByteArray) (m:Nat) (S:LS):set1 s (m+1) S=if S.i<s.size then
   if sb s S.i=95 then set1 s m ⟨S.i+1,S.sd,S.sg,S.D⟩
   else if sb s S.i=46 then (if S.sd=true then none else set1 s m ⟨S.i+1,true,S.sg,⟨S.D.f,S.D.nd,(S.D.nd:Int),S.D.tr⟩⟩)
   else if 48≤sb s S.i∧sb s S.i≤57 then
    (if sb s S.i=48∧S.D.nd=0 then set1 s m ⟨S.i+1,S.sd,true,⟨S.D.f,S.D.nd,S.D.dp-1,S.D.tr⟩⟩
    else set1 s m ⟨S.i+1,S.sd,true,⟨fun j=>if j=S.D.nd then sb s S.i else S.D.f j,S.D.nd+1,S.D.dp,S.D.tr⟩⟩)
   else some S
  else some S:=rfl
structure LS.Inv (s:ByteArray) (S:LS):Prop where
 le:S.i≤s.size
 nd:S.D.nd≤S.i
 lo:-(S.i:Int)≤S.D.dp
 hi:S.D.dp≤(S.i:Int)
 tr:S.D.tr=false
 digs:Digs S.D.f S.D.nd
 head:0<S.D.nd→S.D.f 0≠48
namespace LS.Inv
variable {s:ByteArray} {S:LS}
theorem skip (h:S.Inv s) (hi:S.i<s.size):LS.Inv s ⟨S.i+1,S.sd,S.sg,S.D⟩:=
 ⟨hi,by have:=h.nd;show S.D.nd≤S.i+1;omega,by have:=h.lo;show -((S.i+1:Nat):Int)≤S.D.dp;omega,by have:=h.hi;show S.D.dp≤((S.i+1:Nat):Int);omega,h.tr,h.digs,h.head⟩
theorem dot (h:S.Inv s) (hi:S.i<s.size):LS.Inv s ⟨S.i+1,true,S.sg,⟨S.D.f,S.D.nd,(S.D.nd:Int),S.D.tr⟩⟩:=
 ⟨hi,by have:=h.nd;show S.D.nd≤S.i+1;omega,by show -((S.i+1:Nat):Int)≤(S.D.nd:Int);omega,by have:=h.nd;show (S.D.nd:Int)≤((S.i+1:Nat):Int);omega,h.tr,h.digs,h.head⟩
theorem zero (h:S.Inv s) (hi:S.i<s.size):LS.Inv s ⟨S.i+1,S.sd,true,⟨S.D.f,S.D.nd,S.D.dp-1,S.D.tr⟩⟩:=
 ⟨hi,by have:=h.nd;show S.D.nd≤S.i+1;omega,by have:=h.lo;show -((S.i+1:Nat):Int)≤S.D.dp-1;omega,by have:=h.hi;show S.D.dp-1≤((S.i+1:Nat):Int);omega,h.tr,h.digs,h.head⟩
theorem dig (h:S.Inv s) (hi:S.i<s.size) (h1:48≤sb s S.i∧sb s S.i≤57) (h2:¬(sb s S.i=48∧S.D.nd=0)) :
  LS.Inv s ⟨S.i+1,S.sd,true,⟨fun j=>if j=S.D.nd then sb s S.i else S.D.f j,S.D.nd+1,S.D.dp,S.D.tr⟩⟩:=
 ⟨hi,by have:=h.nd;show S.D.nd+1≤S.i+1;omega,by have:=h.lo;show -((S.i+1:Nat):Int)≤S.D.dp;omega,by have:=h.hi;show S.D.dp≤((S.i+1:Nat):Int);omega,h.tr,
  fun j (hj:j<S.D.nd+1)=>by
   show 48≤(if j=S.D.nd then sb s S.i else S.D.f j)∧(if j=S.D.nd then sb s S.i else S.D.f j)≤57
   split
   ·exact h1
   ·exact h.digs j (by omega),
  fun _=>by
   show (if 0=S.D.nd then sb s S.i else S.D.f 0)≠48
   split
   ·next e=>exact fun h3=>h2 ⟨h3,e.symm⟩
   ·exact h.head (by omega)⟩
end LS.Inv
theorem set1_inv {s:ByteArray}:∀ (m:Nat) (S S':LS),S.Inv s→set1 s m S=some S'→S'.Inv s
 | 0,S,S',h,e=>by injection e with e;rw [←e];exact h
 | m+1,S,S',h,e=>by
  unfold set1 at e
  split at e
  ·next hi=>
   split at e
   ·exact set1_inv m _ _ (h.skip hi) e
   ·split at e
    ·split at e
     ·cases e
     ·exact set1_inv m _ _ (h.dot hi) e
    ·split at e
     ·next h1=>
      split at e
      ·exact set1_inv m _ _ (h.zero hi) e
      ·next h2=>exact set1_inv m _ _ (h.dig hi h1 h2) e
     ·injection e with e;rw [←e];exact h
  ·injection e with e;rw [←e];exact h
def sgI (s:ByteArray) (j:Nat):Nat:=if sb s j=43 then j+1 else if sb s j=45 then j+1 else j
def sgN (s:ByteArray) (j:Nat):Bool:=if sb s j=43 then false else if sb s j=45 then true else false
theorem sg_one {s:ByteArray} {j:Nat} (h:sb s j=43):sgI s j=j+1∧sgN s j=false:=by unfold sgI sgN;rw [if_pos h,if_pos h];exact ⟨rfl,rfl⟩
theorem sg_two {s:ByteArray} {j:Nat} (h:¬sb s j=43) (h2:sb s j=45):sgI s j=j+1∧sgN s j=true:=by unfold sgI sgN;rw [if_neg h,if_pos h2,if_neg h,if_pos h2];exact ⟨rfl,rfl⟩
theorem sg_three {s:ByteArray} {j:Nat} (h:¬sb s j=43) (h2:¬sb s j=45):sgI s j=j∧sgN s j=false:=by unfold sgI sgN;rw [if_neg h,if_neg h2,if_neg h,if_neg h2];exact ⟨rfl,rfl⟩
def exDig (s:ByteArray):Nat→Nat→Int→Nat × Int
 | 0,i,e=>(i,e)
 | m+1,i,e=>if i<s.size∧(48≤sb s i∧sb s i≤57∨sb s i=95) then
   (if sb s i=95 then exDig s m (i+1) e else if e<10000 then exDig s m (i+1) (e*10+(sb s i:Int)-48) else exDig s m (i+1) e) else (i,e)
theorem exDig_succ (s:ByteArray) (m i:Nat) (e:Int):exDig s (m+1) i e=if i<s.size∧(48≤sb s i∧sb s i≤57∨sb s i=95) then
   (if sb s i=95 then exDig s m (i+1) e else if e<10000 then exDig s m (i+1) (e*10+(sb s i:Int)-48) else exDig s m (i+1) e) else (i,e):=rfl
theorem exDig_stop {s:ByteArray} {m i:Nat} {e:Int} (h:¬(i<s.size∧(48≤sb s i∧sb s i≤57∨sb s i=95))):exDig s m i e=(i,e):=by
 cases m with
 | zero=>rfl
 | succ m=>rw [exDig_succ,if_neg h]
theorem exDig_ok {s:ByteArray}:∀ (m i:Nat) (e:Int),i≤s.size→0≤e→e≤200000→(exDig s m i e).1≤s.size∧0≤(exDig s m i e).2∧(exDig s m i e).2≤200000
 | 0,i,e,h,h1,h2=>⟨h,h1,h2⟩
 | m+1,i,e,h,h1,h2=>by
  unfold exDig
  split
  ·next hc=>
   split
   ·exact exDig_ok m _ _ (by omega) h1 h2
   ·split
    ·exact exDig_ok m _ _ (by omega) (by omega) (by omega)
    ·exact exDig_ok m _ _ (by omega) h1 h2
  ·exact ⟨h,h1,h2⟩
def sgZ (b:Bool) (e:Int):Int:=if b=true then -e else e
def setFin (s:ByteArray) (i:Nat) (D:DS):Option DS:=if i=s.size then some D else none
def setEx (s:ByteArray) (j:Nat) (D:DS):Option DS:=
 if s.size≤j then none else
 if s.size≤sgI s j∨sb s (sgI s j)<48∨57<sb s (sgI s j) then none else
 setFin s (exDig s s.size (sgI s j) 0).1 ⟨D.f,D.nd,D.dp+sgZ (sgN s j) (exDig s s.size (sgI s j) 0).2,D.tr⟩
def setEnd (s:ByteArray) (i:Nat) (D:DS):Option DS:=if i<s.size∧low8 (sb s i)=101 then setEx s (i+1) D else setFin s i D
def fixD (S:LS):DS:=if S.sd=true then S.D else ⟨S.D.f,S.D.nd,(S.D.nd:Int),S.D.tr⟩
def setL (s:ByteArray) (S:LS):Option DS:=if S.sg=true then setEnd s S.i (fixD S) else none
def setKo (s:ByteArray):Option LS→Option DS
 | none=>none
 | some S=>setL s S
def setR (s:ByteArray):Option DS:=
 if s.size=0 then none else setKo s (set1 s s.size ⟨sgI s 0,false,false,⟨fun _=>0,0,0,false⟩⟩)
theorem setFin_some {s:ByteArray} {i:Nat} {D E:DS} (h:setFin s i D=some E):E=D:=by
 unfold setFin at h
 split at h
 ·injection h with h;exact h.symm
 ·cases h
theorem sgI_le {s:ByteArray} {j:Nat} (h:j<s.size):sgI s j≤s.size∧j≤sgI s j:=by unfold sgI; split <;> (try split) <;> omega
theorem start_inv {s:ByteArray} (h:0<s.size):LS.Inv s ⟨sgI s 0,false,false,⟨fun _=>0,0,0,false⟩⟩:=
 ⟨(sgI_le h).1,Nat.zero_le _,by show -((sgI s 0:Nat):Int)≤0;omega,by show 0≤((sgI s 0:Nat):Int);omega,rfl,fun i hi=>absurd hi (Nat.not_lt_zero i),fun h=>absurd h (Nat.lt_irrefl 0)⟩
theorem setR_ok {s:ByteArray} (hs:s.size≤800) {D:DS} (h:setR s=some D):D.nd=0∨D.Ok:=by
 unfold setR at h
 split at h
 ·cases h
 ·next h0=>
  cases hS:set1 s s.size ⟨sgI s 0,false,false,⟨fun _=>0,0,0,false⟩⟩ with
  | none=>rw [hS] at h;cases h
  | some S=>
   rw [hS] at h
   replace h:setL s S=some D:=h
   have hI:=set1_inv _ _ _ (start_inv (by omega)) hS
   have hD:D.f=S.D.f∧D.nd=S.D.nd:=by
    have hf:(fixD S).f=S.D.f∧(fixD S).nd=S.D.nd:=by unfold fixD; split <;> exact ⟨rfl,rfl⟩
    unfold setL setEnd setEx at h
    split at h
    ·split at h
     ·split at h
      ·cases h
      ·split at h
       ·cases h
       ·rw [setFin_some h];exact hf
     ·rw [setFin_some h];exact hf
    ·cases h
   rcases Nat.eq_zero_or_pos D.nd with h1 | h1
   ·exact .inl h1
   ·have hnd:=hI.nd
    have hle:=hI.le
    have hh:=hI.head
    have hg:=hI.digs
    rw [←hD.2] at hnd hh hg
    rw [←hD.1] at hh hg
    exact .inr ⟨h1,by omega,hg,hh h1⟩
def SetPost (w:World) (g:Nat) (ng:Bool) (R:Option DS) (e:Ending) (w':World):Prop:=
 e=.returned (.bool R.isSome)∧(∀ D,R=some D→DecS w' g D ng)∧OnlyG g w w'
set_option maxHeartbeats 16000000 in
theorem set_spec {w:World} {g:Nat} {s:ByteArray} (hs:s.size≤800) (h:DecB w g (fun _=>0) 0 0 false false) :
  Calls Tryz.prog 179 #[.pointer (some ⟨g,0,none⟩),.string s] w (SetPost w g (sgN s 0) (setR s)):=by
 obtain ⟨R,hR⟩:∃ R,setR s=R:=⟨_,rfl⟩
 obtain ⟨ng,hng⟩:∃ b,sgN s 0=b:=⟨_,rfl⟩
 rw [hR,hng]
 have HR:=Lib.hid hR
 have HNG:=Lib.hid hng
 have f2:=h.fz 802
 have f3:=h.fz 803
 have HH:=Lib.hid ((h.setG false).setT false)
 have HO:=Lib.hid (onlyG_set (onlyG_set (Only.refl (fun k=>k=g) w) 802 (.bool false)) 803 (.bool false))
 have c2:=h.c802
 have c3:=h.c803
 clear h hR hng
 go_enter Tryz.func179,Tryz.ntmps179
 by_cases h0:s.size=0
 ·have b0:¬0<(s.size:Int):=by omega
  have e0:R=none:=by rw [←HR.out];unfold setR;rw [if_pos h0]
  have b1:(s.size:Int)≤0:=by omega
  go_wp2
  go_ret
  exact ⟨rfl,fun D hD=>(by cases hD),HO.out⟩
 ·have b1:decide ((s.size:Int)≤0)=false:=decide_eq_false (by omega)
  have b1n:decide (s.size≤0)=false:=decide_eq_false (by omega)
  have b0:0<(s.size:Int):=by omega
  have hs0:0<s.size:=by omega
  have hx:∀ h:0<s.size,((s[0]'h).toNat:Int)=(sb s 0:Int):=sb_at s 0 0 rfl
  have bne:(s=ByteArray.empty)=False:=eq_false (fun e=>by rw [e] at hs0;exact absurd hs0 (by decide))
  have q0:(0<s.size)=True:=eq_true hs0
  have qi0:(0<(s.size:Int))=True:=eq_true b0
  have hi0:=sgI_le hs0
  obtain ⟨y,hy⟩:∃ y,sb s 0=y:=⟨_,rfl⟩
  rw [hy] at hx
  obtain ⟨i0,hi⟩:∃ i,sgI s 0=i:=⟨_,rfl⟩
  have HI:=Lib.hid hi
  have HY:=Lib.hid hy
  have eR:R=setKo s (set1 s s.size ⟨i0,false,false,⟨fun _=>0,0,0,false⟩⟩):=by rw [←HR.out,←hi];unfold setR;rw [if_neg h0]
  have HS:=Lib.hid (start_inv hs0)
  rw [hi] at hi0 HS
  have HER:=Lib.hid eR
  have HI0:=Lib.hid hi0
  clear hi0 hi hy eR h0 hs0 b0
  go_upto_block 0 with fail
  go_cut [5] from 23 to 33 (fun v5 wx=>v5=.int .i64 (i0:Int)∧DecB wx g (fun _=>0) 0 0 ng false∧OnlyG g w wx)
  case first=>
   by_cases y1:y=43
   ·have y1':(y:Int)=43:=by omega
    have e1:i0=1:=by rw [←HI.out];unfold sgI;rw [HY.out,if_pos y1]
    have e2:ng=false:=by rw [←HNG.out];unfold sgN;rw [HY.out,if_pos y1]
    clear y1
    go_wp2
    go_meet
    rw [e1,e2]
    exact ⟨rfl,HH.out,HO.out⟩
   ·have y1':¬(y:Int)=43:=by omega
    by_cases y2:y=45
    ·have y2':(y:Int)=45:=by omega
     have e1:i0=1:=by rw [←HI.out];unfold sgI;rw [HY.out,if_neg y1,if_pos y2]
     have e2:ng=true:=by rw [←HNG.out];unfold sgN;rw [HY.out,if_neg y1,if_pos y2]
     clear y1 y2
     go_wp2
     go_meet
     rw [e1,e2]
     exact ⟨rfl,HH.out.setG true,onlyG_set HO.out 802 _⟩
    ·have y2':¬(y:Int)=45:=by omega
     have e1:i0=0:=by rw [←HI.out];unfold sgI;rw [HY.out,if_neg y1,if_neg y2]
     have e2:ng=false:=by rw [←HNG.out];unfold sgN;rw [HY.out,if_neg y1,if_neg y2]
     clear y1 y2
     go_wp2
     go_meet
     rw [e1,e2]
     exact ⟨rfl,HH.out,HO.out⟩
  case rest=>
   obtain ⟨rfl,hd,ho⟩:=hcut
   have HD:=Lib.hid hd
   have HO1:=Lib.hid ho
   clear hd ho f2 f3 c2 c3 hx HH HO
   go_upto_block 1 with fail
   go_cut [5,6,7] from 34 to 116 (fun v5 v6 v7 wx=>∃ S:LS,v5=.int .i64 (S.i:Int)∧v6=.bool S.sd∧v7=.bool S.sg∧R=setL s S∧DecS wx g S.D ng∧OnlyG g w wx∧S.Inv s)
   case first=>
    go_wp2_with fail
    go_loopg [5,6,7] s.size (fun mq v5 v6 v7 wr=>∃ (S:LS) (x:Int),v5=.int .i64 x∧x=(S.i:Int)∧v6=.bool S.sd∧v7=.bool S.sg∧s.size≤S.i+mq∧R=setKo s (set1 s mq S)∧DecS wr g S.D ng∧OnlyG g w wr∧S.Inv s)
    case atStart=>exact ⟨⟨i0,false,false,⟨fun _=>0,0,0,false⟩⟩,_,rfl,rfl,rfl,rfl,by show s.size≤i0+s.size;omega,HER.out,HD.out,HO1.out,HS.out⟩
    case round=>
     obtain ⟨⟨i,sd,sg,⟨f,nd,dp,tr⟩⟩,x,rfl,hx,rfl,rfl,hm,hr,hd,ho,hI⟩:=hrel
     dsimp only at hx hm
     obtain ⟨j1,j2,j3,j4,j5,j6,j7⟩:=hI
     dsimp only at j1 j2 j3 j4 j5
     subst j5
     have HI:=Lib.hid (LS.Inv.mk (s:=s) (S:=⟨i,sd,sg,⟨f,nd,dp,false⟩⟩) j1 j2 j3 j4 rfl j6 j7)
     have hd':DecB wr g f nd dp ng false:=hd
     have HD:=Lib.hid hd'
     have HO:=Lib.hid ho
     have c0:=hd'.c800
     have c1:=hd'.c801
     have g0:=hd'.fz 800
     have g1:=hd'.fz 801
     have gn:=hd'.fz nd
     have cn:=hd'.d nd
     have HR:=Lib.hid hr
     have WP:IntKind.i64.wrap (dp-1)=dp-1:=IntWalk.i64_in _ (by omega)
     have WX:IntKind.i64.wrap (x+1)=x+1:=IntWalk.i64_in _ (by omega)
     have HM:=Lib.hid (And.intro hx hm)
     clear hd hd' ho hr j6 j7
     by_cases hi:i<s.size
     ·cases gk with
      | zero=>omega
      | succ m=>
       have hb:=sb_at s i x hx
       have hlt:=sb_lt s i
       obtain ⟨y,hy⟩:∃ y,sb s i=y:=⟨_,rfl⟩
       rw [hy] at hb hlt
       have q1:(x<(s.size:Int))=True:=eq_true (by omega)
       have q0:(0≤x)=True:=eq_true (by omega)
       have HL:=Lib.hid (And.intro hi hy)
       have hn8:nd<800:=by omega
       have b8:(nd:Int)<800:=by omega
       replace cn:=cn hn8
       have hnx:x=(i:Int):=hx
       clear hx hm j1 j2 j3 j4 hi hy
       by_cases y1:y=95
       ·have z1:(y:Int)=95:=by omega
        have e:set1 s (m+1) ⟨i,sd,sg,⟨f,nd,dp,false⟩⟩=set1 s m ⟨i+1,sd,sg,⟨f,nd,dp,false⟩⟩:=by
         rw [set1_succ,if_pos HL.out.1,if_pos (HL.out.2.trans y1)]
        have HE:=Lib.hid (HR.out.trans (congrArg (setKo s) e))
        clear y1 hnx e
        go_wp2
        go_roundg m
        case measure=>omega
        case rel=>exact ⟨⟨i+1,sd,sg,⟨f,nd,dp,false⟩⟩,x+1,rfl,by have:=HM.out;show x+1=((i+1:Nat):Int);omega,rfl,rfl,by have:=HM.out;show s.size≤i+1+m;omega,HE.out,HD.out,HO.out,HI.out.skip HL.out.1⟩
       ·have z1:¬(y:Int)=95:=by omega
        by_cases y2:y=46
        ·have z2:(y:Int)=46:=by omega
         cases sd with
         | true=>
          have e:set1 s (m+1) ⟨i,true,sg,⟨f,nd,dp,false⟩⟩=none:=by
           rw [set1_succ,if_pos HL.out.1,if_neg (by rw [HL.out.2];exact y1),if_pos (HL.out.2.trans y2),if_pos rfl]
          have HE:Hid (R=none):=Lib.hid (HR.out.trans (congrArg (setKo s) e))
          clear y1 y2 hnx e
          go_wp2
          go_ret
          rw [HE.out]
          exact ⟨rfl,fun D hD=>(by cases hD),HO.out⟩
         | false=>
          have e:set1 s (m+1) ⟨i,false,sg,⟨f,nd,dp,false⟩⟩=set1 s m ⟨i+1,true,sg,⟨f,nd,(nd:Int),false⟩⟩:=by
           rw [set1_succ,if_pos HL.out.1,if_neg (by rw [HL.out.2];exact y1),if_pos (HL.out.2.trans y2),if_neg (fun h=>by cases h)]
          have HE:=Lib.hid (HR.out.trans (congrArg (setKo s) e))
          clear y1 y2 hnx e
          go_wp2
          go_roundg m
          case measure=>omega
          case rel=>exact ⟨⟨i+1,true,sg,⟨f,nd,(nd:Int),false⟩⟩,x+1,rfl,by have:=HM.out;show x+1=((i+1:Nat):Int);omega,rfl,rfl,by have:=HM.out;show s.size≤i+1+m;omega,HE.out,HD.out.setP _,onlyG_set HO.out 801 _,HI.out.dot HL.out.1⟩
        ·have z2:¬(y:Int)=46:=by omega
         by_cases y3:48≤y∧y≤57
         ·have z3:(48:Int)≤(y:Int):=by omega
          have z4:(y:Int)≤57:=by omega
          by_cases y5:y=48∧nd=0
          ·obtain ⟨y5,rfl⟩:=y5
           have z5:(y:Int)=48:=by omega
           have e:set1 s (m+1) ⟨i,sd,sg,⟨f,0,dp,false⟩⟩=set1 s m ⟨i+1,sd,true,⟨f,0,dp-1,false⟩⟩:=by
            rw [set1_succ,if_pos HL.out.1,if_neg (by rw [HL.out.2];exact y1),if_neg (by rw [HL.out.2];exact y2),if_pos (by rw [HL.out.2];exact y3),if_pos ⟨HL.out.2.trans y5,rfl⟩]
           have HE:=Lib.hid (HR.out.trans (congrArg (setKo s) e))
           rw [Int.natCast_zero] at c0
           clear y1 y2 y3 y5 hnx e b8 hn8 cn gn
           go_wp2
           go_roundg m
           case measure=>omega
           case rel=>exact ⟨⟨i+1,sd,true,⟨f,0,dp-1,false⟩⟩,x+1,rfl,by have:=HM.out;show x+1=((i+1:Nat):Int);omega,rfl,rfl,by have:=HM.out;show s.size≤i+1+m;omega,HE.out,HD.out.setP _,onlyG_set HO.out 801 _,HI.out.zero HL.out.1⟩
          ·have e:set1 s (m+1) ⟨i,sd,sg,⟨f,nd,dp,false⟩⟩=set1 s m ⟨i+1,sd,true,⟨fun j=>if j=nd then y else f j,nd+1,dp,false⟩⟩:=by
            rw [set1_succ,if_pos HL.out.1,if_neg (by rw [HL.out.2];exact y1),if_neg (by rw [HL.out.2];exact y2),if_pos (by rw [HL.out.2];exact y3),if_neg (by rw [HL.out.2];exact y5),HL.out.2]
           have HE:=Lib.hid (HR.out.trans (congrArg (setKo s) e))
           have HY:Hid (48≤y∧y≤57∧¬(y=48∧nd=0)):=Lib.hid ⟨y3.1,y3.2,y5⟩
           have WN:IntKind.i64.wrap ((nd:Int)+1)=(nd:Int)+1:=IntWalk.i64_in _ (by omega)
           by_cases y6:y=48
           ·have z5:(y:Int)=48:=by omega
            have z6:¬(nd:Int)=0:=by omega
            have HZ:=Lib.hid z5
            clear y1 y2 y3 y5 y6 hnx e hn8
            go_wp2
            go_still_tail 11,(by kernel_rfl)
            change wpList _ _ _ _ _ wr.drew
            go_wp2
            go_roundg m
            case measure=>omega
            case rel=>
             refine ⟨⟨i+1,sd,true,⟨fun j=>if j=nd then y else f j,nd+1,dp,false⟩⟩,x+1,rfl,by have:=HM.out;show x+1=((i+1:Nat):Int);omega,rfl,rfl,by have:=HM.out;show s.size≤i+1+m;omega,HE.out,(by
              have:=((HD.out.of_block (w':=wr.drew) rfl).setD nd (by have:=HI.out.nd;have:=HL.out.1;have:nd≤i:=HI.out.nd;omega) y)
              rw [HZ.out] at this
              exact this.setN (nd+1)),onlyG_set (onlyG_set (Only.drewN (n:=1) HO.out) nd _) 800 _,?_⟩
             have:=HI.out.dig HL.out.1
             rw [HL.out.2] at this
             exact this ⟨HY.out.1,HY.out.2.1⟩ HY.out.2.2
           ·have z5:¬(y:Int)=48:=by omega
            clear y1 y2 y3 y5 y6 hnx e hn8
            go_wp2
            go_still_tail 11,(by kernel_rfl)
            change wpList _ _ _ _ _ wr.drew
            go_wp2
            go_roundg m
            case measure=>omega
            case rel=>
             refine ⟨⟨i+1,sd,true,⟨fun j=>if j=nd then y else f j,nd+1,dp,false⟩⟩,x+1,rfl,by have:=HM.out;show x+1=((i+1:Nat):Int);omega,rfl,rfl,by have:=HM.out;show s.size≤i+1+m;omega,HE.out,((HD.out.of_block (w':=wr.drew) rfl).setD nd (by have:=HI.out.nd;have:=HL.out.1;have:nd≤i:=HI.out.nd;omega) y).setN (nd+1),onlyG_set (onlyG_set (Only.drewN (n:=1) HO.out) nd _) 800 _,?_⟩
             have:=HI.out.dig HL.out.1
             rw [HL.out.2] at this
             exact this ⟨HY.out.1,HY.out.2.1⟩ HY.out.2.2
         ·have e:set1 s (m+1) ⟨i,sd,sg,⟨f,nd,dp,false⟩⟩=some ⟨i,sd,sg,⟨f,nd,dp,false⟩⟩:=by
           rw [set1_succ,if_pos HL.out.1,if_neg (by rw [HL.out.2];exact y1),if_neg (by rw [HL.out.2];exact y2),if_neg (by rw [HL.out.2];exact y3)]
          have HE:=Lib.hid (HR.out.trans (congrArg (setKo s) e))
          by_cases y4:48≤y
          ·have z3:(48:Int)≤(y:Int):=by omega
           have z4:¬(y:Int)≤57:=by omega
           clear y1 y2 y3 y4 e b8 hn8 hnx
           go_wp2
           go_meet
           exact ⟨⟨i,sd,sg,⟨f,nd,dp,false⟩⟩,by rw [HM.out.1],rfl,rfl,HE.out,HD.out,HO.out,HI.out⟩
          ·have z3:¬(48:Int)≤(y:Int):=by omega
           clear y1 y2 y3 y4 e b8 hn8 hnx
           go_wp2
           go_meet
           exact ⟨⟨i,sd,sg,⟨f,nd,dp,false⟩⟩,by rw [HM.out.1],rfl,rfl,HE.out,HD.out,HO.out,HI.out⟩
     ·have e:set1 s gk ⟨i,sd,sg,⟨f,nd,dp,false⟩⟩=some ⟨i,sd,sg,⟨f,nd,dp,false⟩⟩:=by
       cases gk with
       | zero=>rfl
       | succ m=>rw [set1_succ,if_neg hi]
      have HE:=Lib.hid (HR.out.trans (congrArg (setKo s) e))
      have q1:(x<(s.size:Int))=False:=eq_false (by omega)
      clear hm j1 j2 j3 j4 e hi cn hx
      go_wp2
      go_meet
      exact ⟨⟨i,sd,sg,⟨f,nd,dp,false⟩⟩,by rw [HM.out.1],rfl,rfl,HE.out,HD.out,HO.out,HI.out⟩
   case rest=>
    obtain ⟨S,e5,e6,e7,hR2,hd,ho,hI⟩:=hcut
    obtain ⟨x,hx⟩:∃ x:Int,x=(S.i:Int):=⟨_,rfl⟩
    obtain ⟨sd,hsd⟩:∃ b,b=S.sd:=⟨_,rfl⟩
    obtain ⟨sg,hsg⟩:∃ b,b=S.sg:=⟨_,rfl⟩
    rw [←hx] at e5
    rw [←hsd] at e6
    rw [←hsg] at e7
    subst e5
    subst e6
    subst e7
    have HD:=Lib.hid hd
    have HO:=Lib.hid ho
    have hd':DecB wc g S.D.f S.D.nd S.D.dp ng S.D.tr:=hd
    have c0:=hd'.c800
    have c1:=hd'.c801
    have g1:=hd'.fz 801
    have HI:=Lib.hid hI
    have HX:=Lib.hid hx
    have HSD:=Lib.hid hsd
    have HR:=Lib.hid hR2
    clear hd hd' ho hI hx hsd hR2
    cases sg with
    | false=>
     have HE:Hid (R=none):=Lib.hid (by rw [HR.out];unfold setL;rw [←hsg];exact if_neg (fun h=>by cases h))
     clear hsg
     go_wp2
     go_ret
     rw [HE.out]
     exact ⟨rfl,fun D hD=>(by cases hD),HO.out⟩
    | true=>
     have HE:Hid (R=setEnd s S.i (fixD S)):=Lib.hid (by rw [HR.out];unfold setL;rw [←hsg];exact if_pos rfl)
     clear hsg
     go_upto_if 120 with fail
     go_cut [] from 120 to 127 (fun wx=>DecS wx g (fixD S) ng∧OnlyG g w wx)
     case first=>
      cases sd with
      | true=>
       have e:fixD S=S.D:=by unfold fixD;rw [if_pos HSD.out.symm]
       have HF:=Lib.hid e
       clear e
       go_wp2
       go_meet
       exact ⟨by rw [HF.out];exact HD.out,HO.out⟩
      | false=>
       have e:fixD S=⟨S.D.f,S.D.nd,(S.D.nd:Int),S.D.tr⟩:=by unfold fixD;rw [if_neg (by rw [←HSD.out];exact fun h=>by cases h)]
       have HF:=Lib.hid e
       clear e
       go_wp2
       go_meet
       exact ⟨by rw [HF.out];exact DecB.setP HD.out _,onlyG_set HO.out 801 _⟩
     case rest=>
      obtain ⟨hd,ho⟩:=hcut
      have hdp:-800≤(fixD S).dp∧(fixD S).dp≤800:=by
       have h1:=HI.out.le
       have h2:=HI.out.nd
       have h3:=HI.out.lo
       have h4:=HI.out.hi
       unfold fixD
       split
       ·omega
       ·show -800≤(S.D.nd:Int)∧(S.D.nd:Int)≤800
        omega
      have hil:=HI.out.le
      have hxi:=HX.out
      obtain ⟨i,hi⟩:∃ i,S.i=i:=⟨_,rfl⟩
      obtain ⟨D2,hD2⟩:∃ D,fixD S=D:=⟨_,rfl⟩
      rw [hD2] at hd hdp HE
      rw [hi] at hil hxi HE
      have KD:=Lib.hid hd
      have KO:=Lib.hid ho
      have hd':DecB wc g D2.f D2.nd D2.dp ng D2.tr:=hd
      have k1:=hd'.c801
      have kg1:=hd'.fz 801
      clear hd hd' ho hi hD2 HI HX HSD HR HD HO c0 c1 g1 HS HER HI0
      by_cases hlt:i<s.size
      ·have hb:=sb_at s i x hxi
       obtain ⟨y1,hy1⟩:∃ y,sb s i=y:=⟨_,rfl⟩
       rw [hy1] at hb
       have p1:(x<(s.size:Int))=True:=eq_true (by omega)
       have p0:(0≤x)=True:=eq_true (by omega)
       have HLOW:=Lib.hid (low_spec y1)
       obtain ⟨L,hL⟩:∃ L,low8 y1=L:=⟨_,rfl⟩
       rw [hL] at HLOW
       have HP:=Lib.hid (And.intro hxi (And.intro hil (And.intro hlt (And.intro hy1 hL))))
       clear hxi hil hlt hy1 hL
       go_wp2_with fail
       refine (HLOW.out _).mono ?_
       clear HLOW
       rintro ex w2 ⟨rfl,rfl⟩
       by_cases hL:L=101
       ·have HE2:Hid (R=setEx s (i+1) D2):=Lib.hid (by
         obtain ⟨_,_,h3,h4,h5⟩:=HP.out
         rw [HE.out];unfold setEnd;rw [h4,h5];exact if_pos ⟨h3,hL⟩)
        subst hL
        have WX:IntKind.i64.wrap (x+1)=x+1:=IntWalk.i64_in _ (by have:=HP.out;omega)
        by_cases h1:s.size≤i+1
        ·have HE3:Hid (R=none):=Lib.hid (by rw [HE2.out];unfold setEx;exact if_pos h1)
         have z1:((s.size:Int)≤x+1)=True:=eq_true (by have:=HP.out;omega)
         clear h1
         go_wp2
         go_ret
         rw [HE3.out]
         exact ⟨rfl,fun D hD=>(by cases hD),KO.out⟩
        ·have z1:((s.size:Int)≤x+1)=False:=eq_false (by have:=HP.out;omega)
         obtain ⟨x1,hx1⟩:∃ x1,x+1=x1:=⟨_,rfl⟩
         rw [hx1] at WX z1
         have hxi1:x1=((i+1:Nat):Int):=by have:=HP.out;omega
         have hil1:i+1<s.size:=by omega
         have hb1:=sb_at s (i+1) x1 hxi1
         have hsI:=sgI_le hil1
         obtain ⟨y2,hy2⟩:∃ y,sb s (i+1)=y:=⟨_,rfl⟩
         rw [hy2] at hb1
         have r1:(x1<(s.size:Int))=True:=eq_true (by omega)
         have r0:(0≤x1)=True:=eq_true (by omega)
         obtain ⟨j,hj⟩:∃ j,sgI s (i+1)=j:=⟨_,rfl⟩
         obtain ⟨es,hes⟩:∃ es:Int,(if sgN s (i+1)=true then -1 else 1)=es:=⟨_,rfl⟩
         rw [hj] at hsI
         have WX1:IntKind.i64.wrap (x1+1)=x1+1:=IntWalk.i64_in _ (by omega)
         have HJ:=Lib.hid (And.intro hj (And.intro hes (And.intro hy2 (And.intro hxi1 hsI))))
         have HE3:Hid (R=if s.size≤j∨sb s j<48∨57<sb s j then none else
           setFin s (exDig s s.size j 0).1 ⟨D2.f,D2.nd,D2.dp+sgZ (sgN s (i+1)) (exDig s s.size j 0).2,D2.tr⟩):=Lib.hid (by
          rw [HE2.out];unfold setEx;rw [hj];exact if_neg h1)
         clear h1 hj hes hy2 hxi1 hil1 hsI p1 p0 hb
         go_upto_block 4 with fail
         go_cut [5,8] from 148 to 155 (fun v5 v8 wx=>v5=.int .i64 (j:Int)∧v8=.int .i64 es∧wx=w2)
         case first=>
          by_cases t1:y2=43
          ·have u1:(y2:Int)=43:=by omega
           have HQ:Hid (j=i+2∧es=1):=Lib.hid (by
            obtain ⟨h1,h2,h3,_⟩:=HJ.out
            have hq:=sg_one (h3.trans t1)
            rw [hq.1] at h1;rw [hq.2] at h2
            exact ⟨h1.symm,h2.symm⟩)
           clear t1
           go_wp2
           go_meet
           exact ⟨congrArg _ (by have:=HQ.out;have:=HJ.out;omega),by rw [HQ.out.2],rfl⟩
          ·have u1:¬(y2:Int)=43:=by omega
           by_cases t2:y2=45
           ·have u2:(y2:Int)=45:=by omega
            have HQ:Hid (j=i+2∧es=-1):=Lib.hid (by
             obtain ⟨h1,h2,h3,_⟩:=HJ.out
             have hq:=sg_two (by rw [h3];exact t1) (h3.trans t2)
             rw [hq.1] at h1;rw [hq.2] at h2
             exact ⟨h1.symm,h2.symm⟩)
            clear t1 t2
            go_wp2
            go_meet
            exact ⟨congrArg _ (by have:=HQ.out;have:=HJ.out;omega),by rw [HQ.out.2],rfl⟩
           ·have u2:¬(y2:Int)=45:=by omega
            have HQ:Hid (j=i+1∧es=1):=Lib.hid (by
             obtain ⟨h1,h2,h3,_⟩:=HJ.out
             have hq:=sg_three (s:=s) (j:=i+1) (by rw [h3];exact t1) (by rw [h3];exact t2)
             rw [hq.1] at h1;rw [hq.2] at h2
             exact ⟨h1.symm,h2.symm⟩)
            clear t1 t2
            go_wp2
            go_meet
            exact ⟨congrArg _ (by have:=HQ.out;have:=HJ.out;omega),by rw [HQ.out.2],rfl⟩
         case rest=>
          obtain ⟨rfl,rfl,rfl⟩:=hcut
          obtain ⟨xj,hxj⟩:∃ xj:Int,xj=(j:Int):=⟨_,rfl⟩
          rw [←hxj]
          have hjl:=HJ.out.2.2.2.2.1
          clear hb1 r1 r0 WX WX1 z1
          by_cases d1:s.size≤j
          ·have HE4:Hid (R=none):=Lib.hid (by rw [HE3.out];exact if_pos (.inl d1))
           have v1:((s.size:Int)≤xj)=True:=eq_true (by omega)
           clear d1 hjl hxj
           go_wp2
           go_ret
           rw [HE4.out]
           exact ⟨rfl,fun D hD=>(by cases hD),KO.out⟩
          ·have v1:((s.size:Int)≤xj)=False:=eq_false (by omega)
           have v2:(xj<(s.size:Int))=True:=eq_true (by omega)
           have v3:(0≤xj)=True:=eq_true (by omega)
           have hb3:=sb_at s j xj hxj
           obtain ⟨y3,hy3⟩:∃ y,sb s j=y:=⟨_,rfl⟩
           rw [hy3] at hb3
           by_cases d2:y3<48
           ·have HE4:Hid (R=none):=Lib.hid (by rw [HE3.out];exact if_pos (.inr (.inl (by omega))))
            have u2:(y3:Int)<48:=by omega
            clear d1 d2 hjl hxj hy3
            go_wp2
            go_ret
            rw [HE4.out]
            exact ⟨rfl,fun D hD=>(by cases hD),KO.out⟩
           ·have u2:¬(y3:Int)<48:=by omega
            by_cases d3:57<y3
            ·have HE4:Hid (R=none):=Lib.hid (by rw [HE3.out];exact if_pos (.inr (.inr (by omega))))
             have u3:(57:Int)<(y3:Int):=by omega
             clear d1 d2 d3 hjl hxj hy3
             go_wp2
             go_ret
             rw [HE4.out]
             exact ⟨rfl,fun D hD=>(by cases hD),KO.out⟩
            ·have u3:¬(57:Int)<(y3:Int):=by omega
             have HE4:Hid (R=setFin s (exDig s s.size j 0).1 ⟨D2.f,D2.nd,D2.dp+sgZ (sgN s (i+1)) (exDig s s.size j 0).2,D2.tr⟩):=
              Lib.hid (by rw [HE3.out];exact if_neg (by omega))
             obtain ⟨Q,hQ⟩:∃ Q,exDig s s.size j 0=Q:=⟨_,rfl⟩
             rw [hQ] at HE4
             have HQ:=Lib.hid hQ
             have HXJ:=Lib.hid (And.intro hxj hjl)
             clear d1 d2 d3 hjl hxj hy3 hQ HE3 HE2
             go_upto_block 5 with fail
             go_cut [5,9] from 172 to 209 (fun v5 v9 wx=>v5=.int .i64 (Q.1:Int)∧v9=.int .i64 Q.2∧wx=wc)
             case first=>
              clear k1 kg1 hb3 v1 v2 v3 u2 u3 hdp
              go_wp2_with fail
              go_loopg [5,9] s.size (fun mq v5 v9 wr=>∃ (k:Nat) (x e:Int),v5=.int .i64 x∧v9=.int .i64 e∧x=(k:Int)∧0≤e∧e≤200000∧k≤s.size∧s.size≤k+mq∧exDig s mq k e=Q∧wr=wc)
              case atStart=>exact ⟨j,xj,0,rfl,rfl,HXJ.out.1,by omega,by omega,HXJ.out.2,by omega,HQ.out,rfl⟩
              case round=>
               obtain ⟨k,x5,e5,rfl,rfl,hxk,he0,he1,hk,hm,hq,rfl⟩:=hrel
               have HK:=Lib.hid (And.intro hxk (And.intro he0 (And.intro he1 (And.intro hk (And.intro hm hq)))))
               by_cases hks:k<s.size
               ·have hb5:=sb_at s k x5 hxk
                have h256:=sb_lt s k
                obtain ⟨y5,hy5⟩:∃ y,sb s k=y:=⟨_,rfl⟩
                rw [hy5] at hb5 h256
                have v2:(x5<(s.size:Int))=True:=eq_true (by omega)
                have v3:(0≤x5)=True:=eq_true (by omega)
                have WX5:IntKind.i64.wrap (x5+1)=x5+1:=IntWalk.i64_in _ (by omega)
                have HY5:=Lib.hid hks
                by_cases d1:y5=95
                ·cases gk with
                 | zero=>omega
                 | succ m=>
                  have HE5:Hid (exDig s m (k+1) e5=Q):=Lib.hid (by rw [←hq,exDig_succ,hy5,if_pos ⟨hks,.inr d1⟩,if_pos d1])
                  have u1:(48:Int)≤(y5:Int):=by omega
                  have u2:¬(y5:Int)≤57:=by omega
                  have u3:(y5:Int)=95:=by omega
                  clear d1 hks hxk he0 he1 hk hm hq hy5 h256
                  go_wp2
                  go_roundg m
                  case measure=>omega
                  case rel=>exact ⟨k+1,x5+1,e5,rfl,rfl,by have:=HK.out;omega,by have:=HK.out;omega,by have:=HK.out;omega,by have:=HK.out;have:=HY5.out;omega,by have:=HK.out;omega,HE5.out,rfl⟩
                ·have u3:¬(y5:Int)=95:=by omega
                 by_cases d2:48≤y5
                 ·have u1:(48:Int)≤(y5:Int):=by omega
                  by_cases d3:y5≤57
                  ·have u2:(y5:Int)≤57:=by omega
                   cases gk with
                   | zero=>omega
                   | succ m=>
                    by_cases d4:e5<10000
                    ·have HE5:Hid (exDig s m (k+1) (e5*10+(y5:Int)-48)=Q):=Lib.hid (by rw [←hq,exDig_succ,hy5,if_pos ⟨hks,.inl ⟨d2,d3⟩⟩,if_neg d1,if_pos d4])
                     have W1:IntKind.i64.wrap (e5*10)=e5*10:=IntWalk.i64_in _ (by omega)
                     have W2:IntKind.i64.wrap (e5*10+(y5:Int))=e5*10+(y5:Int):=IntWalk.i64_in _ (by omega)
                     have W3:IntKind.i64.wrap (e5*10+(y5:Int)-48)=e5*10+(y5:Int)-48:=IntWalk.i64_in _ (by omega)
                     have W4:IntKind.i64.wrap (y5:Int)=(y5:Int):=IntWalk.i64_in _ (by omega)
                     have HD4:=Lib.hid (And.intro d4 h256)
                     clear d1 d2 d3 hks hxk he0 he1 hk hm hq hy5 h256
                     go_wp2
                     go_roundg m
                     case measure=>omega
                     case rel=>exact ⟨k+1,x5+1,e5*10+(y5:Int)-48,rfl,rfl,by have:=HK.out;omega,by have:=HK.out;omega,by have:=HK.out;have:=HD4.out;omega,by have:=HK.out;have:=HY5.out;omega,by have:=HK.out;omega,HE5.out,rfl⟩
                    ·have HE5:Hid (exDig s m (k+1) e5=Q):=Lib.hid (by rw [←hq,exDig_succ,hy5,if_pos ⟨hks,.inl ⟨d2,d3⟩⟩,if_neg d1,if_neg d4])
                     clear d1 d2 d3 hks hxk he0 he1 hk hm hq hy5 h256
                     go_wp2
                     go_roundg m
                     case measure=>omega
                     case rel=>exact ⟨k+1,x5+1,e5,rfl,rfl,by have:=HK.out;omega,by have:=HK.out;omega,by have:=HK.out;omega,by have:=HK.out;have:=HY5.out;omega,by have:=HK.out;omega,HE5.out,rfl⟩
                  ·have u2:¬(y5:Int)≤57:=by omega
                   have HE5:Hid (Q=(k,e5)):=Lib.hid (by rw [←hq,exDig_stop (by rw [hy5];omega)])
                   clear d1 d2 d3 hks hxk he0 he1 hk hm hq hy5 h256
                   go_wp2
                   go_meet
                   exact ⟨by rw [HE5.out];exact congrArg _ HK.out.1,by rw [HE5.out],rfl⟩
                 ·have u1:¬(48:Int)≤(y5:Int):=by omega
                  have HE5:Hid (Q=(k,e5)):=Lib.hid (by rw [←hq,exDig_stop (by rw [hy5];omega)])
                  clear d1 d2 hks hxk he0 he1 hk hm hq hy5 h256
                  go_wp2
                  go_meet
                  exact ⟨by rw [HE5.out];exact congrArg _ HK.out.1,by rw [HE5.out],rfl⟩
               ·have v2:(x5<(s.size:Int))=False:=eq_false (by omega)
                have HE5:Hid (Q=(k,e5)):=Lib.hid (by rw [←hq,exDig_stop (fun h=>hks h.1)])
                clear hks hxk he0 he1 hk hm hq
                go_wp2
                go_meet
                exact ⟨by rw [HE5.out];exact congrArg _ HK.out.1,by rw [HE5.out],rfl⟩
             case rest=>
              obtain ⟨rfl,rfl,rfl⟩:=hcut
              have hqo:=exDig_ok (s:=s) s.size j 0 HXJ.out.2 (by omega) (by omega)
              rw [HQ.out] at hqo
              obtain ⟨q1,q2⟩:=Q
              dsimp only at hqo
              replace HE4:Hid (R=setFin s q1 ⟨D2.f,D2.nd,D2.dp+sgZ (sgN s (i+1)) q2,D2.tr⟩):=HE4
              have hes:=HJ.out.2.1
              obtain ⟨dv,hdv⟩:∃ dv:Int,sgZ (sgN s (i+1)) q2=dv:=⟨_,rfl⟩
              have hdb:-200000≤dv∧dv≤200000:=by
               rw [←hdv]; unfold sgZ; split <;> omega
              have WM:IntKind.i64.wrap (q2*es)=dv:=by
               rw [←hdv,←hes]
               unfold sgZ
               cases sgN s (i+1) with
               | true=>rw [if_pos rfl,if_pos rfl,Int.mul_neg,Int.mul_one];exact IntWalk.i64_in _ (by omega)
               | false=>rw [if_neg (fun h=>by cases h),if_neg (fun h=>by cases h),Int.mul_one];exact IntWalk.i64_in _ (by omega)
              have WA:IntKind.i64.wrap (D2.dp+dv)=D2.dp+dv:=IntWalk.i64_in _ (by omega)
              rw [hdv] at HE4
              have HQO:=Lib.hid hqo.1
              clear hdb hdv hes hqo hb3 v1 v2 v3 u2 u3 hdp
              by_cases hf:q1=s.size
              ·have HE5:Hid (R=some ⟨D2.f,D2.nd,D2.dp+dv,D2.tr⟩):=Lib.hid (by rw [HE4.out];unfold setFin;exact if_pos hf)
               have z3:(q1:Int)=(s.size:Int):=by omega
               clear hf
               go_wp2
               go_ret
               rw [HE5.out]
               exact ⟨rfl,fun D hD=>(by injection hD with hD;rw [←hD];exact DecB.setP KD.out _),onlyG_set KO.out 801 _⟩
              ·have HE5:Hid (R=none):=Lib.hid (by rw [HE4.out];unfold setFin;exact if_neg hf)
               have z3:¬(q1:Int)=(s.size:Int):=by omega
               clear hf
               go_wp2
               go_ret
               rw [HE5.out]
               exact ⟨rfl,fun D hD=>(by cases hD),onlyG_set KO.out 801 _⟩
       ·have HE2:Hid (R=none):=Lib.hid (by
         obtain ⟨_,_,h3,h4,h5⟩:=HP.out
         rw [HE.out];unfold setEnd;rw [h4,h5,if_neg (fun h=>hL h.2)];unfold setFin;exact if_neg (by omega))
        have z1:¬x=(s.size:Int):=by have:=HP.out;omega
        go_wp2
        go_ret
        rw [HE2.out]
        exact ⟨rfl,fun D hD=>(by cases hD),KO.out⟩
      ·have HE2:Hid (R=some D2):=Lib.hid (by
        rw [HE.out];unfold setEnd;rw [if_neg (fun h=>hlt h.1)];unfold setFin;exact if_pos (by omega))
       have z1:x=(s.size:Int):=by omega
       have p1:((s.size:Int)<(s.size:Int))=False:=eq_false (by omega)
       clear hxi hil hlt
       subst z1
       go_wp2
       go_ret
       rw [HE2.out]
       exact ⟨rfl,fun D hD=>(by injection hD with hD;rw [←hD];exact KD.out),KO.out⟩
end Go.Proofs.YtkfggfjdplnkpaaGreatDoor
end
