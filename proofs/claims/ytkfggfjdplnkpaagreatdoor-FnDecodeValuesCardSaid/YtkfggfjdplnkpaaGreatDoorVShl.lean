/- A part of the proof that the law FnDecodeValues returns true; its conditions are those of the last part. -/
import Derived.Test.YtkfggfjdplnkpaaGreatDoorVSets
import GoSem.PinnedTables
import Derived.Deep.CutBlock
import Derived.Laws.Bits64b
set_option maxRecDepth 100000
set_option linter.unusedVariables false
set_option linter.unusedSimpArgs false
section
namespace Go.Proofs.YtkfggfjdplnkpaaGreatDoor
open Go.RowKit
def LessPost (w:World) (P:Prop) (e:Ending) (w':World):Prop:=(∃ b:Bool,e=.returned (.bool b)∧(b=true↔P))∧∃ m,w'=w.drewN m
def tB (s:ByteArray) (i:Nat):Nat:=if h:i<s.size then (s[i]).toNat else 0
theorem tB_lt {s:ByteArray} {i:Nat} (h:i<s.size):tB s i=(s[i]).toNat:=by unfold tB;rw [dif_pos h]
set_option maxHeartbeats 4000000 in
theorem prefix_spec {w:World} {g nd c:Nat} {f:Nat→Nat} (s:ByteArray) (hs:s.size≤1000) (hn:nd≤800) (hc:nd≤c) (hd:∀ i,i<nd→w.cell? ⟨g,i,none⟩=some (.int .u8 (f i:Int))) :
  Calls Tryz.prog 215 #[.slice (some ⟨g,0,none⟩) nd c,.string s] w (LessPost w (Less f nd (tB s) s.size)):=by
 have HD:=Lib.hid hd
 clear hd
 go_enter Tryz.func215,Tryz.ntmps215
 go_wp2_with fail
 go_loopg [5] s.size (fun mq v5 wr=>∃ i:Nat,mq+i=s.size∧v5=.int .i64 (i:Int)∧(∀ j,j<i→j<nd∧f j=tB s j)∧∃ m,wr=w.drewN m)
 case atStart=>exact ⟨0,by omega,rfl,fun j hj=>by omega,0,rfl⟩
 case round=>
  obtain ⟨i,h1,rfl,h2,m0,rfl⟩:=hrel
  have H2:=Lib.hid h2
  clear h2
  by_cases hi:i<s.size
  ·have HI:=Lib.hid hi
   have d1:(i:Int)<(s.size:Int):=by omega
   by_cases hin:i<nd
   ·have d2:¬(nd:Int)≤(i:Int):=by omega
    have cd:=HD.out i hin
    have e1:=tB_lt hi
    generalize hx:f i=x
    have HX:=Lib.hid hx
    rw [hx] at cd
    clear hx
    have HT:=Lib.hid e1
    clear e1
    have HIN:=Lib.hid hin
    by_cases hxe:(x:Int)=((s[i]).toNat:Int)
    ·have HE:=Lib.hid hxe
     have WS:IntKind.i64.wrap ((i:Int)+1)=((i+1:Nat):Int):=by rw [IntWalk.i64_in _ (by omega)];omega
     have H1:=Lib.hid h1
     clear h1
     go_wp2
     go_quiet (fail)
     go_wp2
     go_roundg (s.size-(i+1))
     case measure=>have h1:=H1.out;have h2:=HI.out;omega
     case rel=>
      refine ⟨i+1,by have:=HI.out;omega,?_,fun j hj=>?_,_,rfl⟩
      ·first | rfl | (congr 1)
      ·by_cases hji:j=i
       ·subst hji
        exact ⟨HIN.out,by rw [HX.out,HT.out];have:=HE.out;omega⟩
       ·exact H2.out j (by omega)
    ·have HE:=Lib.hid hxe
     go_wp2
     go_quiet (fail)
     go_wp2
     go_quiet (fail)
     go_wp2
     go_ret
     refine ⟨⟨_,rfl,?_⟩,_,by rw [World.drewN_drewN,World.drewN_drewN]⟩
     rw [decide_eq_true_iff]
     constructor
     ·intro h
      exact ⟨i,HI.out,H2.out,.inr (by rw [HX.out,HT.out];omega)⟩
     ·rintro ⟨k,h3,h4,h5⟩
      have e1:=HX.out
      have e2:=HT.out
      have e3:=HE.out
      have hk:k=i:=by
       rcases Nat.lt_trichotomy k i with h | h | h
       ·have h6:=H2.out k h
        rcases h5 with h5 | h5 <;> omega
       ·exact h
       ·have h6:=h4 i h
        omega
      subst hk
      have:=HIN.out
      rcases h5 with h5 | h5 <;> omega
   ·have d2:(nd:Int)≤(i:Int):=by omega
    have HIN:=Lib.hid hin
    clear hin
    go_wp2
    go_ret
    refine ⟨⟨true,?_,?_⟩,m0,?_⟩
    ·rfl
    rotate_left
    ·rfl
    exact ⟨fun _=>⟨i,HI.out,H2.out,.inl (by have:=HIN.out;omega)⟩,fun _=>rfl⟩
  ·have d1:¬(i:Int)<(s.size:Int):=by omega
   have HI:=Lib.hid hi
   clear hi
   go_wp2
   go_ret
   refine ⟨⟨false,?_,?_⟩,m0,?_⟩
   ·rfl
   rotate_left
   ·rfl
   refine ⟨fun h=>by (first | cases h | exact absurd h (by decide)),?_⟩
   rintro ⟨k,h3,h4,h5⟩
   exfalso
   have hi:=HI.out
   have h6:=H2.out k (by omega)
   rcases h5 with h5 | h5 <;> omega
theorem quiet_addN {f:FuncId} {args:Array Value} {w:World} {n:Nat} {v:Value} (h:Calls Tryz.prog f args (w.drewN n) fun e w'=>e=.returned v∧∃ m,w'=(w.drewN n).drewN m):Calls Tryz.prog f args (w.drewN n) fun e w''=>e=.returned v∧∃ m,w''=w.drewN m:=
 h.mono fun _ _ ⟨he,m,hm⟩=>⟨he,n+m,by rw [hm,World.drewN_drewN]⟩
def cheatD (k:Nat):Nat:=(Pinned.cheatRows.getD k (0,[])).1
def cheatS (k:Nat):ByteArray:=⟨(Pinned.cheatRows.getD k (0,[])).2.toArray⟩
def Cheat (w:World) (B:Nat):Prop:=∃ cb co cap,cb<B∧61≤cap∧w.cell? ⟨21,0,none⟩=some (.slice (some ⟨cb,co,none⟩) 61 cap)∧
 ∀ k,k<61→w.cell? ⟨cb,co+k*2,none⟩=some (.int .i64 (cheatD k:Int))∧w.cell? ⟨cb,co+k*2+1,none⟩=some (.string (cheatS k))
theorem cheat_tab:∀ k:Fin 61,0<k.val→cheatD k.val=dlt k.val∧(cheatS k.val).size=len5 k.val:=by decide
theorem cheat_digs:∀ k:Fin 61,0<k.val→∀ i:Fin (len5 k.val),48≤tB (cheatS k.val) i.val∧tB (cheatS k.val) i.val≤57:=by decide
theorem cheat_last:∀ k:Fin 61,0<k.val→tB (cheatS k.val) (len5 k.val-1)=53:=by decide
theorem cheat_some:∀ k:Fin 61,0<k.val→valN (tB (cheatS k.val)) (len5 k.val)=5 ^ k.val:=by decide
def shD (V nd k:Nat):Nat:=if V<10 ^ (nd+dlt k-1) then dlt k-1 else dlt k
def shF (f:Nat→Nat) (V n j i:Nat):Nat:=if n-j≤i∧i<n then 48+dg V (n-1-i) else f i
def shT (tr:Bool) (V n:Nat):Nat→Bool
 | 0=>tr
 | j+1=>shT tr V n j||(decide (800≤n-1-j)&&decide (dg V j≠0))
def carN (f:Nat→Nat) (nd k j:Nat):Nat:=if j≤nd then sufN f nd j*2 ^ k/10 ^ j else valN f nd*2 ^ k/10 ^ j
theorem carN_zero (f:Nat→Nat) (nd k:Nat):carN f nd k 0=0:=by simp [carN,sufN]
theorem carN_all (f:Nat→Nat) (nd k:Nat):carN f nd k nd=valN f nd*2 ^ k/10 ^ nd:=by unfold carN;rw [if_pos (Nat.le_refl _),sufN_all]
theorem carN_lt {f:Nat→Nat} {nd k j:Nat} (h:Digs f nd) (hj:j≤nd):carN f nd k j<2 ^ k:=by
 unfold carN
 rw [if_pos hj]
 have h1:=sufN_lt h hj
 rw [Nat.div_lt_iff_lt_mul (pow10_pos _),Nat.mul_comm (2 ^ k)]
 exact Nat.mul_lt_mul_of_pos_right h1 (Nat.pow_pos (by decide))
theorem carN_in (f:Nat→Nat) (nd k j:Nat) (hj:j<nd):carN f nd k j+(f (nd-(j+1))-48)*2 ^ k=sufN f nd (j+1)*2 ^ k/10 ^ j:=by
 unfold carN
 rw [if_pos (by omega)]
 show _=((f (nd-(j+1))-48)*10 ^ j+sufN f nd j)*2 ^ k/10 ^ j
 rw [Nat.add_mul,Nat.mul_assoc,Nat.mul_comm (10 ^ j) (2 ^ k),←Nat.mul_assoc,Nat.add_comm (_*10 ^ j),Nat.add_mul_div_right _ _ (pow10_pos _)]
theorem carN_next (f:Nat→Nat) (nd k j:Nat) (hj:j<nd):(carN f nd k j+(f (nd-(j+1))-48)*2 ^ k)/10=carN f nd k (j+1):=by
 rw [carN_in f nd k j hj,Nat.div_div_eq_div_mul,←Nat.pow_succ]
 unfold carN
 rw [if_pos (by omega)]
theorem carN_dig (f:Nat→Nat) (nd k j:Nat) (hj:j<nd):(carN f nd k j+(f (nd-(j+1))-48)*2 ^ k) % 10=dg (valN f nd*2 ^ k) j:=by
 rw [carN_in f nd k j hj]
 unfold dg
 have e:valN f nd*2 ^ k=sufN f nd (j+1)*2 ^ k+(valN f (nd-(j+1))*2 ^ k*10)*10 ^ j:=by
  rw [valN_split f nd (j+1) (by omega),Nat.add_mul,Nat.add_comm,Nat.pow_succ]
  ac_rfl
 rw [e,Nat.add_mul_div_right _ _ (pow10_pos _),Nat.add_mul_mod_self_right]
theorem carN_on (f:Nat→Nat) (nd k j:Nat) (hj:nd≤j):carN f nd k j=valN f nd*2 ^ k/10 ^ j:=by
 rcases Nat.lt_or_ge nd j with h | h
 ·unfold carN;rw [if_neg (by omega)]
 ·have:j=nd:=by omega
  rw [this,carN_all]
theorem carN_on_next (f:Nat→Nat) (nd k j:Nat) (hj:nd≤j):carN f nd k j/10=carN f nd k (j+1):=by
 rw [carN_on f nd k j hj,carN_on f nd k (j+1) (by omega),Nat.div_div_eq_div_mul,←Nat.pow_succ]
theorem carN_on_dig (f:Nat→Nat) (nd k j:Nat) (hj:nd≤j):carN f nd k j % 10=dg (valN f nd*2 ^ k) j:=by
 rw [carN_on f nd k j hj];rfl
theorem shF_next {f:Nat→Nat} {V n j:Nat} (hj:j<n) (i:Nat):(if i=n-(j+1) then 48+dg V j else shF f V n j i)=shF f V n (j+1) i:=by
 unfold shF
 by_cases h:i=n-(j+1)
 ·subst h
  rw [if_pos rfl,if_pos (by omega)]
  congr 2
  omega
 ·rw [if_neg h]
  by_cases h2:n-j≤i∧i<n
  ·rw [if_pos h2,if_pos (by omega)]
  ·rw [if_neg h2,if_neg (by omega)]
theorem shV_bounds {f:Nat→Nat} {nd k:Nat} (hd:Digs f nd) (h0:f 0≠48) (hn0:0<nd) (hk:0<k) (hk2:k≤60) :
  10 ^ (nd+shD (valN f nd*2 ^ k) nd k-1)≤valN f nd*2 ^ k∧valN f nd*2 ^ k<10 ^ (nd+shD (valN f nd*2 ^ k) nd k):=by
 have hb:=dlt_bounds ⟨k,by omega⟩ hk
 dsimp only at hb
 have h1:=valN_lt hd
 have h2:=valN_ge hn0 h0 (hd 0 hn0).1
 have h3:valN f nd*2 ^ k<10 ^ (nd+dlt k):=by
  rw [Nat.pow_add]
  calc valN f nd*2 ^ k≤valN f nd*10 ^ dlt k:=Nat.mul_le_mul_left _ (Nat.le_of_lt hb.2.1)
   _<10 ^ nd*10 ^ dlt k:=Nat.mul_lt_mul_of_pos_right h1 (pow10_pos _)
 have h4:10 ^ (nd-1+(dlt k-1))≤valN f nd*2 ^ k:=by
  rw [Nat.pow_add]
  exact Nat.mul_le_mul h2 hb.1
 unfold shD
 split
 ·next h=>
  refine ⟨?_,?_⟩
  ·rw [show nd+(dlt k-1)-1=nd-1+(dlt k-1) by omega];exact h4
  ·rw [show nd+(dlt k-1)=nd+dlt k-1 by omega];exact h
 ·next h=>exact ⟨by omega,h3⟩
def ShlPost (w:World) (g:Nat) (f:Nat→Nat) (nd k:Nat) (dp:Int) (ng tr:Bool) (e:Ending) (w':World):Prop:=
 ∃ V n m,V=valN f nd*2 ^ k∧n=nd+shD V nd k∧m=(if n≤800 then n else 800)∧e=.returned (.tuple #[])∧
  DecB w' g (shF f V n n) (trimN (shF f V n n) m) (if trimN (shF f V n n) m=0 then 0 else dp+(shD V nd k:Int)) ng (shT tr V n n)∧OnlyG g w w'
set_option maxHeartbeats 8000000 in
theorem leftShift_spec {w:World} {B g nd k:Nat} {f:Nat→Nat} {dp:Int} {ng tr:Bool} (hC:Cheat w B) (hB:B≤g) (hB2:21<B) (h:DecB w g f nd dp ng tr) (hn:nd≤800) (hn0:0<nd) (hd:Digs f nd) (h0:f 0≠48) (hk:0<k) (hk2:k≤60)
  (hdp:-1000000≤dp∧dp≤1000000) :
  Calls Tryz.prog 208 #[.pointer (some ⟨g,0,none⟩),.int .u64 (k:Int)] w (ShlPost w g f nd k dp ng tr):=by
 obtain ⟨cb,co,cap,hcb,hcap,hc1,hc2⟩:=hC
 obtain ⟨hc3,hc4⟩:=hc2 k (by omega)
 clear hc2
 have hb:=dlt_bounds ⟨k,by omega⟩ hk
 have ht:=cheat_tab ⟨k,by omega⟩ hk
 have hl:=cheat_last ⟨k,by omega⟩ hk
 have hv:=cheat_some ⟨k,by omega⟩ hk
 have hg:=cheat_digs ⟨k,by omega⟩ hk
 dsimp only at hb ht hl hv hg
 have hless:=less_two (t:=tB (cheatS k)) hd hk hk2 (fun i hi=>hg ⟨i,hi⟩) hv (by rw [hl];decide) hn0
 rw [ht.1] at hc3
 obtain ⟨D,hD⟩:∃ D,dlt k=D:=⟨_,rfl⟩
 rw [hD] at hc3
 have HH:=Lib.hid h
 have c8:=h.c800
 have b1:(k:Int)<61:=by omega
 have b2:(nd:Int)≤800:=by omega
 obtain ⟨V,hV⟩:∃ V,valN f nd*2 ^ k=V:=⟨_,rfl⟩
 rw [hV] at hless
 obtain ⟨bb,hbb⟩:∃ bb:Bool,decide (V<10 ^ (nd+dlt k-1))=bb:=⟨_,rfl⟩
 have hpre:Hid (∀ n,Calls Tryz.prog 215 #[.slice (some ⟨g,0,none⟩) nd 800,.string (cheatS k)] (w.drewN n) fun e w'=>e=.returned (.bool bb)∧∃ m,w'=(w.drewN n).drewN m):=Lib.hid fun n=>
  (prefix_spec (w:=w.drewN n) (g:=g) (nd:=nd) (c:=800) (f:=f) (cheatS k) (by rw [ht.2];unfold len5;omega) hn hn (fun i hi=>h.d i (by omega))).mono fun e w' ⟨⟨b,he,hi⟩,hw⟩=>⟨by
   rw [he,←hbb]
   congr 2
   rw [ht.2,hless] at hi
   by_cases hq:V<10 ^ (nd+dlt k-1)
   ·rw [decide_eq_true hq];exact hi.2 hq
   ·rw [decide_eq_false hq]
    cases b with
    | true=>exact absurd (hi.1 rfl) hq
    | false=>rfl,hw⟩
 have HV:=Lib.hid hV
 have HBB:=Lib.hid hbb
 have HD:=Lib.hid hD
 clear h hless hg hv hl ht hV hbb
 go_enter Tryz.func208,Tryz.ntmps208
 go_wp2_with fail
 go_quiet (exact quiet_addN (hpre.out _))
 go_upto_if 30 with fail
 go_cut [4] from 12 to 32 (fun v wx=>v=.int .i64 ((shD V nd k:Nat):Int)∧∃ m,wx=w.drewN m)
 case first=>
  have hD1:1≤D:=by rw [←hD];exact hb.2.2.1
  have hD2:D≤60:=by rw [←hD];omega
  have WS:IntKind.i64.wrap ((D:Int)-1)=((D-1:Nat):Int):=by rw [IntWalk.i64_in _ (by omega)];omega
  cases bb with
  | true=>
   go_wp2
   go_meet
   refine ⟨?_,_,rfl⟩
   unfold shD
   rw [if_pos (of_decide_eq_true HBB.out),HD.out]
  | false=>
   go_wp2
   go_meet
   refine ⟨?_,_,rfl⟩
   unfold shD
   rw [if_neg (of_decide_eq_false HBB.out),HD.out]
 case rest=>
  obtain ⟨rfl,m1,rfl⟩:=hcut
  obtain ⟨dl,hdl⟩:∃ x,shD V nd k=x:=⟨_,rfl⟩
  rw [hdl]
  have HDL:=Lib.hid hdl
  have hdl60:dl≤60:=by
   rw [←hdl]; unfold shD; have:=hb.2.2; split <;> omega
  have WA:IntKind.i64.wrap ((nd:Int)+(dl:Int))=((nd+dl:Nat):Int):=by rw [IntWalk.i64_in _ (by omega)];omega
  have WB:IntKind.i64.wrap ((nd:Int)-1)=(nd:Int)-1:=by rw [IntWalk.i64_in _ (by omega)]
  clear hdl hpre b1
  go_wp2_with fail
  go_loopg [5,6,7] nd (fun mq v5 v6 v7 wr=>∃ j:Nat,mq+j=nd∧v5=.int .i64 ((nd:Int)-1-(j:Int))∧v6=.int .i64 (((nd+dl-j:Nat)):Int)∧v7=.int .u64 ((carN f nd k j:Nat):Int)∧
   DecB wr g (shF f V (nd+dl) j) nd dp ng (shT tr V (nd+dl) j)∧OnlyG g w wr)
  case atStart=>
   refine ⟨0,by omega,by simp,rfl,by rw [carN_zero];rfl,?_,(Only.refl _ _).drewN _⟩
   exact (HH.out.congr (fun i hi=>by unfold shF;rw [if_neg (by omega)])).drewN _
  case round=>
   obtain ⟨j,h1,rfl,rfl,rfl,h2,h3⟩:=hrel
   have H2:=Lib.hid h2
   have H3:=Lib.hid h3
   by_cases hj:j<nd
   ·obtain ⟨r,hr⟩:∃ r,nd-(j+1)=r:=⟨_,rfl⟩
    obtain ⟨q,hq⟩:∃ q,nd+dl-(j+1)=q:=⟨_,rfl⟩
    have e5:(nd:Int)-1-(j:Int)=(r:Int):=by omega
    have e6:((nd+dl-j:Nat):Int)=((q+1:Nat):Int):=by omega
    have hr8:r<800:=by omega
    have cd:=h2.d r hr8
    have eF:shF f V (nd+dl) j r=f r:=by unfold shF;rw [if_neg (by omega)]
    rw [eF] at cd
    have hxd:=hd r (by omega)
    obtain ⟨x,hx⟩:∃ x,f r=x:=⟨_,rfl⟩
    rw [hx] at cd hxd
    obtain ⟨n7,hn7⟩:∃ n7,carN f nd k j=n7:=⟨_,rfl⟩
    have hc7:=carN_lt (k:=k) hd (Nat.le_of_lt hj)
    rw [hn7] at hc7
    have hk60:2 ^ k≤2 ^ 60:=Nat.pow_le_pow_right (by decide) hk2
    rw [e5,e6,hn7]
    have b3:(r:Int)<800:=by omega
    have b4:(0:Int)≤(r:Int):=by omega
    have WX:IntKind.u64.wrap ((x:Int)-48)=((x-48:Nat):Int):=by rw [IntWalk.u64_in _ (by omega)];omega
    have hx9:(x-48)*2 ^ k≤9*2 ^ k:=Nat.mul_le_mul_right _ (by omega)
    have W1:IntKind.u64.wrap (((x-48:Nat):Int)*2 ^ k)=(((x-48)*2 ^ k:Nat):Int):=by
     rw [show ((x-48:Nat):Int)*2 ^ k=(((x-48)*2 ^ k:Nat):Int) by rw [Int.natCast_mul,Int.natCast_pow];rfl]
     exact IntWalk.u64_in _ (by omega)
    obtain ⟨a,ha⟩:∃ a,n7+(x-48)*2 ^ k=a:=⟨_,rfl⟩
    have W2:IntKind.u64.wrap ((n7:Int)+((x-48:Nat):Int)*2 ^ k)=(a:Int):=by
     rw [show ((x-48:Nat):Int)*2 ^ k=(((x-48)*2 ^ k:Nat):Int) by rw [Int.natCast_mul,Int.natCast_pow];rfl,IntWalk.u64_in _ (by omega)];omega
    have ha64:a<18446744073709551616:=by omega
    have eC:=carN_next f nd k j hj
    have eG:=carN_dig f nd k j hj
    rw [hr,hx,hn7,ha] at eC eG
    rw [HV.out] at eG
    have hy10:a % 10<10:=Nat.mod_lt _ (by decide)
    have E1:(a:Int)-10*((a:Int)/10)+48=((48+a % 10:Nat):Int):=by omega
    have E2:(a:Int)/10=((a/10:Nat):Int):=by omega
    have W8:IntKind.i64.wrap (((q+1:Nat):Int)-1)=(q:Int):=by rw [IntWalk.i64_in _ (by omega)];omega
    have W9:IntKind.i64.wrap ((r:Int)-1)=(r:Int)-1:=IntWalk.i64_in _ (by omega)
    have HP:=Lib.hid (And.intro h1 (And.intro hj (And.intro hr (And.intro hq (And.intro eC eG)))))
    have HE1:=Lib.hid E1
    have HE2:=Lib.hid E2
    clear h2 h3 hn7 hx ha eC eG E1 E2
    by_cases hq8:q<800
    ·have b5:(q:Int)<800:=by omega
     have b6:(0:Int)≤(q:Int):=by omega
     have fq:=H2.out.fz q
     have cq:=H2.out.d q hq8
     go_wp2
     go_roundg (nd-(j+1))
     case measure=>have:=HP.out;omega
     case rel=>
      obtain ⟨h1,hj,hr,hq,eC,eG⟩:=HP.out
      refine ⟨j+1,by omega,congrArg _ (by omega),congrArg _ (by omega),?_,?_,onlyG_set H3.out q _⟩
      ·rw [HE2.out,eC]
      ·rw [HE1.out]
       have:=H2.out.setD q hq8 (48+a % 10)
       have e8:shT tr V (nd+dl) (j+1)=shT tr V (nd+dl) j:=by
        show (shT tr V (nd+dl) j||(decide (800≤nd+dl-1-j)&&_))=_
        rw [decide_eq_false (by omega),Bool.false_and,Bool.or_false]
       rw [e8]
       refine this.congr (fun i hi=>?_)
       rw [←shF_next (by omega) i,eG,hq]
    ·have b5:¬(q:Int)<800:=by omega
     have f3:=H2.out.fz 803
     have c3:=H2.out.c803
     by_cases hz:a % 10=0
     ·have b6:(a:Int)-10*((a:Int)/10)=0:=by omega
      go_wp2
      go_roundg (nd-(j+1))
      case measure=>have:=HP.out;omega
      case rel=>
       obtain ⟨h1,hj,hr,hq,eC,eG⟩:=HP.out
       refine ⟨j+1,by omega,congrArg _ (by omega),congrArg _ (by omega),?_,?_,H3.out⟩
       ·rw [HE2.out,eC]
       ·have e8:shT tr V (nd+dl) (j+1)=shT tr V (nd+dl) j:=by
         show (shT tr V (nd+dl) j||(_&&decide (dg V j≠0)))=_
         rw [←eG,show decide (a % 10≠0)=false from decide_eq_false (by omega),Bool.and_false,Bool.or_false]
        rw [e8]
        refine H2.out.congr (fun i hi=>?_)
        rw [←shF_next (by omega) i,hq,if_neg (by omega)]
     ·have b6:¬(a:Int)-10*((a:Int)/10)=0:=by omega
      go_wp2
      go_roundg (nd-(j+1))
      case measure=>have:=HP.out;omega
      case rel=>
       obtain ⟨h1,hj,hr,hq,eC,eG⟩:=HP.out
       refine ⟨j+1,by omega,congrArg _ (by omega),congrArg _ (by omega),?_,?_,onlyG_set H3.out 803 _⟩
       ·rw [HE2.out,eC]
       ·have e8:shT tr V (nd+dl) (j+1)=true:=by
         show (shT tr V (nd+dl) j||(decide (800≤nd+dl-1-j)&&decide (dg V j≠0)))=_
         rw [←eG,decide_eq_true (by omega),decide_eq_true (by omega),Bool.and_true,Bool.or_true]
        rw [e8]
        refine (H2.out.setT true).congr (fun i hi=>?_)
        rw [←shF_next (by omega) i,hq,if_neg (by omega)]
   ·have hje:j=nd:=by omega
    subst hje
    have b7:¬(0:Int)≤(j:Int)-1-(j:Int):=by omega
    have e6:((j+dl-j:Nat):Int)=((dl:Nat):Int):=by omega
    have HX:=Lib.hid (And.intro hn (And.intro hn0 hdl60))
    have HN0:=Lib.hid hn0
    clear h2 h3 hj h1
    go_wp2
    go_loopg [6,7] (dl+1) (fun mq v6 v7 wr=>∃ i:Nat,mq+i=j+dl+1∧j≤i∧i≤j+dl∧v6=.int .i64 (((j+dl-i:Nat)):Int)∧v7=.int .u64 ((carN f j k i:Nat):Int)∧
     DecB wr g (shF f V (j+dl) i) j dp ng (shT tr V (j+dl) i)∧OnlyG g w wr)
    case atStart=>exact ⟨j,by omega,Nat.le_refl _,by omega,by first | rfl | exact congrArg _ (by omega),rfl,H2.out,H3.out⟩
    case round=>
     obtain ⟨i,h1,h1a,h1b,rfl,rfl,h2,h3⟩:=hrel
     clear H2 H3
     have H2:=Lib.hid h2
     have H3:=Lib.hid h3
     obtain ⟨n7,hn7⟩:∃ n7,carN f j k i=n7:=⟨_,rfl⟩
     rw [hn7]
     have eN:=carN_on_next f j k i h1a
     have eG:=carN_on_dig f j k i h1a
     have eV:=carN_on f j k i h1a
     have hVb:=shV_bounds (k:=k) hd h0 HN0.out hk hk2
     rw [HV.out,HDL.out] at hVb
     rw [HV.out] at eG eV
     rw [hn7] at eN eG eV
     have hn64:n7<18446744073709551616:=by
      have h9:=carN_lt (k:=k) hd (Nat.le_refl j)
      have hk60:2 ^ k≤2 ^ 60:=Nat.pow_le_pow_right (by decide) hk2
      have h8:carN f j k i≤carN f j k j:=by
       rw [carN_on f j k i h1a,carN_on f j k j (Nat.le_refl _)]
       exact Nat.div_le_div_left (Nat.pow_le_pow_right (by decide) h1a) (pow10_pos _)
      omega
     by_cases hz0:n7=0
     ·subst hz0
      have hi:i=j+dl:=by
       rcases Nat.lt_or_ge i (j+dl) with h | h
       ·exfalso
        have h9:V<10 ^ i:=by
         rcases Nat.lt_or_ge V (10 ^ i) with h | h
         ·exact h
         ·have:=Nat.div_pos h (pow10_pos i);omega
        have h8:10 ^ i≤10 ^ (j+dl-1):=Nat.pow_le_pow_right (by decide) (by omega)
        omega
       ·omega
      subst hi
      have HGE:=Lib.hid (And.intro hB HX.out)
      clear eN eG eV hVb hn64 h2 h3 h1 h1a h1b
      have c8:=H2.out.c800
      have f8:=H2.out.fz 800
      have c1:=H2.out.c801
      have f1:=H2.out.fz 801
      have WP:IntKind.i64.wrap (dp+(dl:Int))=dp+(dl:Int):=IntWalk.i64_in _ (by omega)
      by_cases hbig:j+dl<800
      ·have b8:¬(800:Int)≤(j:Int)+(dl:Int):=by omega
       have HBG:=Lib.hid hbig
       clear hbig
       go_wp2_with fail
       have T2:=Lib.hid ((H2.out.setN (j+dl)).setP (dp+(dl:Int)))
       refine (trim_spec T2.out (by have:=HBG.out;omega)).mono ?_
       rintro e w9 ⟨rfl,t1,t2⟩
       have T1:=Lib.hid t1
       have TO:=Lib.hid (Only.trans (onlyG_set (onlyG_set H3.out 800 (.int .i64 ((j+dl:Nat):Int))) 801 (.int .i64 (dp+(dl:Int)))) t2 (fun k hk=>.inl hk))
       clear t1 t2
       go_wp2_with fail
       go_end0
       refine ⟨V,j+dl,j+dl,HV.out.symm,by rw [HDL.out],by rw [if_pos (by have:=HBG.out;omega)],rfl,?_,TO.out⟩
       rw [HDL.out]
       exact T1.out
      ·have b8:(800:Int)≤(j:Int)+(dl:Int):=by omega
       have HBG:=Lib.hid hbig
       clear hbig
       go_wp2_with fail
       have T2:=Lib.hid (((H2.out.setN (j+dl)).setN 800).setP (dp+(dl:Int)))
       refine (trim_spec T2.out (Nat.le_refl _)).mono ?_
       rintro e w9 ⟨rfl,t1,t2⟩
       have T1:=Lib.hid t1
       have TO:=Lib.hid (Only.trans (onlyG_set (onlyG_set (onlyG_set H3.out 800 (.int .i64 ((j+dl:Nat):Int))) 800 (.int .i64 ((800:Nat):Int))) 801 (.int .i64 (dp+(dl:Int)))) t2 (fun k hk=>.inl hk))
       clear t1 t2
       go_wp2_with fail
       go_end0
       refine ⟨V,j+dl,800,HV.out.symm,by rw [HDL.out],?_,rfl,?_,TO.out⟩
       ·have:=HBG.out
        split <;> omega
       ·rw [HDL.out]
        exact T1.out
     ·have hi:i<j+dl:=by
       rcases Nat.lt_or_ge i (j+dl) with h | h
       ·exact h
       ·exfalso
        have h8:10 ^ (j+dl)≤10 ^ i:=Nat.pow_le_pow_right (by decide) h
        have h9:V/10 ^ i=0:=Nat.div_eq_of_lt (by omega)
        omega
      obtain ⟨q,hq⟩:∃ q,j+dl-(i+1)=q:=⟨_,rfl⟩
      have e6:((j+dl-i:Nat):Int)=((q+1:Nat):Int):=by omega
      rw [e6]
      have b3:(0:Int)<(n7:Int):=by omega
      have hy10:n7 % 10<10:=Nat.mod_lt _ (by decide)
      have E1:(n7:Int)-10*((n7:Int)/10)+48=((48+n7 % 10:Nat):Int):=by omega
      have E2:(n7:Int)/10=((n7/10:Nat):Int):=by omega
      have W8:IntKind.i64.wrap (((q+1:Nat):Int)-1)=(q:Int):=by rw [IntWalk.i64_in _ (by omega)];omega
      have HP:=Lib.hid (And.intro h1 (And.intro h1a (And.intro hi (And.intro hq (And.intro eN eG)))))
      have HE1:=Lib.hid E1
      have HE2:=Lib.hid E2
      clear h1 h1a hi h1b hn7 eN eG eV hVb h2 h3 E1 E2 hz0
      by_cases hq8:q<800
      ·have b5:(q:Int)<800:=by omega
       have b6:(0:Int)≤(q:Int):=by omega
       have fq:=H2.out.fz q
       have cq:=H2.out.d q hq8
       go_wp2
       go_roundg (j+dl+1-(i+1))
       case measure=>have:=HP.out;omega
       case rel=>
        obtain ⟨h1,h1a,hi,hq,eN,eG⟩:=HP.out
        refine ⟨i+1,by omega,by omega,by omega,congrArg _ (by omega),?_,?_,onlyG_set H3.out q _⟩
        ·rw [HE2.out,eN]
        ·rw [HE1.out]
         have:=H2.out.setD q hq8 (48+n7 % 10)
         have e8:shT tr V (j+dl) (i+1)=shT tr V (j+dl) i:=by
          show (shT tr V (j+dl) i||(decide (800≤j+dl-1-i)&&_))=_
          rw [decide_eq_false (by omega),Bool.false_and,Bool.or_false]
         rw [e8]
         refine this.congr (fun l hl=>?_)
         rw [←shF_next (by omega) l,eG,hq]
      ·have b5:¬(q:Int)<800:=by omega
       have f3:=H2.out.fz 803
       have c3:=H2.out.c803
       by_cases hz:n7 % 10=0
       ·have b6:(n7:Int)-10*((n7:Int)/10)=0:=by omega
        go_wp2
        go_roundg (j+dl+1-(i+1))
        case measure=>have:=HP.out;omega
        case rel=>
         obtain ⟨h1,h1a,hi,hq,eN,eG⟩:=HP.out
         refine ⟨i+1,by omega,by omega,by omega,congrArg _ (by omega),?_,?_,H3.out⟩
         ·rw [HE2.out,eN]
         ·have e8:shT tr V (j+dl) (i+1)=shT tr V (j+dl) i:=by
           show (shT tr V (j+dl) i||(_&&decide (dg V i≠0)))=_
           rw [←eG,show decide (n7 % 10≠0)=false from decide_eq_false (by omega),Bool.and_false,Bool.or_false]
          rw [e8]
          refine H2.out.congr (fun l hl=>?_)
          rw [←shF_next (by omega) l,hq,if_neg (by omega)]
       ·have b6:¬(n7:Int)-10*((n7:Int)/10)=0:=by omega
        go_wp2
        go_roundg (j+dl+1-(i+1))
        case measure=>have:=HP.out;omega
        case rel=>
         obtain ⟨h1,h1a,hi,hq,eN,eG⟩:=HP.out
         refine ⟨i+1,by omega,by omega,by omega,congrArg _ (by omega),?_,?_,onlyG_set H3.out 803 _⟩
         ·rw [HE2.out,eN]
         ·have e8:shT tr V (j+dl) (i+1)=true:=by
           show (shT tr V (j+dl) i||(decide (800≤j+dl-1-i)&&decide (dg V i≠0)))=_
           rw [←eG,decide_eq_true (by omega),decide_eq_true (by omega),Bool.and_true,Bool.or_true]
          rw [e8]
          refine (H2.out.setT true).congr (fun l hl=>?_)
          rw [←shF_next (by omega) l,hq,if_neg (by omega)]
end Go.Proofs.YtkfggfjdplnkpaaGreatDoor
end
section
namespace Go.Proofs.YtkfggfjdplnkpaaGreatDoor
open Go.RowKit
def rsP (f:Nat→Nat) (nd r:Nat):Nat:=valN (pad f nd) r
def rsGo (P:Nat→Nat) (t:Nat):Nat→Nat→Nat
 | 0,r=>r
 | m+1,r=>if P r<t then rsGo P t m (r+1) else r
def rsR (f:Nat→Nat) (nd k:Nat):Nat:=rsGo (rsP f nd) (2 ^ k) (k+2) 0
def rsn (f:Nat→Nat) (nd k:Nat):Nat→Nat
 | 0=>rsP f nd (rsR f nd k)
 | i+1=>(rsn f nd k i % 2 ^ k)*10+(pad f nd (rsR f nd k+i)-48)
def rsd (f:Nat→Nat) (nd k i:Nat):Nat:=rsn f nd k i/2 ^ k
def rsF (f:Nat→Nat) (nd k S i:Nat):Nat:=if i<S then 48+rsd f nd k i else f i
def rsT (tr:Bool) (f:Nat→Nat) (nd k:Nat):Nat→Bool
 | 0=>tr
 | i+1=>rsT tr f nd k i||(decide (800≤i)&&decide (0<rsd f nd k i))
def rsSt (f:Nat→Nat) (nd k:Nat):Nat→Nat→Nat
 | 0,i=>i
 | m+1,i=>if nd≤rsR f nd k+i∧rsn f nd k i=0 then i else rsSt f nd k m (i+1)
def rsS (f:Nat→Nat) (nd k:Nat):Nat:=rsSt f nd k (nd+k+2) 0
theorem rsP_next {f:Nat→Nat} {nd r:Nat}:rsP f nd (r+1)=rsP f nd r*10+(pad f nd r-48):=rfl
theorem rsP_ge {f:Nat→Nat} {nd r:Nat} (h0:f 0≠48) (hd:Digs f nd) (hn:0<nd) (hr:0<r):10 ^ (r-1)≤rsP f nd r:=by
 have e:pad f nd 0=f 0:=by unfold pad;rw [if_pos hn]
 exact valN_ge hr (by rw [e];exact h0) (by rw [e];exact (hd 0 hn).1)
theorem rsGo_spec (P:Nat→Nat) (t:Nat):∀ m r,(∃ j,r≤j∧j<r+m∧t≤P j)→t≤P (rsGo P t m r)∧(∀ j,r≤j→j<rsGo P t m r→P j<t)∧r≤rsGo P t m r
 | 0,r,⟨j,h1,h2,_⟩=>absurd h2 (by omega)
 | m+1,r,⟨j,h1,h2,h3⟩=>by
  unfold rsGo
  split
  ·next h=>
   have hj:r+1≤j:=by
    rcases Nat.lt_or_ge r j with h4 | h4
    ·exact h4
    ·have:j=r:=by omega
     subst this;omega
   obtain ⟨a,b,c⟩:=rsGo_spec P t m (r+1) ⟨j,hj,by omega,h3⟩
   refine ⟨a,fun i h5 h6=>?_,by omega⟩
   by_cases hi:i=r
   ·rw [hi];exact h
   ·exact b i (by omega) h6
  ·next h=>exact ⟨by omega,fun j h4 h5=>absurd h5 (by omega),Nat.le_refl _⟩
theorem rsR_spec {f:Nat→Nat} {nd k:Nat} (h0:f 0≠48) (hd:Digs f nd) (hn:0<nd) (hk:0<k) :
  2 ^ k≤rsP f nd (rsR f nd k)∧(∀ j,j<rsR f nd k→rsP f nd j<2 ^ k)∧1≤rsR f nd k:=by
 obtain ⟨a,b,c⟩:=rsGo_spec (rsP f nd) (2 ^ k) (k+2) 0 ⟨k+1,by omega,by omega,by
  have:=rsP_ge h0 hd hn (r:=k+1) (by omega)
  rw [Nat.add_sub_cancel] at this
  exact Nat.le_trans (Nat.pow_le_pow_left (by decide) k) this⟩
 refine ⟨a,fun j hj=>b j (Nat.zero_le _) hj,?_⟩
 show 1≤rsGo (rsP f nd) (2 ^ k) (k+2) 0
 rcases Nat.lt_or_ge 0 (rsGo (rsP f nd) (2 ^ k) (k+2) 0) with h | h
 ·exact h
 ·have e:rsGo (rsP f nd) (2 ^ k) (k+2) 0=0:=by omega
  rw [e] at a
  have h2:2 ^ 1≤2 ^ k:=Nat.pow_le_pow_right (by decide) hk
  have h3:rsP f nd 0=0:=rfl
  omega
theorem rsR_unique {f:Nat→Nat} {nd k r:Nat} (h0:f 0≠48) (hd:Digs f nd) (hn:0<nd) (hk:0<k) (h1:2 ^ k≤rsP f nd r) (h2:∀ j,j<r→rsP f nd j<2 ^ k):r=rsR f nd k:=by
 obtain ⟨a,b,c⟩:=rsR_spec (k:=k) h0 hd hn hk
 rcases Nat.lt_trichotomy r (rsR f nd k) with h | h | h
 ·have:=b r h;omega
 ·exact h
 ·have:=h2 _ h;omega
theorem rsGo_le (P:Nat→Nat) (t:Nat):∀ m r,rsGo P t m r≤r+m
 | 0,r=>Nat.le_refl _
 | m+1,r=>by
  unfold rsGo
  split
  ·have:=rsGo_le P t m (r+1);omega
  ·omega
theorem rsR_le (f:Nat→Nat) (nd k:Nat):rsR f nd k≤k+2:=by
 have:=rsGo_le (rsP f nd) (2 ^ k) (k+2) 0
 unfold rsR
 omega
theorem rsSt_le (f:Nat→Nat) (nd k:Nat):∀ m i,rsSt f nd k m i≤i+m
 | 0,i=>Nat.le_refl _
 | m+1,i=>by
  unfold rsSt
  split
  ·omega
  ·have:=rsSt_le f nd k m (i+1);omega
theorem rsS_le (f:Nat→Nat) (nd k:Nat):rsS f nd k≤nd+k+2:=by
 have:=rsSt_le f nd k (nd+k+2) 0
 unfold rsS
 omega
theorem rsT_low (tr:Bool) (f:Nat→Nat) (nd k:Nat):∀ i,i<800→rsT tr f nd k (i+1)=rsT tr f nd k i:=fun i hi=>by
 show (rsT tr f nd k i||(decide (800≤i)&&_))=_
 rw [decide_eq_false (by omega),Bool.false_and,Bool.or_false]
theorem rsF_next {f:Nat→Nat} {nd k i:Nat} (j:Nat):(if j=i then 48+rsd f nd k i else rsF f nd k i j)=rsF f nd k (i+1) j:=by
 unfold rsF
 by_cases h:j=i
 ·subst h;rw [if_pos rfl,if_pos (by omega)]
 ·rw [if_neg h]
  by_cases h2:j<i
  ·rw [if_pos h2,if_pos (by omega)]
  ·rw [if_neg h2,if_neg (by omega)]
theorem and_mask {n k p2:Nat} (hn:n<18446744073709551616) (hp:2 ^ k=p2) (hp64:p2≤18446744073709551616) (hp0:0<p2):bits .and .u64 (n:Int) ((p2:Int)-1)=((n % p2:Nat):Int):=by
 have h:=bits_and_u64_nat n (p2-1) hn (by omega)
 rw [show ((p2:Int)-1)=((p2-1:Nat):Int) by omega,h,←hp,Nat.and_two_pow_sub_one_eq_mod]
theorem pad9 {f:Nat→Nat} {nd:Nat} (hd:Digs f nd) (i:Nat):pad f nd i-48≤9:=by
 have:=pad_digs hd (i+1) i (by omega)
 omega
theorem rsn_lt {f:Nat→Nat} {nd k:Nat} (h0:f 0≠48) (hd:Digs f nd) (hn:0<nd) (hk:0<k):∀ i,rsn f nd k i<10*2 ^ k
 | 0=>by
  obtain ⟨a,b,c⟩:=rsR_spec (k:=k) h0 hd hn hk
  show rsP f nd (rsR f nd k)<_
  obtain ⟨r,hr⟩:∃ r,rsR f nd k=r+1:=⟨rsR f nd k-1,by omega⟩
  rw [hr,rsP_next]
  have h1:=b r (by omega)
  have h2:=pad9 hd r
  omega
 | i+1=>by
  have h1:=pad9 hd (rsR f nd k+i)
  have h2:rsn f nd k i % 2 ^ k<2 ^ k:=Nat.mod_lt _ (Nat.pow_pos (by decide))
  show (rsn f nd k i % 2 ^ k)*10+(pad f nd (rsR f nd k+i)-48)<_
  omega
theorem rsd_lt {f:Nat→Nat} {nd k:Nat} (h0:f 0≠48) (hd:Digs f nd) (hn:0<nd) (hk:0<k) (i:Nat):rsd f nd k i<10:=by
 unfold rsd
 rw [Nat.div_lt_iff_lt_mul (Nat.pow_pos (by decide))]
 exact rsn_lt h0 hd hn hk i
theorem rsd_zero {f:Nat→Nat} {nd k:Nat} (h0:f 0≠48) (hd:Digs f nd) (hn:0<nd) (hk:0<k):1≤rsd f nd k 0:=
 (Nat.one_le_div_iff (Nat.pow_pos (by decide))).2 (rsR_spec h0 hd hn hk).1
theorem rsn_dvd {f:Nat→Nat} {nd k i:Nat} (hi:nd≤rsR f nd k+i):∀ t,t≤k→2 ^ t ∣ rsn f nd k (i+t)
 | 0,_=>by simp
 | t+1,ht=>by
  have h1:=rsn_dvd hi t (by omega)
  show 2 ^ (t+1) ∣ (rsn f nd k (i+t) % 2 ^ k)*10+(pad f nd (rsR f nd k+(i+t))-48)
  have e:pad f nd (rsR f nd k+(i+t))=48:=by unfold pad;rw [if_neg (by omega)]
  rw [e,Nat.sub_self,Nat.add_zero,Nat.pow_succ]
  have h2:2 ^ t ∣ rsn f nd k (i+t) % 2 ^ k:=(Nat.dvd_mod_iff (Nat.pow_dvd_pow 2 (by omega))).2 h1
  obtain ⟨c,hc⟩:=h2
  exact ⟨c*5,by rw [hc,Nat.mul_assoc,Nat.mul_assoc,show c*10=2*(c*5) by omega,Nat.add_zero]⟩
theorem rsn_end {f:Nat→Nat} {nd k i:Nat} (hi:nd≤rsR f nd k+i):rsn f nd k (i+k+1)=0:=by
 have h1:=rsn_dvd hi k (Nat.le_refl _)
 show (rsn f nd k (i+k) % 2 ^ k)*10+(pad f nd (rsR f nd k+(i+k))-48)=0
 have e:pad f nd (rsR f nd k+(i+k))=48:=by unfold pad;rw [if_neg (by omega)]
 rw [e,Nat.mod_eq_zero_of_dvd h1]
theorem rsSt_spec (f:Nat→Nat) (nd k:Nat):∀ m i,(∃ j,i≤j∧j<i+m∧nd≤rsR f nd k+j∧rsn f nd k j=0)→
  (nd≤rsR f nd k+rsSt f nd k m i∧rsn f nd k (rsSt f nd k m i)=0)∧(∀ j,i≤j→j<rsSt f nd k m i→¬(nd≤rsR f nd k+j∧rsn f nd k j=0))∧i≤rsSt f nd k m i
 | 0,i,⟨j,h1,h2,_⟩=>absurd h2 (by omega)
 | m+1,i,⟨j,h1,h2,h3⟩=>by
  unfold rsSt
  split
  ·next h=>exact ⟨h,fun j h4 h5=>absurd h5 (by omega),Nat.le_refl _⟩
  ·next h=>
   have hj:i+1≤j:=by
    rcases Nat.lt_or_ge i j with h4 | h4
    ·exact h4
    ·have:j=i:=by omega
     subst this;exact absurd h3 h
   obtain ⟨a,b,c⟩:=rsSt_spec f nd k m (i+1) ⟨j,hj,by omega,h3⟩
   refine ⟨a,fun l h5 h6=>?_,by omega⟩
   by_cases hl:l=i
   ·rw [hl];exact h
   ·exact b l (by omega) h6
theorem rsS_spec {f:Nat→Nat} {nd k:Nat} (h0:f 0≠48) (hd:Digs f nd) (hn:0<nd) (hk:0<k) :
  (nd≤rsR f nd k+rsS f nd k∧rsn f nd k (rsS f nd k)=0)∧∀ j,j<rsS f nd k→¬(nd≤rsR f nd k+j∧rsn f nd k j=0):=by
 obtain ⟨a,b,c⟩:=rsSt_spec f nd k (nd+k+2) 0 ⟨nd+k+1,by omega,by omega,by omega,rsn_end (i:=nd) (by omega)⟩
 exact ⟨a,fun j hj=>b j (Nat.zero_le _) hj⟩
def ShrPost (w:World) (g:Nat) (f:Nat→Nat) (nd k:Nat) (dp:Int) (ng tr:Bool) (e:Ending) (w':World):Prop:=
 ∃ S m,S=rsS f nd k∧m=(if S≤800 then S else 800)∧e=.returned (.tuple #[])∧
  DecB w' g (rsF f nd k m) (trimN (rsF f nd k m) m) (if trimN (rsF f nd k m) m=0 then 0 else dp-((rsR f nd k:Int)-1)) ng (rsT tr f nd k S)∧OnlyG g w w'
set_option maxHeartbeats 8000000 in
theorem rightShift_spec {w:World} {g nd k:Nat} {f:Nat→Nat} {dp:Int} {ng tr:Bool} (h:DecB w g f nd dp ng tr) (hn:nd≤800) (hn0:0<nd) (hd:Digs f nd) (h0:f 0≠48) (hk:0<k) (hk2:k≤60)
  (hdp:-1000000≤dp∧dp≤1000000) :
  Calls Tryz.prog 209 #[.pointer (some ⟨g,0,none⟩),.int .u64 (k:Int)] w (ShrPost w g f nd k dp ng tr):=by
 have HH:=Lib.hid h
 have c8:=h.c800
 obtain ⟨r1,r2,r3⟩:=rsR_spec h0 hd hn0 hk
 have hk60:2 ^ k≤2 ^ 60:=Nat.pow_le_pow_right (by decide) hk2
 obtain ⟨p2,hp2⟩:∃ p2,2 ^ k=p2:=⟨_,rfl⟩
 have hp0:0<p2:=by rw [←hp2];exact Nat.pow_pos (by decide)
 rw [hp2] at hk60 r1 r2
 have HR1:=Lib.hid r1
 have HR2:=Lib.hid r2
 have HP2:=Lib.hid hp2
 have hp2i:(2:Int) ^ k=(p2:Int):=by rw [←hp2,Int.natCast_pow];rfl
 clear h r1 r2 hp2
 go_enter Tryz.func209,Tryz.ntmps209
 go_upto_block 0 with fail
 go_cut [4,6] from 12 to 48 (fun v4 v6 wx=>v4=.int .i64 ((rsR f nd k:Nat):Int)∧v6=.int .u64 ((rsP f nd (rsR f nd k):Nat):Int)∧wx=w)
 case first=>
  go_wp2_with fail
  go_loopg [4,6] (rsR f nd k) (fun mq v4 v6 wr=>∃ r:Nat,r≤nd∧mq+r=rsR f nd k∧v4=.int .i64 (r:Int)∧v6=.int .u64 ((rsP f nd r:Nat):Int)∧wr=w)
  case atStart=>exact ⟨0,by omega,by omega,rfl,rfl,rfl⟩
  case round=>
   obtain ⟨r,hrn,h1,rfl,rfl,rfl⟩:=hrel
   by_cases hr:r<rsR f nd k
   ·have hlt:=HR2.out r hr
    obtain ⟨n7,hn7⟩:∃ n7,rsP f nd r=n7:=⟨_,rfl⟩
    rw [hn7] at hlt ⊢
    have hb7:(n7:Int)<1152921504606846976:=by omega
    have DV:(n7:Int)/(p2:Int)=0:=by
     rw [show (n7:Int)/(p2:Int)=((n7/p2:Nat):Int) from rfl,Nat.div_eq_of_lt hlt];rfl
    by_cases hrd:r<nd
    ·have d2:¬(nd:Int)≤(r:Int):=by omega
     have cd:=HH.out.d r (by omega)
     have hxd:=hd r hrd
     obtain ⟨x,hx⟩:∃ x,f r=x:=⟨_,rfl⟩
     rw [hx] at cd hxd
     have b3:(r:Int)<800:=by omega
     have b4:(48:Int)≤(x:Int)∧(x:Int)≤57:=by omega
     have HP:=Lib.hid (And.intro h1 (And.intro hr (And.intro hn7 hx)))
     clear h1 hr hn7 hx hlt
     go_wp2
     go_roundg (rsR f nd k-(r+1))
     case measure=>have:=HP.out;omega
     case rel=>
      obtain ⟨h1,hr,hn7,hx⟩:=HP.out
      refine ⟨r+1,by omega,by omega,rfl,congrArg _ ?_,rfl⟩
      rw [rsP_next,hn7]
      have e:pad f nd r=x:=by unfold pad;rw [if_pos hrd,hx]
      rw [e]
      omega
    ·have hrn2:r=nd:=by omega
     subst hrn2
     have hpos:0<n7:=by
      rw [←hn7]
      exact Nat.lt_of_lt_of_le (pow10_pos _) (rsP_ge h0 hd hn0 hn0)
     have d3:¬(n7:Int)=0:=by omega
     have HP:=Lib.hid (And.intro h1 (And.intro hr hn7))
     clear h1 hr hn7 hlt hrd hrn hpos
     go_upto_if 25 with fail
     rw [show ((n7:Int)==0)=false from beq_eq_false_iff_ne.2 d3]
     clear DV d3
     go_wp2
     go_loopg [4,6] (rsR f r k-r) (fun mq v4 v6 wr2=>∃ q:Nat,r≤q∧q≤rsR f r k∧mq+q=rsR f r k∧v4=.int .i64 (q:Int)∧v6=.int .u64 ((rsP f r q:Nat):Int)∧wr2=wr)
     case atStart=>exact ⟨r,Nat.le_refl _,by have:=HP.out;omega,by have:=HP.out;omega,rfl,by rw [HP.out.2.2],rfl⟩
     case round=>
      obtain ⟨q,hrq,hq,h1,rfl,rfl,rfl⟩:=hrel
      by_cases hqR:q<rsR f r k
      ·have hlt:=HR2.out q hqR
       obtain ⟨n8,hn8⟩:∃ n8,rsP f r q=n8:=⟨_,rfl⟩
       rw [hn8] at hlt ⊢
       have hb8:(n8:Int)<1152921504606846976:=by omega
       have DV:(n8:Int)/(p2:Int)=0:=by
        rw [show (n8:Int)/(p2:Int)=((n8/p2:Nat):Int) from rfl,Nat.div_eq_of_lt hlt];rfl
       have HP2':=Lib.hid (And.intro h1 (And.intro hqR (And.intro hn8 hrq)))
       have hq70:(q:Int)<100000:=by have:=rsR_le f r k;omega
       clear h1 hqR hn8 hlt hrq hq
       go_wp2
       go_roundg (rsR f r k-(q+1))
       case measure=>have:=HP2'.out;omega
       case rel=>
        obtain ⟨h1,hqR,hn8,hrq⟩:=HP2'.out
        refine ⟨q+1,by omega,by omega,by omega,rfl,congrArg _ ?_,rfl⟩
        rw [rsP_next,hn8]
        have e:pad f r q=48:=by unfold pad;rw [if_neg (by omega)]
        rw [e]
        omega
      ·have hqe:q=rsR f r k:=by omega
       subst hqe
       have h9:=HR1.out
       obtain ⟨n9,hn9⟩:∃ n9,rsP f r (rsR f r k)=n9:=⟨_,rfl⟩
       rw [hn9] at h9 ⊢
       obtain ⟨z,hz⟩:∃ z,n9/p2=z:=⟨_,rfl⟩
       have DV:(n9:Int)/(p2:Int)=(z:Int):=by rw [←hz];rfl
       have DZ:¬(z:Int)=0:=by
        have:=Nat.div_pos h9 hp0
        omega
       clear hz
       have HN9:=Lib.hid hn9
       clear h1 hq hrq hqR h9 hn9
       go_upto_if 32 with fail
       rw [show ((z:Int)==0)=false from beq_eq_false_iff_ne.2 DZ]
       clear DV DZ
       iterate 7 (first | go_values | go_skip | go_guarded | go_step | go_upon | go_back)
       go_meet
       exact ⟨rfl,by rw [HN9.out],rfl⟩
   ·have hre:r=rsR f nd k:=by omega
    subst hre
    have h9:=HR1.out
    obtain ⟨n9,hn9⟩:∃ n9,rsP f nd (rsR f nd k)=n9:=⟨_,rfl⟩
    rw [hn9] at h9 ⊢
    obtain ⟨z,hz⟩:∃ z,n9/p2=z:=⟨_,rfl⟩
    have DV:(n9:Int)/(p2:Int)=(z:Int):=by rw [←hz];rfl
    have DZ:¬(z:Int)=0:=by
     have:=Nat.div_pos h9 hp0
     omega
    clear hz
    have HN9:=Lib.hid hn9
    clear h1 hrn hr h9 hn9
    go_wp2
    go_meet
    exact ⟨rfl,by rw [HN9.out],rfl⟩
 case rest=>
  obtain ⟨rfl,rfl,rfl⟩:=hcut
  obtain ⟨R,hR⟩:∃ R,rsR f nd k=R:=⟨_,rfl⟩
  have HR:=Lib.hid hR
  have hR62:R≤62:=by rw [←hR];have:=rsR_le f nd k;omega
  rw [hR] at r3
  have e0:rsP f nd (rsR f nd k)=rsn f nd k 0:=rfl
  rw [e0,hR]
  have c1:=HH.out.c801
  have f1:=HH.out.fz 801
  have WP:IntKind.i64.wrap (dp-((R:Int)-1))=dp-((R:Int)-1):=IntWalk.i64_in _ (by omega)
  clear hR e0
  go_wp2_with fail
  go_loopg [4,5,6] nd (fun mq v4 v5 v6 wr=>∃ i:Nat,mq+i=nd∧v4=.int .i64 ((R+i:Nat):Int)∧v5=.int .i64 (i:Int)∧v6=.int .u64 ((rsn f nd k i:Nat):Int)∧(∀ j,j<i→R+j<nd)∧
   DecB wr g (rsF f nd k i) nd (dp-((R:Int)-1)) ng (rsT tr f nd k i)∧OnlyG g wc wr)
  case atStart=>
   refine ⟨0,by omega,rfl,rfl,rfl,fun j hj=>absurd hj (by omega),?_,onlyG_set (Only.refl _ _) 801 _⟩
   exact (HH.out.setP _).congr (fun i hi=>by unfold rsF;rw [if_neg (by omega)])
  case round=>
   obtain ⟨i,h1,rfl,rfl,rfl,h4,h2,h3⟩:=hrel
   have H2:=Lib.hid h2
   have H3:=Lib.hid h3
   have c8:=h2.c800
   by_cases hi:R+i<nd
   ·obtain ⟨r,hr⟩:∃ r,R+i=r:=⟨_,rfl⟩
    have cd:=h2.d r (by omega)
    have eF:rsF f nd k i r=f r:=by unfold rsF;rw [if_neg (by omega)]
    rw [eF] at cd
    have hxd:=hd r (by omega)
    have hlt:=rsn_lt (k:=k) h0 hd hn0 hk i
    have eN:rsn f nd k (i+1)=(rsn f nd k i % 2 ^ k)*10+(f r-48):=by
     show (rsn f nd k i % 2 ^ k)*10+(pad f nd (rsR f nd k+i)-48)=_
     rw [HR.out,hr]
     unfold pad
     rw [if_pos (by omega)]
    have eD:=rsd_lt (k:=k) h0 hd hn0 hk i
    have eD2:rsd f nd k i=rsn f nd k i/2 ^ k:=rfl
    rw [HP2.out] at hlt eN eD2
    obtain ⟨n7,hn7⟩:∃ n7,rsn f nd k i=n7:=⟨_,rfl⟩
    rw [hn7] at hlt eN eD2 ⊢
    obtain ⟨x,hx⟩:∃ x,f r=x:=⟨_,rfl⟩
    rw [hx] at cd hxd eN
    obtain ⟨y,hy⟩:∃ y,rsd f nd k i=y:=⟨_,rfl⟩
    rw [hy] at eD eD2
    rw [hr]
    have DV:(n7:Int)/(p2:Int)=(y:Int):=by rw [eD2];rfl
    obtain ⟨m,hm⟩:∃ m,n7 % p2=m:=⟨_,rfl⟩
    have hmp:m<p2:=by rw [←hm];exact Nat.mod_lt _ hp0
    have AM:bits .and .u64 (n7:Int) ((p2:Int)-1)=(m:Int):=by rw [and_mask (by omega) HP2.out (by omega) hp0,hm]
    rw [hm] at eN
    have b3:(r:Int)<(nd:Int):=by omega
    have b4:(r:Int)<800:=by omega
    have b5:(i:Int)<800:=by omega
    have b6:(y:Int)<10:=by omega
    have b7:(m:Int)<1152921504606846977:=by omega
    have b8:(48:Int)≤(x:Int)∧(x:Int)≤57:=by omega
    have fi:=H2.out.fz i
    have ci:=H2.out.d i (by omega)
    have HP:=Lib.hid (And.intro h1 (And.intro hi (And.intro hr (And.intro hy (And.intro eN h4)))))
    clear h1 hi hr hn7 hx hy hm hlt eN eD eD2 hmp h2 h3 h4
    go_wp2
    go_roundg (nd-(i+1))
    case measure=>have:=HP.out;omega
    case rel=>
     obtain ⟨h1,hi,hr,hy,eN,h4⟩:=HP.out
     refine ⟨i+1,by omega,congrArg _ (by omega),congrArg _ (by omega),congrArg _ (by rw [eN];omega),fun j hj=>?_,?_,onlyG_set H3.out i _⟩
     ·by_cases hji:j=i
      ·omega
      ·exact h4 j (by omega)
     ·rw [show (y:Int)+48=((48+y:Nat):Int) by omega,rsT_low tr f nd k i (by omega)]
      have:=H2.out.setD i (by omega) (48+y)
      rw [←hy] at this ⊢
      exact this.congr (fun j hj=>rsF_next j)
   ·have b3:¬((R+i:Nat):Int)<(nd:Int):=by omega
    have hsp:=rsS_spec (k:=k) h0 hd hn0 hk
    have hSl:=rsS_le f nd k
    obtain ⟨S,hS⟩:∃ S,rsS f nd k=S:=⟨_,rfl⟩
    have HS:=Lib.hid hS
    rw [hS,HR.out] at hsp
    rw [hS] at hSl
    have hiS:i≤S:=by
     rcases Nat.lt_or_ge S i with h | h
     ·have:=h4 S h;omega
     ·exact h
    have HSP:=Lib.hid hsp
    have hi8:i≤800:=by omega
    have HX:=Lib.hid (And.intro hn (And.intro hSl (And.intro hk2 hiS)))
    have H4:=Lib.hid h4
    have HI:=Lib.hid hi
    clear h1 hi h2 h3 h4 hsp hS hSl
    go_wp2
    go_loopg [5,6] (S-i) (fun mq v5 v6 wr2=>∃ l:Nat,mq+l=S∧i≤l∧v5=.int .i64 ((if l≤800 then l else 800:Nat):Int)∧v6=.int .u64 ((rsn f nd k l:Nat):Int)∧
     DecB wr2 g (rsF f nd k (if l≤800 then l else 800)) nd (dp-((R:Int)-1)) ng (rsT tr f nd k l)∧OnlyG g wc wr2)
    case atStart=>exact ⟨i,by omega,Nat.le_refl _,by rw [if_pos hi8],rfl,by rw [if_pos hi8];exact H2.out,H3.out⟩
    case round=>
     obtain ⟨l,h1,hil,rfl,rfl,h2,h3⟩:=hrel
     have K2:=Lib.hid h2
     have K3:=Lib.hid h3
     have hnr:nd≤R+l:=by have:=HI.out;omega
     have hlt:=rsn_lt (k:=k) h0 hd hn0 hk l
     have eN:rsn f nd k (l+1)=(rsn f nd k l % 2 ^ k)*10:=by
      show (rsn f nd k l % 2 ^ k)*10+(pad f nd (rsR f nd k+l)-48)=_
      rw [HR.out]
      unfold pad
      rw [if_neg (by omega),Nat.sub_self,Nat.add_zero]
     have eD:=rsd_lt (k:=k) h0 hd hn0 hk l
     have eD2:rsd f nd k l=rsn f nd k l/2 ^ k:=rfl
     rw [HP2.out] at hlt eN eD2
     obtain ⟨n7,hn7⟩:∃ n7,rsn f nd k l=n7:=⟨_,rfl⟩
     rw [hn7] at hlt eN eD2 ⊢
     by_cases hz:n7=0
     ·have hlS:l=S:=by
       rcases Nat.lt_or_ge l S with h | h
       ·exact absurd ⟨hnr,by rw [hn7];exact hz⟩ (HSP.out.2 l h)
       ·omega
      subst hlS
      subst hz
      clear h1 hil h2 h3 hnr hlt eN eD eD2 hn7
      obtain ⟨m,hm⟩:∃ m,(if l≤800 then l else 800)=m:=⟨_,rfl⟩
      have hm8:m≤800:=by rw [←hm]; split <;> omega
      have HM:=Lib.hid hm
      rw [hm] at K2 ⊢
      have c8':=K2.out.c800
      have f8':=K2.out.fz 800
      clear hm
      go_wp2_with fail
      refine (trim_spec (K2.out.setN m) hm8).mono ?_
      rintro e w9 ⟨rfl,t1,t2⟩
      have T1:=Lib.hid t1
      have TO:=Lib.hid (Only.trans (onlyG_set K3.out 800 (.int .i64 (m:Int))) t2 (fun k hk=>.inl hk))
      clear t1 t2
      go_wp2_with fail
      go_end0
      refine ⟨l,m,HS.out.symm,HM.out.symm,rfl,?_,TO.out⟩
      rw [HR.out]
      exact T1.out
     ·obtain ⟨y,hy⟩:∃ y,rsd f nd k l=y:=⟨_,rfl⟩
      rw [hy] at eD eD2
      have hlS:l<S:=by
       rcases Nat.lt_or_ge l S with h | h
       ·exact h
       ·have:l=S:=by omega
        subst this
        have:=HSP.out.1.2
        omega
      have DV:(n7:Int)/(p2:Int)=(y:Int):=by rw [eD2];rfl
      obtain ⟨m,hm⟩:∃ m,n7 % p2=m:=⟨_,rfl⟩
      have hmp:m<p2:=by rw [←hm];exact Nat.mod_lt _ hp0
      have AM:bits .and .u64 (n7:Int) ((p2:Int)-1)=(m:Int):=by rw [and_mask (by omega) HP2.out (by omega) hp0,hm]
      rw [hm] at eN
      have b4:0<n7:=by omega
      have b6:(y:Int)<10:=by omega
      have b7:(m:Int)<1152921504606846977:=by omega
      by_cases hl8:l<800
      ·rw [if_pos (by omega)]
       have b5:(l:Int)<800:=by omega
       have fl:=K2.out.fz l
       have cl:=K2.out.d l hl8
       have HP:=Lib.hid (And.intro h1 (And.intro hil (And.intro hlS (And.intro hy eN))))
       have KD:=Lib.hid (show DecB wr g (rsF f nd k l) nd (dp-((R:Int)-1)) ng (rsT tr f nd k l) by have:=K2.out;rw [if_pos (by omega)] at this;exact this)
       clear h1 hil hnr hlt eN eD eD2 hn7 hy hm hmp h2 h3 hlS hz
       go_upto_if 98 with fail
       try rw [decide_eq_true b4]
       clear b4
       go_wp2
       go_roundg (S-(l+1))
       case measure=>have:=HP.out;omega
       case rel=>
        obtain ⟨h1,hil,hlS,hy,eN⟩:=HP.out
        refine ⟨l+1,by omega,by omega,congrArg _ (by rw [if_pos (by omega)];omega),congrArg _ (by rw [eN];omega),?_,onlyG_set K3.out l _⟩
        rw [show (y:Int)+48=((48+y:Nat):Int) by omega,rsT_low tr f nd k l hl8,if_pos (by omega)]
        have:=KD.out.setD l hl8 (48+y)
        rw [←hy] at this ⊢
        exact this.congr (fun j hj=>rsF_next j)
      ·have e8:(if l≤800 then l else 800)=800:=by split <;> omega
       rw [e8]
       have KD:=Lib.hid (show DecB wr g (rsF f nd k 800) nd (dp-((R:Int)-1)) ng (rsT tr f nd k l) by have:=K2.out;rw [e8] at this;exact this)
       have f3:=K2.out.fz 803
       have c3:=K2.out.c803
       have HP:=Lib.hid (And.intro h1 (And.intro hil (And.intro hlS (And.intro hy (And.intro eN hl8)))))
       by_cases hy0:y=0
       ·have b9:¬0<y:=by omega
        have HY0:=Lib.hid hy0
        clear h1 hil hnr hlt eN eD eD2 hn7 hy hm hmp h2 h3 hlS hz hl8 e8 hy0
        go_upto_if 98 with fail
        try rw [decide_eq_true b4]
        clear b4
        go_wp2
        go_roundg (S-(l+1))
        case measure=>have:=HP.out;omega
        case rel=>
         obtain ⟨h1,hil,hlS,hy,eN,hl8⟩:=HP.out
         refine ⟨l+1,by omega,by omega,by rw [if_neg (by omega)],congrArg _ (by rw [eN];omega),?_,K3.out⟩
         have e9:rsT tr f nd k (l+1)=rsT tr f nd k l:=by
          show (rsT tr f nd k l||(_&&decide (0<rsd f nd k l)))=_
          rw [hy,HY0.out,show decide (0<0)=false from rfl,Bool.and_false,Bool.or_false]
         rw [e9,if_neg (by omega)]
         exact KD.out
       ·have b9:0<y:=by omega
        have HY0:=Lib.hid hy0
        clear h1 hil hnr hlt eN eD eD2 hn7 hy hm hmp h2 h3 hlS hz hl8 e8 hy0
        go_upto_if 98 with fail
        try rw [decide_eq_true b4]
        clear b4
        go_wp2
        go_roundg (S-(l+1))
        case measure=>have:=HP.out;omega
        case rel=>
         obtain ⟨h1,hil,hlS,hy,eN,hl8⟩:=HP.out
         refine ⟨l+1,by omega,by omega,by rw [if_neg (by omega)],congrArg _ (by rw [eN];omega),?_,onlyG_set K3.out 803 _⟩
         have e9:rsT tr f nd k (l+1)=true:=by
          show (rsT tr f nd k l||(decide (800≤l)&&decide (0<rsd f nd k l)))=_
          rw [hy,decide_eq_true (by omega),decide_eq_true (by have:=HY0.out;omega),Bool.and_true,Bool.or_true]
         rw [e9,if_neg (by omega)]
         exact KD.out.setT true
end Go.Proofs.YtkfggfjdplnkpaaGreatDoor
end
