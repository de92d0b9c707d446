/- A part of the proof that the law FnDecodeValues returns true; its conditions are those of the last part. -/
import Derived.Test.YtkfggfjdplnkpaaGreatDoorVShift
import Derived.Laws.Externs
set_option maxRecDepth 100000
set_option linter.unusedVariables false
set_option linter.unusedSimpArgs false
section
namespace Go.Proofs.YtkfggfjdplnkpaaGreatDoor
open Go.RowKit
def uSign (s:ByteArray):Bool:=decide (0<s.size∧(sb s 0=45∨sb s 0=43))
def uStrip (s:ByteArray):ByteArray:=if uSign s=true then s.extract 1 s.size else s
def uPre (s:ByteArray):Bool:=decide (1<s.size∧sb s 0=48∧(low8 (sb s 1)=98∨low8 (sb s 1)=111∨low8 (sb s 1)=120))
def uHex (s:ByteArray):Bool:=if uPre s=true then decide (low8 (sb s 1)=120) else false
def uI (s:ByteArray):Nat:=if uPre s=true then 2 else 0
def uSaw (s:ByteArray):Int:=if uPre s=true then 48 else 94
def isD (hex:Bool) (y:Nat):Bool:=decide (48≤y∧y≤57∨hex=true∧97≤low8 y∧low8 y≤102)
def uo1 (s:ByteArray) (hex:Bool):Nat→Nat→Int→Bool
 | 0,_,saw=>decide (¬saw=95)
 | m+1,i,saw=>if i<s.size then
   (if isD hex (sb s i)=true then uo1 s hex m (i+1) 48
   else if sb s i=95 then (if saw=48 then uo1 s hex m (i+1) 95 else false)
   else if saw=95 then false else uo1 s hex m (i+1) 33)
  else decide (¬saw=95)
theorem uo1_succ (s:ByteArray) (hex:Bool) (m i:Nat) (saw:Int):uo1 s hex (m+1) i saw=if i<s.size then
   (if isD hex (sb s i)=true then uo1 s hex m (i+1) 48
   else if sb s i=95 then (if saw=48 then uo1 s hex m (i+1) 95 else false)
   else if saw=95 then false else uo1 s hex m (i+1) 33)
  else decide (¬saw=95):=rfl
theorem uo1_end {s:ByteArray} {hex:Bool} {m i:Nat} {saw:Int} (h:¬i<s.size):uo1 s hex m i saw=decide (¬saw=95):=by
 cases m with
 | zero=>rfl
 | succ m=>rw [uo1_succ,if_neg h]
def uOk (s:ByteArray):Bool:=uo1 (uStrip s) (uHex (uStrip s)) (uStrip s).size (uI (uStrip s)) (uSaw (uStrip s))
theorem uStrip_le (s:ByteArray):(uStrip s).size≤s.size:=by
 unfold uStrip
 split
 ·rw [ByteArray.size_extract];omega
 ·exact Nat.le_refl _
theorem not_empty {s:ByteArray} (h:0<s.size):(s=ByteArray.empty)=False:=eq_false (fun e=>by rw [e] at h;exact absurd h (by decide))
set_option maxHeartbeats 16000000 in
theorem uok_spec {s:ByteArray} (hs:s.size≤800) (w:World):Calls Tryz.prog 163 #[.string s] w fun e w'=>e=.returned (.bool (uOk s))∧w'=w:=by
 obtain ⟨R,hR⟩:∃ R,uOk s=R:=⟨_,rfl⟩
 rw [hR]
 have HR:=Lib.hid hR
 clear hR
 go_enter Tryz.func163,Tryz.ntmps163
 obtain ⟨t,ht⟩:∃ t,uStrip s=t:=⟨_,rfl⟩
 have HT:=Lib.hid ht
 have htl:=uStrip_le s
 rw [ht] at htl
 have HTL:=Lib.hid htl
 clear ht htl
 have hcut1:∀ b,uSign s=b→(if b=true then s.extract 1 s.size else s)=t:=fun b hb=>by rw [←HT.out];unfold uStrip;rw [hb]
 have HC:=Lib.hid hcut1
 clear hcut1
 go_upto_region 3 with fail
 go_cut [18] from 6 to 18 (fun v18 wx=>v18=.bool (uSign s)∧wx=w)
 case first=>
  by_cases h0:s.size=0
  ·have E0:Hid (uSign s=false):=Lib.hid (decide_eq_false (by omega))
   have b1:((1:Int)≤(s.size:Int))=False:=eq_false (by omega)
   have b1n:(1≤s.size)=False:=eq_false (by omega)
   have b2n:(0<s.size)=False:=eq_false (by omega)
   clear h0
   go_wp2
   go_meet
   exact ⟨by rw [E0.out],rfl⟩
  ·have hpos:0<s.size:=by omega
   have bne:=not_empty hpos
   have b1:((1:Int)≤(s.size:Int))=True:=eq_true (by omega)
   have b1n:(1≤s.size)=True:=eq_true hpos
   have b2n:(0<s.size)=True:=eq_true hpos
   have b3:((0:Int)<(s.size:Int))=True:=eq_true (by omega)
   have hx:∀ h:0<s.size,((s[0]'h).toNat:Int)=(sb s 0:Int):=sb_at s 0 0 rfl
   have e0:uSign s=decide (sb s 0=45∨sb s 0=43):=decide_eq_decide.2 ⟨fun h=>h.2,fun h=>⟨hpos,h⟩⟩
   obtain ⟨y,hy⟩:∃ y,sb s 0=y:=⟨_,rfl⟩
   rw [hy] at hx e0
   have HE:=Lib.hid e0
   clear h0 hpos e0 hy
   by_cases d1:y=45
   ·have E0:Hid (uSign s=true):=Lib.hid (HE.out.trans (decide_eq_true (.inl d1)))
    have u1:(y:Int)=45:=by omega
    clear d1
    go_wp2
    go_meet
    exact ⟨by rw [E0.out],rfl⟩
   ·have u1:¬(y:Int)=45:=by omega
    by_cases d2:y=43
    ·have E0:Hid (uSign s=true):=Lib.hid (HE.out.trans (decide_eq_true (.inr d2)))
     have u2:(y:Int)=43:=by omega
     clear d1 d2
     go_wp2
     go_meet
     exact ⟨by rw [E0.out],rfl⟩
    ·have E0:Hid (uSign s=false):=Lib.hid (HE.out.trans (decide_eq_false (by omega)))
     have u2:¬(y:Int)=43:=by omega
     clear d1 d2
     go_wp2
     go_meet
     exact ⟨by rw [E0.out];exact congrArg _ (by simp [u1,u2]),rfl⟩
 case rest=>
  obtain ⟨rfl,rfl⟩:=hcut
  obtain ⟨b,hb⟩:∃ b,uSign s=b:=⟨_,rfl⟩
  rw [hb]
  have hc:=HC.out b hb
  have hp:b=true→0<s.size:=fun e=>by
   rw [e] at hb
   exact (of_decide_eq_true hb).1
  clear hb
  go_upto_if 18 with fail
  go_cut [0] from 18 to 20 (fun v0 wx=>v0=.string t∧wx=wc)
  case first=>
   cases b with
   | true=>
    have HC':Hid (s.extract 1 s.size=t):=Lib.hid hc
    have hpos:=hp rfl
    have bne:=not_empty hpos
    have b1:((1:Int)≤(s.size:Int))=True:=eq_true (by omega)
    have b1n:(1≤s.size)=True:=eq_true hpos
    clear hp hc
    go_wp2
    go_meet
    exact ⟨congrArg _ HC'.out,rfl⟩
   | false=>
    have HC':Hid (s=t):=Lib.hid hc
    clear hp hc
    go_wp2
    go_meet
    exact ⟨congrArg _ HC'.out,rfl⟩
  case rest=>
   obtain ⟨rfl,rfl⟩:=hcut
   have htl:t.size≤800:=Nat.le_trans HTL.out hs
   have HTS:=Lib.hid htl
   have HRT:Hid (uo1 t (uHex t) t.size (uI t) (uSaw t)=R):=Lib.hid (by rw [←HT.out];exact HR.out)
   clear hc hp htl hs
   go_upto_region 6 with fail
   go_cut [46] from 21 to 46 (fun v46 wx=>v46=.bool (uPre t)∧wx=wc)
   case first=>
    by_cases h0:t.size≤1
    ·have E0:Hid (uPre t=false):=Lib.hid (decide_eq_false (by omega))
     have b1:((2:Int)≤(t.size:Int))=False:=eq_false (by omega)
     have b1n:(2≤t.size)=False:=eq_false (by omega)
     clear h0
     go_wp2
     go_meet
     exact ⟨by rw [E0.out],rfl⟩
    ·have hpos:0<t.size:=by omega
     have hpos1:1<t.size:=by omega
     have bne:=not_empty hpos
     have b1:((2:Int)≤(t.size:Int))=True:=eq_true (by omega)
     have b1n:(2≤t.size)=True:=eq_true (by omega)
     have b2n:(0<t.size)=True:=eq_true hpos
     have b3:((0:Int)<(t.size:Int))=True:=eq_true (by omega)
     have b4n:(1<t.size)=True:=eq_true hpos1
     have b5:((1:Int)<(t.size:Int))=True:=eq_true (by omega)
     have hx:∀ h:0<t.size,((t[0]'h).toNat:Int)=(sb t 0:Int):=sb_at t 0 0 rfl
     have hx1:∀ h:1<t.size,((t[1]'h).toNat:Int)=(sb t 1:Int):=sb_at t 1 1 rfl
     have e0:uPre t=decide (sb t 0=48∧(low8 (sb t 1)=98∨low8 (sb t 1)=111∨low8 (sb t 1)=120)):=decide_eq_decide.2 ⟨fun h=>h.2,fun h=>⟨hpos1,h⟩⟩
     have HLOW:=Lib.hid (low_spec (sb t 1))
     obtain ⟨y,hy⟩:∃ y,sb t 0=y:=⟨_,rfl⟩
     obtain ⟨y1,hy1⟩:∃ y,sb t 1=y:=⟨_,rfl⟩
     obtain ⟨L,hL⟩:∃ L,low8 (sb t 1)=L:=⟨_,rfl⟩
     rw [hL] at HLOW e0
     rw [hy] at hx e0
     rw [hy1] at hx1 HLOW
     have HE:=Lib.hid e0
     clear h0 hpos hpos1 e0 hy hy1 hL
     by_cases d0:y=48
     ·have u0:(y:Int)=48:=by omega
      have HD0:=Lib.hid d0
      clear d0
      go_wp2_with fail
      refine (HLOW.out _).mono ?_
      rintro ex w2 ⟨rfl,rfl⟩
      by_cases d1:L=98
      ·have E0:Hid (uPre t=true):=Lib.hid (HE.out.trans (decide_eq_true ⟨HD0.out,.inl d1⟩))
       clear HE
       subst d1
       go_wp2_with fail
       go_meet
       exact ⟨by rw [E0.out],rfl⟩
      ·go_wp2_with fail
       refine (HLOW.out _).mono ?_
       rintro ex w2 ⟨rfl,rfl⟩
       by_cases d2:L=111
       ·have E0:Hid (uPre t=true):=Lib.hid (HE.out.trans (decide_eq_true ⟨HD0.out,.inr (.inl d2)⟩))
        clear HE
        subst d2
        go_wp2_with fail
        go_meet
        exact ⟨by rw [E0.out],rfl⟩
       ·go_wp2_with fail
        refine (HLOW.out _).mono ?_
        rintro ex w2 ⟨rfl,rfl⟩
        by_cases d3:L=120
        ·have E0:Hid (uPre t=true):=Lib.hid (HE.out.trans (decide_eq_true ⟨HD0.out,.inr (.inr d3)⟩))
         clear HE
         subst d3
         go_wp2_with fail
         go_meet
         exact ⟨by rw [E0.out],rfl⟩
        ·have E0:Hid (uPre t=false):=Lib.hid (HE.out.trans (decide_eq_false (by omega)))
         clear HE
         go_wp2_with fail
         go_meet
         exact ⟨by rw [E0.out];exact congrArg _ (by simp [d1,d2,d3]),rfl⟩
     ·have u0:¬(y:Int)=48:=by omega
      have E0:Hid (uPre t=false):=Lib.hid (HE.out.trans (decide_eq_false (by omega)))
      clear HE d0 HLOW
      go_wp2
      go_meet
      exact ⟨by rw [E0.out],rfl⟩
   case rest=>
    obtain ⟨rfl,rfl⟩:=hcut
    obtain ⟨b2,hb2⟩:∃ b,uPre t=b:=⟨_,rfl⟩
    rw [hb2]
    have HB:=Lib.hid hb2
    clear hb2
    go_upto_if 46 with fail
    go_cut [3,4,5] from 46 to 50 (fun v3 v4 v5 wx=>v3=.int .i32 (uSaw t)∧v4=.int .i64 (uI t:Int)∧v5=.bool (uHex t)∧wx=wc)
    case first=>
     cases b2 with
     | false=>
      have E1:Hid (uSaw t=94∧uI t=0∧uHex t=false):=Lib.hid (by unfold uSaw uI uHex;rw [HB.out];exact ⟨rfl,rfl,rfl⟩)
      go_wp2
      go_meet
      rw [E1.out.1,E1.out.2.1,E1.out.2.2]
      exact ⟨rfl,rfl,rfl,rfl⟩
     | true=>
      have E1:Hid (uSaw t=48∧uI t=2∧uHex t=decide (low8 (sb t 1)=120)):=Lib.hid (by unfold uSaw uI uHex;rw [HB.out];exact ⟨rfl,rfl,rfl⟩)
      have hpos1:1<t.size:=(of_decide_eq_true HB.out).1
      have b4n:(1<t.size)=True:=eq_true hpos1
      have b5:((1:Int)<(t.size:Int))=True:=eq_true (by omega)
      have hx1:∀ h:1<t.size,((t[1]'h).toNat:Int)=(sb t 1:Int):=sb_at t 1 1 rfl
      have HLOW:=Lib.hid (low_spec (sb t 1))
      obtain ⟨y1,hy1⟩:∃ y,sb t 1=y:=⟨_,rfl⟩
      obtain ⟨L,hL⟩:∃ L,low8 (sb t 1)=L:=⟨_,rfl⟩
      rw [hL] at HLOW E1
      rw [hy1] at hx1 HLOW
      clear hpos1 hy1 hL
      go_wp2_with fail
      refine (HLOW.out _).mono ?_
      rintro ex w2 ⟨rfl,rfl⟩
      go_wp2_with fail
      go_meet
      rw [E1.out.1,E1.out.2.1,E1.out.2.2]
      exact ⟨rfl,rfl,congrArg _ (by by_cases h:L=120 <;> simp [h]),rfl⟩
    case rest=>
     obtain ⟨rfl,rfl,rfl,rfl⟩:=hcut
     obtain ⟨hex,hhex⟩:∃ b,uHex t=b:=⟨_,rfl⟩
     obtain ⟨saw0,hsaw⟩:∃ b,uSaw t=b:=⟨_,rfl⟩
     obtain ⟨i0,hi0⟩:∃ b,uI t=b:=⟨_,rfl⟩
     rw [hhex,hsaw,hi0] at HRT
     rw [hhex,hsaw,hi0]
     clear hhex hsaw hi0 HR HT HTL HC HB
     go_wp2_with fail
     go_loopg [3,4] t.size (fun mq v3 v4 wr=>∃ (i:Nat) (x saw:Int),v3=.int .i32 saw∧v4=.int .i64 x∧x=(i:Int)∧t.size≤i+mq∧uo1 t hex mq i saw=R∧wr=wc)
     case atStart=>exact ⟨i0,(i0:Int),saw0,rfl,rfl,rfl,by omega,HRT.out,rfl⟩
     case round=>
      obtain ⟨i,x,saw,rfl,rfl,hx,hm,hr,rfl⟩:=hrel
      have hts:=HTS.out
      by_cases hi:i<t.size
      ·cases gk with
       | zero=>omega
       | succ m=>
        have hb:=sb_at t i x hx
        obtain ⟨y,hy⟩:∃ y,sb t i=y:=⟨_,rfl⟩
        rw [uo1_succ,if_pos hi,hy] at hr
        rw [hy] at hb
        have HR:=Lib.hid hr
        have q1:(x<(t.size:Int))=True:=eq_true (by omega)
        have q0:(0≤x)=True:=eq_true (by omega)
        have WX:IntKind.i64.wrap (x+1)=x+1:=IntWalk.i64_in _ (by omega)
        have HLOW:=Lib.hid (low_spec y)
        obtain ⟨L,hL⟩:∃ L,low8 y=L:=⟨_,rfl⟩
        rw [hL] at HLOW
        have HL:=Lib.hid hL
        have HM:=Lib.hid (And.intro hx hm)
        have HISD:Hid (∀ b:Bool,¬(48≤y∧y≤57∨b=true)→isD b y=false):=Lib.hid (fun b h=>decide_eq_false (fun h2=>h (h2.imp id (fun h3=>h3.1))))
        have HIS:=Lib.hid hi
        clear hts hi hy hr hL hx hm
        go_upto_region 12 with fail
        go_cut [83] from 57 to 83 (fun v83 wx=>v83=.bool (isD hex y)∧wx=wr)
        case first=>
         by_cases d1:48≤y
         ·have u1:(48:Int)≤(y:Int):=by omega
          by_cases d2:y≤57
          ·have u2:(y:Int)≤57:=by omega
           have E0:Hid (isD hex y=true):=Lib.hid (decide_eq_true (.inl ⟨d1,d2⟩))
           clear d1 d2
           go_wp2
           go_meet
           exact ⟨by rw [E0.out],rfl⟩
          ·have u2:¬(y:Int)≤57:=by omega
           cases hex with
           | false=>
            have E0:Hid (isD false y=false):=Lib.hid (HISD.out false (by intro h; rcases h with h | h <;> first | omega | cases h))
            clear d1 d2
            go_wp2_with fail
            go_meet
            exact ⟨by rw [E0.out],rfl⟩
           | true=>
            by_cases d3:97≤L
            ·by_cases d4:L≤102
             ·have E0:Hid (isD true y=true):=Lib.hid (by unfold isD;rw [HL.out];exact decide_eq_true (.inr ⟨rfl,d3,d4⟩))
              clear d1 d2
              go_wp2_with fail
              refine (HLOW.out _).mono ?_
              rintro ex w2 ⟨rfl,rfl⟩
              go_wp2_with fail
              refine (HLOW.out _).mono ?_
              rintro ex w2 ⟨rfl,rfl⟩
              go_wp2_with fail
              go_meet
              exact ⟨by rw [E0.out],rfl⟩
             ·have E0:Hid (isD true y=false):=Lib.hid (by unfold isD;rw [HL.out];exact decide_eq_false (by omega))
              clear d1 d2
              go_wp2_with fail
              refine (HLOW.out _).mono ?_
              rintro ex w2 ⟨rfl,rfl⟩
              go_wp2_with fail
              refine (HLOW.out _).mono ?_
              rintro ex w2 ⟨rfl,rfl⟩
              go_wp2_with fail
              go_meet
              exact ⟨by rw [E0.out];first | rfl | exact congrArg _ (by simp [d4]),rfl⟩
            ·have E0:Hid (isD true y=false):=Lib.hid (by unfold isD;rw [HL.out];exact decide_eq_false (by omega))
             clear d1 d2
             go_wp2_with fail
             refine (HLOW.out _).mono ?_
             rintro ex w2 ⟨rfl,rfl⟩
             go_wp2_with fail
             go_meet
             exact ⟨by rw [E0.out],rfl⟩
         ·have u1:¬(48:Int)≤(y:Int):=by omega
          cases hex with
          | false=>
           have E0:Hid (isD false y=false):=Lib.hid (HISD.out false (by intro h; rcases h with h | h <;> first | omega | cases h))
           clear d1
           go_wp2_with fail
           go_meet
           exact ⟨by rw [E0.out],rfl⟩
          | true=>
           by_cases d3:97≤L
           ·by_cases d4:L≤102
            ·have E0:Hid (isD true y=true):=Lib.hid (by unfold isD;rw [HL.out];exact decide_eq_true (.inr ⟨rfl,d3,d4⟩))
             clear d1
             go_wp2_with fail
             refine (HLOW.out _).mono ?_
             rintro ex w2 ⟨rfl,rfl⟩
             go_wp2_with fail
             refine (HLOW.out _).mono ?_
             rintro ex w2 ⟨rfl,rfl⟩
             go_wp2_with fail
             go_meet
             exact ⟨by rw [E0.out],rfl⟩
            ·have E0:Hid (isD true y=false):=Lib.hid (by unfold isD;rw [HL.out];exact decide_eq_false (by omega))
             clear d1
             go_wp2_with fail
             refine (HLOW.out _).mono ?_
             rintro ex w2 ⟨rfl,rfl⟩
             go_wp2_with fail
             refine (HLOW.out _).mono ?_
             rintro ex w2 ⟨rfl,rfl⟩
             go_wp2_with fail
             go_meet
             exact ⟨by rw [E0.out];first | rfl | exact congrArg _ (by simp [d4]),rfl⟩
           ·have E0:Hid (isD true y=false):=Lib.hid (by unfold isD;rw [HL.out];exact decide_eq_false (by omega))
            clear d1
            go_wp2_with fail
            refine (HLOW.out _).mono ?_
            rintro ex w2 ⟨rfl,rfl⟩
            go_wp2_with fail
            go_meet
            exact ⟨by rw [E0.out],rfl⟩
        case rest=>
         obtain ⟨rfl,rfl⟩:=hcut
         obtain ⟨bd,hbd⟩:∃ b,isD hex y=b:=⟨_,rfl⟩
         rw [hbd] at HR
         rw [hbd]
         clear hbd HLOW HL HISD q0 q1
         have q1:(x<(t.size:Int))=True:=eq_true (by have:=HM.out;have:=HIS.out;omega)
         have q0:(0≤x)=True:=eq_true (by have:=HM.out;omega)
         cases bd with
         | true=>
          have HR2:Hid (uo1 t hex m (i+1) 48=R):=Lib.hid HR.out
          go_wp2
          go_roundg m
          case measure=>omega
          case rel=>exact ⟨i+1,x+1,48,rfl,rfl,by have:=HM.out;omega,by have:=HM.out;omega,HR2.out,rfl⟩
         | false=>
          replace HR:Hid ((if y=95 then (if saw=48 then uo1 t hex m (i+1) 95 else false) else if saw=95 then false else uo1 t hex m (i+1) 33)=R):=Lib.hid HR.out
          by_cases d1:y=95
          ·have u1:(y:Int)=95:=by omega
           by_cases d2:saw=48
           ·have HR2:Hid (uo1 t hex m (i+1) 95=R):=Lib.hid (by have:=HR.out;rw [if_pos d1,if_pos d2] at this;exact this)
            clear d1 HR
            subst d2
            go_wp2
            go_roundg m
            case measure=>omega
            case rel=>exact ⟨i+1,x+1,95,rfl,rfl,by have:=HM.out;omega,by have:=HM.out;omega,HR2.out,rfl⟩
           ·have HR2:Hid (R=false):=Lib.hid (by have:=HR.out;rw [if_pos d1,if_neg d2] at this;exact this.symm)
            clear d1 HR
            go_wp2
            go_ret
            exact ⟨by rw [HR2.out];rfl,rfl⟩
          ·have u1:¬(y:Int)=95:=by omega
           by_cases d2:saw=95
           ·have HR2:Hid (R=false):=Lib.hid (by have:=HR.out;rw [if_neg d1,if_pos d2] at this;exact this.symm)
            clear d1 HR
            subst d2
            go_wp2
            go_ret
            exact ⟨by rw [HR2.out];rfl,rfl⟩
           ·have HR2:Hid (uo1 t hex m (i+1) 33=R):=Lib.hid (by have:=HR.out;rw [if_neg d1,if_neg d2] at this;exact this)
            clear d1 HR
            go_wp2
            go_roundg m
            case measure=>omega
            case rel=>exact ⟨i+1,x+1,33,rfl,rfl,by have:=HM.out;omega,by have:=HM.out;omega,HR2.out,rfl⟩
      ·have e:uo1 t hex gk i saw=decide (¬saw=95):=uo1_end hi
       have HR:Hid (decide (¬saw=95)=R):=Lib.hid (by rw [←hr,e])
       have q1:(x<(t.size:Int))=False:=eq_false (by omega)
       clear hts hi e hr hx hm
       by_cases d:saw=95
       ·have HR2:Hid (R=false):=Lib.hid (by rw [←HR.out];exact decide_eq_false (fun h=>h d))
        subst d
        go_wp2
        go_ret
        exact ⟨by rw [HR2.out];rfl,rfl⟩
       ·have HR2:Hid (R=true):=Lib.hid (by rw [←HR.out];exact decide_eq_true d)
        go_wp2
        go_ret
        exact ⟨by rw [HR2.out];exact congrArg (fun b=>Ending.returned (.bool b)) (by simp [d]),rfl⟩
end Go.Proofs.YtkfggfjdplnkpaaGreatDoor
end
section
namespace Go.Proofs.YtkfggfjdplnkpaaGreatDoor
open Go Go.RowKit
theorem run_frombits (n:Int) (w:World):Sem.run Tryz.prog (callFunc 182 #[.int .u64 n]) w=.ok (.value (.float .f64 n.toNat)) w:=
 (run_callFunc_extern (P:=Tryz.prog) (fn:=Tryz.f182) (e:=Extern.MathFloatBits.float64frombits) (by kernel_rfl) (by kernel_rfl) (by kernel_rfl) (by kernel_rfl) (by kernel_rfl) #[.int .u64 n] w).trans rfl
theorem results_tmp3 {fn:Func} {a b c:Tmp} (h:fn.results=#[.tmp a,.tmp b,.tmp c]) (tmps:Array Value) (P:Program) (w:World) :
  (results fn tmps).run P w=.ok (.tuple #[tmps.getD a undef,tmps.getD b undef,tmps.getD c undef]) w:=by
 simp [results,h]
def infB (sg:Int):Nat:=if 0≤sg then 9218868437227405312 else 18442240474082181120
theorem inf_spec (sg:Int) (w:World):Calls Tryz.prog 190 #[.int .i64 sg] w fun e w'=>e=.returned (.float .f64 (infB sg))∧w'=w:=by
 have hf:=run_frombits
 by_cases h:0≤sg
 ·have HE:Hid (infB sg=9218868437227405312):=Lib.hid (if_pos h)
  go_enter Tryz.func190,Tryz.ntmps190
  go_wp2
  go_ret
  exact ⟨by rw [HE.out];rfl,rfl⟩
 ·have HE:Hid (infB sg=18442240474082181120):=Lib.hid (if_neg h)
  go_enter Tryz.func190,Tryz.ntmps190
  go_wp2
  go_ret
  exact ⟨by rw [HE.out];rfl,rfl⟩
theorem nan_spec (w:World):Calls Tryz.prog 191 #[] w fun e w'=>e=.returned (.float .f64 9221120237041090561)∧w'=w:=by
 have hf:=run_frombits
 go_enter Tryz.func191,Tryz.ntmps191
 go_wp2
 go_ret
 exact ⟨rfl,rfl⟩
def upL (y:Nat):Nat:=if 65≤y∧y≤90 then y+32 else y
def cpl1 (s p:ByteArray) (n:Nat):Nat→Nat→Nat
 | 0,_=>n
 | m+1,i=>if i<n then (if upL (sb s i)=sb p i then cpl1 s p n m (i+1) else i) else n
def cplN (s p:ByteArray):Nat:=if s.size<p.size then s.size else p.size
def cpl (s p:ByteArray):Nat:=cpl1 s p (cplN s p) (cplN s p) 0
theorem cpl1_succ (s p:ByteArray) (n m i:Nat):cpl1 s p n (m+1) i=if i<n then (if upL (sb s i)=sb p i then cpl1 s p n m (i+1) else i) else n:=rfl
theorem cpl1_end {s p:ByteArray} {n m i:Nat} (h:¬i<n):cpl1 s p n m i=n:=by
 cases m with
 | zero=>rfl
 | succ m=>rw [cpl1_succ,if_neg h]
set_option maxHeartbeats 8000000 in
theorem cpl_spec {s p:ByteArray} (hp:p.size≤800) (w:World):Calls Tryz.prog 189 #[.string s,.string p] w fun e w'=>e=.returned (.int .i64 (cpl s p:Int))∧w'=w:=by
 obtain ⟨R,hR⟩:∃ R,cpl s p=R:=⟨_,rfl⟩
 rw [hR]
 obtain ⟨n,hn⟩:∃ n,cplN s p=n:=⟨_,rfl⟩
 have hRR:cpl1 s p n n 0=R:=by rw [←hR];unfold cpl;rw [hn]
 have HR:=Lib.hid hRR
 have hnl:n≤s.size∧n≤p.size:=by rw [←hn]; unfold cplN; split <;> omega
 have HNL:=Lib.hid hnl
 obtain ⟨nx,hnx⟩:∃ nx:Int,nx=(n:Int):=⟨_,rfl⟩
 have HNX:=Lib.hid hnx
 have hmin:(if (s.size:Int)<(p.size:Int) then (s.size:Int) else (p.size:Int))=nx:=by
  rw [hnx,←hn]
  unfold cplN
  by_cases h:s.size<p.size
  ·rw [if_pos (by omega),if_pos h]
  ·rw [if_neg (by omega),if_neg h]
 clear hR hn hRR hnl hnx
 go_enter Tryz.func189,Tryz.ntmps189
 go_upto_region 1 with fail
 go_cut [5] from 8 to 12 (fun v5 wx=>v5=.int .i64 nx∧wx=w)
 case first=>
  by_cases h:s.size<p.size
  ·have e1:(s.size:Int)=nx:=by rw [←hmin,if_pos (by omega)]
   have HE:=Lib.hid e1
   have e2:(s.size:Int)<(p.size:Int):=by omega
   have e3:¬(p.size:Int)<(s.size:Int):=by omega
   have e4:¬(p.size:Int)≤(s.size:Int):=by omega
   have e5:(s.size:Int)≤(p.size:Int):=by omega
   clear hmin h e1
   go_wp2
   go_meet
   exact ⟨by rw [HE.out],rfl⟩
  ·have e1:(p.size:Int)=nx:=by rw [←hmin,if_neg (by omega)]
   have HE:=Lib.hid e1
   have e2:¬(s.size:Int)<(p.size:Int):=by omega
   have e4:(p.size:Int)≤(s.size:Int):=by omega
   clear hmin h e1
   go_wp2
   go_meet
   exact ⟨by rw [HE.out],rfl⟩
 case rest=>
 obtain ⟨rfl,rfl⟩:=hcut
 clear hmin
 go_wp2_with fail
 go_loopg [6] n (fun mq v6 wr=>∃ (i:Nat) (x:Int),v6=.int .i64 x∧x=(i:Int)∧n≤i+mq∧cpl1 s p n mq i=R∧wr=wc)
 case atStart=>exact ⟨0,0,rfl,rfl,by omega,HR.out,rfl⟩
 case round=>
  obtain ⟨i,x,rfl,hx,hm,hr,rfl⟩:=hrel
  by_cases hi:i<n
  ·cases gk with
   | zero=>omega
   | succ m=>
    rw [cpl1_succ,if_pos hi] at hr
    have hb:=sb_at s i x hx
    have hb2:=sb_at p i x hx
    have hlt:=sb_lt s i
    have hu:upL (sb s i)=if 65≤sb s i∧sb s i≤90 then sb s i+32 else sb s i:=rfl
    obtain ⟨u,hu0⟩:∃ u,upL (sb s i)=u:=⟨_,rfl⟩
    rw [hu0] at hr hu
    obtain ⟨y,hy⟩:∃ y,sb s i=y:=⟨_,rfl⟩
    obtain ⟨z,hz⟩:∃ y,sb p i=y:=⟨_,rfl⟩
    rw [hy] at hb hlt hu
    rw [hz] at hb2 hr
    have HR:=Lib.hid hr
    have h1:=HNL.out
    have h2:=HNX.out
    have q1:(x<(s.size:Int))=True:=eq_true (by omega)
    have q2:(x<(p.size:Int))=True:=eq_true (by omega)
    have q3:(x<nx)=True:=eq_true (by omega)
    have q0:(0≤x)=True:=eq_true (by omega)
    have WX:IntKind.i64.wrap (x+1)=x+1:=IntWalk.i64_in _ (by omega)
    have HM:=Lib.hid (And.intro hx hm)
    clear hx hm hr hy hz h1 h2 hi hu0
    by_cases d1:65≤y∧y≤90
    ·rw [if_pos d1] at hu
     have u1:(65:Int)≤(y:Int):=by omega
     have u2:(y:Int)≤90:=by omega
     have W8:IntKind.u8.wrap ((y:Int)+32)=(u:Int):=by rw [hu];exact IntWalk.u8_in _ (by omega)
     have W9:((y:Int)+32) % 256=(u:Int):=by omega
     have HU:=Lib.hid hu
     clear hu d1
     by_cases d3:u=z
     ·have e3:(u:Int)=(z:Int):=by omega
      have HR2:Hid (cpl1 s p n m (i+1)=R):=Lib.hid (by have:=HR.out;rw [if_pos d3] at this;exact this)
      clear d3
      go_wp2
      go_roundg m
      case measure=>omega
      case rel=>exact ⟨i+1,x+1,rfl,by have:=HM.out;omega,by have:=HM.out;omega,HR2.out,rfl⟩
     ·have e3:¬(u:Int)=(z:Int):=by omega
      have HR2:Hid (i=R):=Lib.hid (by have:=HR.out;rw [if_neg d3] at this;exact this)
      clear d3
      go_wp2
      go_ret
      exact ⟨by rw [←HR2.out,←HM.out.1];rfl,rfl⟩
    ·have hu2:y=u:=by rw [hu,if_neg d1]
     clear hu
     subst hu2
     by_cases d2:65≤y
     ·have u1:(65:Int)≤(y:Int):=by omega
      have u2:¬(y:Int)≤90:=by omega
      clear d1 d2
      by_cases d3:y=z
      ·have e3:(y:Int)=(z:Int):=by omega
       have HR2:Hid (cpl1 s p n m (i+1)=R):=Lib.hid (by have:=HR.out;rw [if_pos d3] at this;exact this)
       clear d3
       go_wp2
       go_roundg m
       case measure=>omega
       case rel=>exact ⟨i+1,x+1,rfl,by have:=HM.out;omega,by have:=HM.out;omega,HR2.out,rfl⟩
      ·have e3:¬(y:Int)=(z:Int):=by omega
       have HR2:Hid (i=R):=Lib.hid (by have:=HR.out;rw [if_neg d3] at this;exact this)
       clear d3
       go_wp2
       go_ret
       exact ⟨by rw [←HR2.out,←HM.out.1];rfl,rfl⟩
     ·have u1:¬(65:Int)≤(y:Int):=by omega
      clear d1 d2
      by_cases d3:y=z
      ·have e3:(y:Int)=(z:Int):=by omega
       have HR2:Hid (cpl1 s p n m (i+1)=R):=Lib.hid (by have:=HR.out;rw [if_pos d3] at this;exact this)
       clear d3
       go_wp2
       go_roundg m
       case measure=>omega
       case rel=>exact ⟨i+1,x+1,rfl,by have:=HM.out;omega,by have:=HM.out;omega,HR2.out,rfl⟩
      ·have e3:¬(y:Int)=(z:Int):=by omega
       have HR2:Hid (i=R):=Lib.hid (by have:=HR.out;rw [if_neg d3] at this;exact this)
       clear d3
       go_wp2
       go_ret
       exact ⟨by rw [←HR2.out,←HM.out.1];rfl,rfl⟩
  ·have hR:n=R:=by rw [←hr,cpl1_end hi]
   have HR2:=Lib.hid hR
   have q3:(x<nx)=False:=eq_false (by have:=HNX.out;omega)
   clear hx hm hr hi hR
   go_wp2
   go_ret
   exact ⟨by rw [←HR2.out,←HNX.out];rfl,rfl⟩
def infW:ByteArray:=⟨#[105,110,102,105,110,105,116,121]⟩
def nanW:ByteArray:=⟨#[110,97,110]⟩
def spInf (t:ByteArray) (sg:Int) (ns:Int):Option (Nat × Int):=
 if 3≤cpl t infW∧cpl t infW<8 then some (infB sg,ns+3) else if cpl t infW=8 then some (infB sg,ns+8) else none
def spR (s:ByteArray):Option (Nat × Int):=
 if s.size=0 then none
 else if sb s 0=43 then spInf (s.extract 1 s.size) 1 1
 else if sb s 0=45 then spInf (s.extract 1 s.size) (-1) 1
 else if sb s 0=105 then spInf s 1 0
 else if sb s 0=73 then spInf s 1 0
 else if sb s 0=110∨sb s 0=78 then (if cpl s nanW=3 then some (9221120237041090561,3) else none)
 else none
def SpPost (w:World):Option (Nat × Int)→Ending→World→Prop
 | none,e,w'=>e=.returned (.tuple #[.float .f64 0,.int .i64 0,.bool false])∧w'=w
 | some r,e,w'=>e=.returned (.tuple #[.float .f64 r.1,.int .i64 r.2,.bool true])∧w'=w
set_option maxHeartbeats 8000000 in
theorem special_spec {s:ByteArray} (hs:s.size≤800) (w:World):Calls Tryz.prog 172 #[.string s] w (SpPost w (spR s)):=by
 obtain ⟨R,hR⟩:∃ R,spR s=R:=⟨_,rfl⟩
 rw [hR]
 have HR:=Lib.hid hR
 clear hR
 go_enter Tryz.func172,Tryz.ntmps172
 by_cases h0:s.size=0
 ·have HE:Hid (R=none):=Lib.hid (by rw [←HR.out];exact if_pos h0)
  have hse:s=ByteArray.empty:=ByteArray.size_eq_zero_iff.1 h0
  clear HR h0
  subst hse
  go_wp2
  refine bodyPost_ret (results_tmp3 rfl _ _ _) rfl ?_
  rw [HE.out]
  exact ⟨rfl,rfl⟩
 ·have hpos:0<s.size:=by omega
  have hR2:=HR.out
  unfold spR at hR2
  rw [if_neg h0] at hR2
  have HR2:=Lib.hid hR2
  have b1:((s.size:Int)=0)=False:=eq_false (by omega)
  have b1n:(s.size=0)=False:=eq_false h0
  have bq:((s.size:Int)==0)=false:=beq_eq_false_iff_ne.2 (by omega)
  have bne:=not_empty hpos
  have qn0:(0<s.size)=True:=eq_true hpos
  have q1n:(1≤s.size)=True:=eq_true hpos
  have qi0:((0:Int)<(s.size:Int))=True:=eq_true (by omega)
  have qi1:((1:Int)≤(s.size:Int))=True:=eq_true (by omega)
  have hx0:∀ h:0<s.size,((s[0]'h).toNat:Int)=(sb s 0:Int):=sb_at s 0 0 rfl
  obtain ⟨y,hy⟩:∃ y,sb s 0=y:=⟨_,rfl⟩
  rw [hy] at hx0 HR2
  obtain ⟨t,ht⟩:∃ t,s.extract 1 s.size=t:=⟨_,rfl⟩
  rw [ht] at HR2
  have HCT:=Lib.hid (cpl_spec (s:=t) (p:=infW) (by decide))
  have HCS:=Lib.hid (cpl_spec (s:=s) (p:=infW) (by decide))
  have HCN:=Lib.hid (cpl_spec (s:=s) (p:=nanW) (by decide))
  clear HR hR2 h0 hpos hy
  by_cases y1:y=43
  ·have HE:Hid (spInf t 1 1=R):=Lib.hid (by have:=HR2.out;rw [if_pos y1] at this;exact this)
   have z1:(y:Int)=43:=by omega
   clear y1 HR2
   go_wp2_with fail
   refine (HCT.out _).mono ?_
   rintro ex w2 ⟨rfl,rfl⟩
   obtain ⟨n,hn⟩:∃ n,cpl t infW=n:=⟨_,rfl⟩
   rw [hn]
   have hE:=HE.out
   unfold spInf at hE
   rw [hn] at hE
   have HE2:=Lib.hid hE
   clear hE hn HE HCT HCS HCN
   by_cases d1:3≤n∧n<8
   ·have HE:Hid (R=some (infB 1,1+3)):=Lib.hid (by have:=HE2.out;rw [if_pos d1] at this;exact this.symm)
    by_cases d2:n=3
    ·subst d2
     clear HE2
     go_wp2_with fail
     refine (inf_spec _ _).mono ?_
     rintro ex w3 ⟨rfl,rfl⟩
     go_wp2_with fail
     refine bodyPost_ret (results_tmp3 rfl _ _ _) rfl ?_
     rw [HE.out]
     exact ⟨rfl,rfl⟩
    ·have e1:(3:Int)<(n:Int):=by omega
     have e2:(n:Int)<8:=by omega
     clear d1 d2 HE2
     go_wp2_with fail
     refine (inf_spec _ _).mono ?_
     rintro ex w3 ⟨rfl,rfl⟩
     go_wp2_with fail
     refine bodyPost_ret (results_tmp3 rfl _ _ _) rfl ?_
     rw [HE.out]
     exact ⟨rfl,rfl⟩
   ·by_cases d2:n=8
    ·have HE:Hid (R=some (infB 1,1+8)):=Lib.hid (by have:=HE2.out;rw [if_neg d1,if_pos d2] at this;exact this.symm)
     subst d2
     clear HE2 d1
     go_wp2_with fail
     refine (inf_spec _ _).mono ?_
     rintro ex w3 ⟨rfl,rfl⟩
     go_wp2_with fail
     refine bodyPost_ret (results_tmp3 rfl _ _ _) rfl ?_
     rw [HE.out]
     exact ⟨rfl,rfl⟩
    ·have HE:Hid (R=none):=Lib.hid (by have:=HE2.out;rw [if_neg d1,if_neg d2] at this;exact this.symm)
     have e3:¬(n:Int)=3:=by omega
     have e4:¬(n:Int)=8:=by omega
     have e3b:((n:Int)==3)=false:=beq_eq_false_iff_ne.2 e3
     have e4b:((n:Int)==8)=false:=beq_eq_false_iff_ne.2 e4
     by_cases d3:3<n
     ·have e1:(3:Int)<(n:Int):=by omega
      have e2:¬(n:Int)<8:=by omega
      clear d1 d2 d3 HE2
      go_wp2_with fail
      refine bodyPost_ret (results_tmp3 rfl _ _ _) rfl ?_
      rw [HE.out]
      exact ⟨rfl,rfl⟩
     ·have e1:¬(3:Int)<(n:Int):=by omega
      clear d1 d2 d3 HE2
      go_wp2_with fail
      refine bodyPost_ret (results_tmp3 rfl _ _ _) rfl ?_
      rw [HE.out]
      exact ⟨rfl,rfl⟩
  ·have z1:¬(y:Int)=43:=by omega
   by_cases y2:y=45
   ·have HE:Hid (spInf t (-1) 1=R):=Lib.hid (by have:=HR2.out;rw [if_neg y1,if_pos y2] at this;exact this)
    have z2:(y:Int)=45:=by omega
    clear y1 y2 HR2
    go_wp2_with fail
    refine (HCT.out _).mono ?_
    rintro ex w2 ⟨rfl,rfl⟩
    obtain ⟨n,hn⟩:∃ n,cpl t infW=n:=⟨_,rfl⟩
    rw [hn]
    have hE:=HE.out
    unfold spInf at hE
    rw [hn] at hE
    have HE2:=Lib.hid hE
    clear hE hn HE HCT HCS HCN
    by_cases d1:3≤n∧n<8
    ·have HE:Hid (R=some (infB (-1),1+3)):=Lib.hid (by have:=HE2.out;rw [if_pos d1] at this;exact this.symm)
     by_cases d2:n=3
     ·subst d2
      clear HE2
      go_wp2_with fail
      refine (inf_spec _ _).mono ?_
      rintro ex w3 ⟨rfl,rfl⟩
      go_wp2_with fail
      refine bodyPost_ret (results_tmp3 rfl _ _ _) rfl ?_
      rw [HE.out]
      exact ⟨rfl,rfl⟩
     ·have e1:(3:Int)<(n:Int):=by omega
      have e2:(n:Int)<8:=by omega
      clear d1 d2 HE2
      go_wp2_with fail
      refine (inf_spec _ _).mono ?_
      rintro ex w3 ⟨rfl,rfl⟩
      go_wp2_with fail
      refine bodyPost_ret (results_tmp3 rfl _ _ _) rfl ?_
      rw [HE.out]
      exact ⟨rfl,rfl⟩
    ·by_cases d2:n=8
     ·have HE:Hid (R=some (infB (-1),1+8)):=Lib.hid (by have:=HE2.out;rw [if_neg d1,if_pos d2] at this;exact this.symm)
      subst d2
      clear HE2 d1
      go_wp2_with fail
      refine (inf_spec _ _).mono ?_
      rintro ex w3 ⟨rfl,rfl⟩
      go_wp2_with fail
      refine bodyPost_ret (results_tmp3 rfl _ _ _) rfl ?_
      rw [HE.out]
      exact ⟨rfl,rfl⟩
     ·have HE:Hid (R=none):=Lib.hid (by have:=HE2.out;rw [if_neg d1,if_neg d2] at this;exact this.symm)
      have e3:¬(n:Int)=3:=by omega
      have e4:¬(n:Int)=8:=by omega
      have e3b:((n:Int)==3)=false:=beq_eq_false_iff_ne.2 e3
      have e4b:((n:Int)==8)=false:=beq_eq_false_iff_ne.2 e4
      by_cases d3:3<n
      ·have e1:(3:Int)<(n:Int):=by omega
       have e2:¬(n:Int)<8:=by omega
       clear d1 d2 d3 HE2
       go_wp2_with fail
       refine bodyPost_ret (results_tmp3 rfl _ _ _) rfl ?_
       rw [HE.out]
       exact ⟨rfl,rfl⟩
      ·have e1:¬(3:Int)<(n:Int):=by omega
       clear d1 d2 d3 HE2
       go_wp2_with fail
       refine bodyPost_ret (results_tmp3 rfl _ _ _) rfl ?_
       rw [HE.out]
       exact ⟨rfl,rfl⟩
   ·have z2:¬(y:Int)=45:=by omega
    by_cases y3:y=105
    ·have HE:Hid (spInf s 1 0=R):=Lib.hid (by have:=HR2.out;rw [if_neg y1,if_neg y2,if_pos y3] at this;exact this)
     have z3:(y:Int)=105:=by omega
     clear y1 y2 y3 HR2
     go_wp2_with fail
     refine (HCS.out _).mono ?_
     rintro ex w2 ⟨rfl,rfl⟩
     obtain ⟨n,hn⟩:∃ n,cpl s infW=n:=⟨_,rfl⟩
     rw [hn]
     have hE:=HE.out
     unfold spInf at hE
     rw [hn] at hE
     have HE2:=Lib.hid hE
     clear hE hn HE HCT HCS HCN
     by_cases d1:3≤n∧n<8
     ·have HE:Hid (R=some (infB 1,0+3)):=Lib.hid (by have:=HE2.out;rw [if_pos d1] at this;exact this.symm)
      by_cases d2:n=3
      ·subst d2
       clear HE2
       go_wp2_with fail
       refine (inf_spec _ _).mono ?_
       rintro ex w3 ⟨rfl,rfl⟩
       go_wp2_with fail
       refine bodyPost_ret (results_tmp3 rfl _ _ _) rfl ?_
       rw [HE.out]
       exact ⟨rfl,rfl⟩
      ·have e1:(3:Int)<(n:Int):=by omega
       have e2:(n:Int)<8:=by omega
       clear d1 d2 HE2
       go_wp2_with fail
       refine (inf_spec _ _).mono ?_
       rintro ex w3 ⟨rfl,rfl⟩
       go_wp2_with fail
       refine bodyPost_ret (results_tmp3 rfl _ _ _) rfl ?_
       rw [HE.out]
       exact ⟨rfl,rfl⟩
     ·by_cases d2:n=8
      ·have HE:Hid (R=some (infB 1,0+8)):=Lib.hid (by have:=HE2.out;rw [if_neg d1,if_pos d2] at this;exact this.symm)
       subst d2
       clear HE2 d1
       go_wp2_with fail
       refine (inf_spec _ _).mono ?_
       rintro ex w3 ⟨rfl,rfl⟩
       go_wp2_with fail
       refine bodyPost_ret (results_tmp3 rfl _ _ _) rfl ?_
       rw [HE.out]
       exact ⟨rfl,rfl⟩
      ·have HE:Hid (R=none):=Lib.hid (by have:=HE2.out;rw [if_neg d1,if_neg d2] at this;exact this.symm)
       have e3:¬(n:Int)=3:=by omega
       have e4:¬(n:Int)=8:=by omega
       have e3b:((n:Int)==3)=false:=beq_eq_false_iff_ne.2 e3
       have e4b:((n:Int)==8)=false:=beq_eq_false_iff_ne.2 e4
       by_cases d3:3<n
       ·have e1:(3:Int)<(n:Int):=by omega
        have e2:¬(n:Int)<8:=by omega
        clear d1 d2 d3 HE2
        go_wp2_with fail
        refine bodyPost_ret (results_tmp3 rfl _ _ _) rfl ?_
        rw [HE.out]
        exact ⟨rfl,rfl⟩
       ·have e1:¬(3:Int)<(n:Int):=by omega
        clear d1 d2 d3 HE2
        go_wp2_with fail
        refine bodyPost_ret (results_tmp3 rfl _ _ _) rfl ?_
        rw [HE.out]
        exact ⟨rfl,rfl⟩
    ·have z3:¬(y:Int)=105:=by omega
     by_cases y4:y=73
     ·have HE:Hid (spInf s 1 0=R):=Lib.hid (by have:=HR2.out;rw [if_neg y1,if_neg y2,if_neg y3,if_pos y4] at this;exact this)
      have z4:(y:Int)=73:=by omega
      clear y1 y2 y3 y4 HR2
      go_wp2_with fail
      refine (HCS.out _).mono ?_
      rintro ex w2 ⟨rfl,rfl⟩
      obtain ⟨n,hn⟩:∃ n,cpl s infW=n:=⟨_,rfl⟩
      rw [hn]
      have hE:=HE.out
      unfold spInf at hE
      rw [hn] at hE
      have HE2:=Lib.hid hE
      clear hE hn HE HCT HCS HCN
      by_cases d1:3≤n∧n<8
      ·have HE:Hid (R=some (infB 1,0+3)):=Lib.hid (by have:=HE2.out;rw [if_pos d1] at this;exact this.symm)
       by_cases d2:n=3
       ·subst d2
        clear HE2
        go_wp2_with fail
        refine (inf_spec _ _).mono ?_
        rintro ex w3 ⟨rfl,rfl⟩
        go_wp2_with fail
        refine bodyPost_ret (results_tmp3 rfl _ _ _) rfl ?_
        rw [HE.out]
        exact ⟨rfl,rfl⟩
       ·have e1:(3:Int)<(n:Int):=by omega
        have e2:(n:Int)<8:=by omega
        clear d1 d2 HE2
        go_wp2_with fail
        refine (inf_spec _ _).mono ?_
        rintro ex w3 ⟨rfl,rfl⟩
        go_wp2_with fail
        refine bodyPost_ret (results_tmp3 rfl _ _ _) rfl ?_
        rw [HE.out]
        exact ⟨rfl,rfl⟩
      ·by_cases d2:n=8
       ·have HE:Hid (R=some (infB 1,0+8)):=Lib.hid (by have:=HE2.out;rw [if_neg d1,if_pos d2] at this;exact this.symm)
        subst d2
        clear HE2 d1
        go_wp2_with fail
        refine (inf_spec _ _).mono ?_
        rintro ex w3 ⟨rfl,rfl⟩
        go_wp2_with fail
        refine bodyPost_ret (results_tmp3 rfl _ _ _) rfl ?_
        rw [HE.out]
        exact ⟨rfl,rfl⟩
       ·have HE:Hid (R=none):=Lib.hid (by have:=HE2.out;rw [if_neg d1,if_neg d2] at this;exact this.symm)
        have e3:¬(n:Int)=3:=by omega
        have e4:¬(n:Int)=8:=by omega
        have e3b:((n:Int)==3)=false:=beq_eq_false_iff_ne.2 e3
        have e4b:((n:Int)==8)=false:=beq_eq_false_iff_ne.2 e4
        by_cases d3:3<n
        ·have e1:(3:Int)<(n:Int):=by omega
         have e2:¬(n:Int)<8:=by omega
         clear d1 d2 d3 HE2
         go_wp2_with fail
         refine bodyPost_ret (results_tmp3 rfl _ _ _) rfl ?_
         rw [HE.out]
         exact ⟨rfl,rfl⟩
        ·have e1:¬(3:Int)<(n:Int):=by omega
         clear d1 d2 d3 HE2
         go_wp2_with fail
         refine bodyPost_ret (results_tmp3 rfl _ _ _) rfl ?_
         rw [HE.out]
         exact ⟨rfl,rfl⟩
     ·have z4:¬(y:Int)=73:=by omega
      by_cases y5:y=110
      ·have HE:Hid ((if cpl s nanW=3 then some (9221120237041090561,3) else none)=R):=Lib.hid (by have:=HR2.out;rw [if_neg y1,if_neg y2,if_neg y3,if_neg y4,if_pos (.inl y5)] at this;exact this)
       have z5:(y:Int)=110:=by omega
       clear y1 y2 y3 y4 y5 HR2
       go_wp2_with fail
       refine (HCN.out _).mono ?_
       rintro ex w2 ⟨rfl,rfl⟩
       obtain ⟨n,hn⟩:∃ n,cpl s nanW=n:=⟨_,rfl⟩
       rw [hn]
       rw [hn] at HE
       clear hn HCT HCS HCN
       by_cases d1:n=3
       ·have HE2:Hid (R=some (9221120237041090561,3)):=Lib.hid (by have:=HE.out;rw [if_pos d1] at this;exact this.symm)
        clear HE
        subst d1
        go_wp2_with fail
        refine (nan_spec _).mono ?_
        rintro ex w3 ⟨rfl,rfl⟩
        go_wp2_with fail
        refine bodyPost_ret (results_tmp3 rfl _ _ _) rfl ?_
        rw [HE2.out]
        exact ⟨rfl,rfl⟩
       ·have HE2:Hid (R=none):=Lib.hid (by have:=HE.out;rw [if_neg d1] at this;exact this.symm)
        have e1:¬(n:Int)=3:=by omega
        clear HE d1
        go_wp2_with fail
        refine bodyPost_ret (results_tmp3 rfl _ _ _) rfl ?_
        rw [HE2.out]
        exact ⟨rfl,rfl⟩
      ·have z5:¬(y:Int)=110:=by omega
       by_cases y6:y=78
       ·have HE:Hid ((if cpl s nanW=3 then some (9221120237041090561,3) else none)=R):=Lib.hid (by have:=HR2.out;rw [if_neg y1,if_neg y2,if_neg y3,if_neg y4,if_pos (.inr y6)] at this;exact this)
        have z6:(y:Int)=78:=by omega
        clear y1 y2 y3 y4 y5 y6 HR2
        go_wp2_with fail
        refine (HCN.out _).mono ?_
        rintro ex w2 ⟨rfl,rfl⟩
        obtain ⟨n,hn⟩:∃ n,cpl s nanW=n:=⟨_,rfl⟩
        rw [hn]
        rw [hn] at HE
        clear hn HCT HCS HCN
        by_cases d1:n=3
        ·have HE2:Hid (R=some (9221120237041090561,3)):=Lib.hid (by have:=HE.out;rw [if_pos d1] at this;exact this.symm)
         clear HE
         subst d1
         go_wp2_with fail
         refine (nan_spec _).mono ?_
         rintro ex w3 ⟨rfl,rfl⟩
         go_wp2_with fail
         refine bodyPost_ret (results_tmp3 rfl _ _ _) rfl ?_
         rw [HE2.out]
         exact ⟨rfl,rfl⟩
        ·have HE2:Hid (R=none):=Lib.hid (by have:=HE.out;rw [if_neg d1] at this;exact this.symm)
         have e1:¬(n:Int)=3:=by omega
         clear HE d1
         go_wp2_with fail
         refine bodyPost_ret (results_tmp3 rfl _ _ _) rfl ?_
         rw [HE2.out]
         exact ⟨rfl,rfl⟩
       ·have z6:¬(y:Int)=78:=by omega
        have HE:Hid (R=none):=Lib.hid (by have:=HR2.out;rw [if_neg y1,if_neg y2,if_neg y3,if_neg y4,if_neg (by omega)] at this;exact this.symm)
        clear y1 y2 y3 y4 y5 y6 HR2
        go_wp2
        refine bodyPost_ret (results_tmp3 rfl _ _ _) rfl ?_
        rw [HE.out]
        exact ⟨rfl,rfl⟩
end Go.Proofs.YtkfggfjdplnkpaaGreatDoor
end
