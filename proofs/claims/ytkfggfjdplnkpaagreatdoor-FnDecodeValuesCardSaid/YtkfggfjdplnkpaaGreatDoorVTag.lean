/- A part of the proof that the law FnDecodeValues returns true; its conditions are those of the last part. -/
import Derived.Test.YtkfggfjdplnkpaaGreatDoorVComma
set_option maxRecDepth 100000
set_option linter.unusedVariables false
set_option linter.unusedSimpArgs false
section
namespace Go.Proofs.YtkfggfjdplnkpaaGreatDoor
open Go.RowKit
def ResTag (w:World) (B g:Nat) (A:Ab) (C:Cn) (k v ev:Value):Res (List UInt8 × List UInt8)→Prop
 | .flt f=>k=.slice none 0 0∧v=.slice none 0 0∧Flted w B f ev
 | .non=>k=.slice none 0 0∧v=.slice none 0 0∧ev=.nilIface
 | .got (a,b)=>Told w g A C k a∧a≠[]∧Told w g A C v b∧ev=.nilIface
def TagPost (w:World) (B g:Nat) (T:List UInt8) (C:Cn) (sk:Bool) (r:PS × Res (List UInt8 × List UInt8)) (e:Ending) (w':World):Prop:=
 ∃ A' C' k v ev,e=.returned (.tuple #[k,v,ev])∧Rep w' B g T A' C'∧Pas g w C w' C'∧Is T A' r.1 sk∧ResTag w' B g A' C' k v ev r.2
def ResMap {α:Type} (s:PS):Option Flt→PS × Res α→PS × Res α
 | some f,_=>(s,.flt f)
 | none,r=>r
section
variable {wI w0 w:World} {C0 C:Cn} {B g:Nat} {T:List UInt8} {sk:Bool} {p f k:Nat} {A:Ab} {k0:PS} {r:PS × Res (List UInt8 × List UInt8)}
theorem TagPost.flt {fl:Flt} {ev:Value} (h:At wI w0 C0 B g T sk w p f k A C) (hr:r=(⟨p,f,k⟩,.flt fl)) (hx:Flted w B fl ev):TagPost w0 B g T C0 sk (ResMap k0 none r) (.returned (.tuple #[.slice none 0 0,.slice none 0 0,ev])) w:=by
 subst hr
 exact ⟨A,C,_,_,ev,rfl,h.rep,h.pas,h.is,rfl,rfl,hx⟩
theorem TagPost.non (h:At wI w0 C0 B g T sk w p f k A C) (hr:r=(⟨p,f,k⟩,.non)):TagPost w0 B g T C0 sk (ResMap k0 none r) (.returned (.tuple #[.slice none 0 0,.slice none 0 0,.nilIface])) w:=by
 subst hr
 exact ⟨A,C,_,_,_,rfl,h.rep,h.pas,h.is,rfl,rfl,rfl⟩
theorem TagPost.got {a b:List UInt8} {kv vv:Value} (h:At wI w0 C0 B g T sk w p f k A C) (hr:r=(⟨p,f,k⟩,.got (a,b))) (h1:Told w g A C kv a) (h2:a≠[]) (h3:Told w g A C vv b):TagPost w0 B g T C0 sk (ResMap k0 none r) (.returned (.tuple #[kv,vv,.nilIface])) w:=by
 subst hr
 exact ⟨A,C,_,_,_,rfl,h.rep,h.pas,h.is,h1,h2,h3,rfl⟩
end
theorem tagP_val {sk:Bool} {T:List UInt8} {p f pk:Nat} {kv vv:List UInt8} (h32:T.getD p 0≠32) (hkv:tkV sk 1 T p=kv) (hpk:p+tkN 1 T p=pk) (hK:valid kv=true) (hke:kv≠[]∧T.getD pk 0=61) (hvv:tkV sk 2 T (pk+1)=vv) (hV:valid vv=true) (hne:vv≠[]) :
  (pk+1+tkN 2 T (pk+1)<T.length→∀ s2,commaP T ⟨pk+1+tkN 2 T (pk+1),f,1⟩=(s2,none)→tagP sk T ⟨p,f,1⟩=(s2,.got (kv,vv)))∧
  (pk+1+tkN 2 T (pk+1)<T.length→∀ s2 fl,commaP T ⟨pk+1+tkN 2 T (pk+1),f,1⟩=(s2,some fl)→tagP sk T ⟨p,f,1⟩=(s2,.flt fl))∧
  (¬pk+1+tkN 2 T (pk+1)<T.length→tagP sk T ⟨p,f,1⟩=(⟨pk+1+tkN 2 T (pk+1),f,2⟩,.got (kv,vv))):=by
 unfold tagP
 rw [if_pos rfl,if_neg h32]
 dsimp only
 rw [hkv,hpk,if_pos ⟨hK,hke⟩,hvv,if_pos ⟨hV,hne⟩]
 refine ⟨fun h s2 hc=>?_,fun h s2 fl hc=>?_,fun h=>?_⟩
 ·rw [if_pos h,hc]
 ·rw [if_pos h,hc]
 ·rw [if_neg h]
theorem sp_dec (x:UInt8):inSet 0 x.toNat=decide (x=32):=by
 show (x.toNat==32)=decide (x=32)
 by_cases h:x=32
 ·rw [h];rfl
 ·rw [decide_eq_false h];simpa using fun e=>h (UInt8.toNat_inj.1 (by show x.toNat=32;exact e))
theorem getD_end {T:List UInt8} {p:Nat} (h:¬p+1≤T.length):T.getD p 0=0:=by rw [List.getD_eq_getElem?_getD,List.getElem?_eq_none (by omega)];rfl
set_option maxHeartbeats 4000000 in
theorem tag_of {wI w:World} {B g p f k p0 f0 k0:Nat} {T:List UInt8} {A0:Ab} {C:Cn} {sk sk0:Bool} {fo:Option Flt} (hI:Init wI B) (h0:At wI w C B g T sk0 w p0 f0 k0 A0 C)
  (hadv:Calls Tryz.prog 43 #[.pointer (some ⟨g,0,none⟩),.int .u8 1] w (AdvTo w B g T C sk 1 ⟨p,f,k⟩ fo)) :
  Calls Tryz.prog 27 #[.pointer (some ⟨g,0,none⟩)] w (TagPost w B g T C sk (ResMap ⟨p,f,k⟩ fo (tagP sk T ⟨p,f,k⟩))):=by
 have HI:=Lib.hid hI
 have H0:=Lib.hid h0
 clear hI h0
 go_enter Tryz.func27,Tryz.ntmps27
 go_wp2_with fail
 refine hadv.mono ?_
 rintro e w1 ⟨A1,C1,ev,rfl,r1,p1,i1,f1⟩
 have AT1:=Lib.hid (H0.out.call r1 p1 i1)
 clear r1 p1 i1 hadv H0
 cases fo with
 | some fl=>
  obtain ⟨q,q2,rfl,hf2,hf3⟩:=f1
  have HF:=Lib.hid hf2
  have HF3:=Lib.hid hf3
  clear hf2 hf3
  rw [show decide ((some fl:Option Flt)=none∧k=1)=false from decide_eq_false (fun h=>by cases h.1)]
  go_wp2_with fail
  go_ret3
  exact ⟨A1,C1,_,_,_,rfl,AT1.out.rep,AT1.out.pas,AT1.out.is,rfl,rfl,q,q2,rfl,HF.out,HF3.out⟩
 | none=>
  have hev:ev=.nilIface:=f1
  subst hev
  clear f1
  by_cases hp:k=1
  ·subst hp
   rw [show decide ((none:Option Flt)=none∧(⟨p,f,1⟩:PS).part=1)=true from decide_eq_true ⟨rfl,rfl⟩]
   go_upto_region 6 with fail
   go_cut [28] from 21 to 28 (fun c wx=>c=.bool (decide (T.getD p 0=32))∧∃ C',Nx wI w C B g T sk w1 A1 C1 wx p f 1 A1 C')
   case first=>
    go_wp2_with fail
    refine (at_ens HI.out AT1.out 1 (by omega)).mono ?_
    rintro e w2 ⟨rfl,C2,x2,av2⟩
    have AV2:=Lib.hid av2
    clear av2
    have AT2:=Lib.hid x2.to_
    have SS2:=Lib.hid ((Step.refl AT1.out.rep).trans x2.st)
    clear x2
    by_cases q1:p+1≤T.length
    ·skip
     rw [decide_eq_true q1]
     have AW:=Lib.hid (AV2.out q1)
     have HQ:=Lib.hid q1
     clear q1
     go_wp2_with fail
     refine (at_mk mk_53 AT2.out).mono ?_
     rintro e w3 ⟨a3,rfl,hs3,x3⟩
     have AT3:=Lib.hid x3.to_
     have SS3:=Lib.hid (SS2.out.trans x3.st)
     clear x3
     have SP3:=Lib.hid hs3
     clear hs3
     go_wp2_with fail
     refine (at_at AT3.out 0 (by omega) (fun _=>AW.out)).mono ?_
     rintro e w4 ⟨rfl,x4⟩
     rw [Nat.add_zero]
     have AT4:=Lib.hid x4.to_
     have SP4:=Lib.hid (x4.set AT3.out.rep SP3.out)
     have SS4:=Lib.hid (SS3.out.trans x4.st)
     clear x4
     generalize hx:T.getD p 0=x
     have Hx:=Lib.hid hx
     clear hx
     go_wp2_with fail
     refine (at_get SP4.out x).mono ?_
     rintro e w5 ⟨rfl,rfl⟩
     rw [sp_dec x]
     go_wp2_with fail
     go_meet
     exact ⟨by rw [Hx.out],_,⟨AT4.out,SS4.out⟩⟩
    ·skip
     rw [decide_eq_false q1]
     have HQ:=Lib.hid q1
     clear q1
     go_wp2_with fail
     go_meet
     exact ⟨by rw [getD_end HQ.out];rfl,_,⟨AT2.out,SS2.out⟩⟩
   case rest=>
    obtain ⟨rfl,C20,x20⟩:=hcut
    have AT20:=Lib.hid x20.to_
    clear x20
    by_cases h32:T.getD p 0=32
    ·skip
     rw [decide_eq_true h32]
     have H32:=Lib.hid h32
     clear h32
     go_wp2_with fail
     refine (at_mk mk_53 AT20.out).mono ?_
     rintro e w5 ⟨a5,rfl,hs5,x5⟩
     have AT5:=Lib.hid x5.to_
     clear x5
     have SP5:=Lib.hid hs5
     clear hs5
     go_wp2_with fail
     refine (at_take HI.out AT5.out 0 (by decide) SP5.out).mono ?_
     rintro e w6 ⟨va6,c6,A6,C6,rfl,hn6,x6,t6,av6⟩
     have AV6:=Lib.hid av6
     have TK6:=Lib.hid t6
     have HN6:=Lib.hid hn6
     clear av6 t6 hn6
     have AT6:=Lib.hid x6.to_
     clear x6
     have c5:=AT6.out.rep.c5
     have f5:=AT6.out.rep.fz 5
     go_wp2_with fail
     go_ret3
     exact TagPost.non (at_part AT6.out 2 (by omega)).to_ (by unfold tagP;rw [if_pos rfl,if_pos H32.out])
    ·skip
     rw [decide_eq_false h32]
     have H32:=Lib.hid h32
     clear h32
     go_wp2_with fail
     refine (at_mk mk_57 AT20.out).mono ?_
     rintro e w7 ⟨a7,rfl,hs7,x7⟩
     have AT7:=Lib.hid x7.to_
     clear x7
     have TS7:=Lib.hid hs7
     clear hs7
     go_wp2_with fail
     refine (at_esc esc_58 AT7.out).mono ?_
     rintro e w8 ⟨a8,rfl,hb8,_,x8⟩
     have AT8:=Lib.hid x8.to_
     have TS8:=Lib.hid (x8.set AT7.out.rep TS7.out)
     clear x8
     have HB8:=Lib.hid hb8
     clear hb8
     have htok:=Lib.hid (at_tok HI.out AT8.out 1 TS8.out HB8.out (by decide))
     go_wp2_with fail
     refine htok.out.mono ?_
     clear htok
     rintro e w9 ⟨va9,c9,A9,C9,ev9,rfl,told9,hval⟩
     generalize hkv:tkV sk 1 T p=kv at *
     have Hkv:=Lib.hid hkv
     have kvK:=Lib.hid told9
     clear hkv told9
     rcases hval with ⟨hval,rfl,x9⟩ | ⟨q9,rfl,hval,hfl,x9⟩
     ·skip
      have HVAL:=Lib.hid hval
      clear hval
      have AT9:=Lib.hid x9.to_
      clear x9
      have HK:Hid (valid kv=true):=HVAL
      clear HVAL
      have HFLT:Hid (¬(kv≠[]∧T.getD (p+tkN 1 T p) 0=61)→tagP sk T ⟨p,f,1⟩=(⟨(p+tkN 1 T p),f,4⟩,.flt (fltAt T f p))):=Lib.hid (fun hh=>by
       unfold tagP
       rw [if_pos rfl,if_neg H32.out]
       dsimp only
       rw [Hkv.out,if_neg (fun h3=>hh h3.2)])
      obtain ⟨n,hn⟩:∃ n,kv.length=n:=⟨_,rfl⟩
      have HN:=Lib.hid hn
      have KT:=Lib.hid (show Told _ g _ _ (.slice _ n _) kv by have:=kvK.out;rw [hn] at this;exact this)
      rw [hn]
      clear hn
      obtain ⟨pk,hpk⟩:∃ x,(p+tkN 1 T p)=x:=⟨_,rfl⟩
      rw [hpk] at HFLT
      have AT9k:=Lib.hid (hpk▸AT9.out)
      have HPK:=Lib.hid hpk
      clear hpk
      go_upto_region 13 with fail
      go_cut [60] from 48 to 60 (fun c wx=>(∃ bb:Bool,c=.bool bb∧(bb=false↔(kv≠[]∧T.getD pk 0=61)))∧∃ C',Nx wI w C B g T sk w9 A9 C9 wx pk f 1 A9 C'∧(T.getD pk 0=61→kv≠[]→C'.r1+1≤C'.bl))
      case first=>
       by_cases hk0:kv=[]
       ·skip
        have hn0:n=0:=by have:=HN.out;rw [hk0] at this;exact this.symm
        subst hn0
        have HK0:=Lib.hid hk0
        clear hk0
        go_wp2_with fail
        go_meet
        exact ⟨⟨_,rfl,⟨fun hh=>by simp at hh,fun hh=>absurd HK0.out hh.1⟩⟩,_,⟨AT9k.out,(Step.refl AT9k.out.rep)⟩,fun _ hh=>absurd HK0.out hh⟩
       ·skip
        have hn0:¬(n:Int)=0:=by have:=HN.out;have:=List.length_pos_iff.2 hk0;omega
        have HK0:=Lib.hid hk0
        clear hk0
        go_wp2_with fail
        refine (at_ens HI.out AT9k.out 1 (by omega)).mono ?_
        rintro e w10 ⟨rfl,C10,x10,av10⟩
        have AV10:=Lib.hid av10
        clear av10
        have AT10:=Lib.hid x10.to_
        have KT10:=Lib.hid (x10.told KT.out)
        have SS10:=Lib.hid ((Step.refl AT9k.out.rep).trans x10.st)
        clear x10
        by_cases q1:pk+1≤T.length
        ·skip
         rw [decide_eq_true q1]
         have AW:=Lib.hid (AV10.out q1)
         have HQ:=Lib.hid q1
         clear q1
         go_wp2_with fail
         refine (at_at AT10.out 0 (by omega) (fun _=>AW.out)).mono ?_
         rintro e w11 ⟨rfl,x11⟩
         rw [Nat.add_zero]
         have AT11:=Lib.hid x11.to_
         have KT11:=Lib.hid (x11.told KT10.out)
         have SS11:=Lib.hid (SS10.out.trans x11.st)
         clear x11
         generalize hx:T.getD pk 0=x
         have Hx:=Lib.hid hx
         clear hx
         by_cases hx61:x=61
         ·skip
          have d1:(x.toNat:Int)=61:=by rw [hx61];rfl
          rw [d1]
          have H61:=Lib.hid hx61
          clear hx61 d1
          go_wp2_with fail
          go_meet
          exact ⟨⟨_,rfl,⟨fun _=>⟨HK0.out,Hx.out.trans H61.out⟩,fun _=>by simp;omega⟩⟩,_,⟨AT11.out,SS11.out⟩,fun _ _=>AW.out⟩
         ·skip
          have d1:¬(x.toNat:Int)=61:=fun e=>u8_ne hx61 (by show x.toNat=61;omega)
          have H61:=Lib.hid hx61
          clear hx61
          go_wp2_with fail
          go_meet
          exact ⟨⟨_,rfl,⟨fun hh=>by simp at hh;omega,fun hh=>absurd (Hx.out.symm.trans hh.2) H61.out⟩⟩,_,⟨AT11.out,SS11.out⟩,fun _ _=>AW.out⟩
        ·skip
         rw [decide_eq_false q1]
         have HQ:=Lib.hid q1
         clear q1
         have hx0:¬T.getD pk 0=61:=by rw [getD_end HQ.out];decide
         have HX0:=Lib.hid hx0
         clear hx0
         go_wp2_with fail
         go_meet
         exact ⟨⟨_,rfl,⟨fun hh=>by simp at hh,fun hh=>absurd hh.2 HX0.out⟩⟩,_,⟨AT10.out,SS10.out⟩,fun hh=>absurd hh HX0.out⟩
      case rest=>
       obtain ⟨⟨bb,rfl,hbb⟩,C12,x12,hav⟩:=hcut
       have AT12:=Lib.hid x12.to_
       have KT12:=Lib.hid (x12.told KT.out)
       clear x12
       have HBB:=Lib.hid hbb
       have HAV:=Lib.hid hav
       clear hbb hav
       have HFP:Hid (f≤p∧p≤pk):=Lib.hid ⟨AT1.out.le,by have:=HPK.out;omega⟩
       cases bb with
       | true=>
        have HPL:=Lib.hid (HFLT.out (fun hh=>by have:=HBB.out.2 hh;cases this))
        go_wp2_with fail
        refine (at_ens HI.out AT12.out 1 (by omega)).mono ?_
        rintro e w13 ⟨rfl,C13,x13,av13⟩
        have AV13:=Lib.hid av13
        clear av13
        have AT13:=Lib.hid x13.to_
        have KT13:=Lib.hid (x13.told KT12.out)
        clear x13
        by_cases q1:pk+1≤T.length
        ·skip
         rw [decide_eq_true q1]
         have AW:=Lib.hid (AV13.out q1)
         have HQ:=Lib.hid q1
         clear q1
         by_cases hn0:(0:Int)<(n:Int)
         ·skip
          go_wp2_with fail
          refine (at_new AT13.out _).mono ?_
          rintro e w14 ⟨q14,rfl,hq14,x14⟩
          have AT14:=Lib.hid x14.to_
          have KT14:=Lib.hid (x14.told KT13.out)
          clear x14
          have HQ14:=Lib.hid hq14
          clear hq14
          go_wp2_with fail
          refine (at_syn AT14.out p (show f+(p-f)=p by have:=HFP.out;omega) (by have:=HFP.out;omega) HQ14.out).mono ?_
          rintro e w15 ⟨q15,A15,rfl,hfl15,x15⟩
          have AT15:=Lib.hid x15.to_
          have KT15:=Lib.hid (x15.told KT14.out)
          clear x15
          have HFL:=Lib.hid hfl15
          clear hfl15
          go_wp2_with fail
          go_ret3
          exact TagPost.flt AT15.out HPL.out HFL.out
         ·skip
          go_wp2_with fail
          refine (at_new AT13.out _).mono ?_
          rintro e w16 ⟨q16,rfl,hq16,x16⟩
          have AT16:=Lib.hid x16.to_
          have KT16:=Lib.hid (x16.told KT13.out)
          clear x16
          have HQ16:=Lib.hid hq16
          clear hq16
          go_wp2_with fail
          refine (at_syn AT16.out p (show f+(p-f)=p by have:=HFP.out;omega) (by have:=HFP.out;omega) HQ16.out).mono ?_
          rintro e w17 ⟨q17,A17,rfl,hfl17,x17⟩
          have AT17:=Lib.hid x17.to_
          have KT17:=Lib.hid (x17.told KT16.out)
          clear x17
          have HFL:=Lib.hid hfl17
          clear hfl17
          go_wp2_with fail
          go_ret3
          exact TagPost.flt AT17.out HPL.out HFL.out
        ·skip
         rw [decide_eq_false q1]
         have HQ:=Lib.hid q1
         clear q1
         go_wp2_with fail
         refine (at_new AT13.out _).mono ?_
         rintro e w18 ⟨q18,rfl,hq18,x18⟩
         have AT18:=Lib.hid x18.to_
         have KT18:=Lib.hid (x18.told KT13.out)
         clear x18
         have HQ18:=Lib.hid hq18
         clear hq18
         go_wp2_with fail
         refine (at_syn AT18.out p (show f+(p-f)=p by have:=HFP.out;omega) (by have:=HFP.out;omega) HQ18.out).mono ?_
         rintro e w19 ⟨q19,A19,rfl,hfl19,x19⟩
         have AT19:=Lib.hid x19.to_
         have KT19:=Lib.hid (x19.told KT18.out)
         clear x19
         have HFL:=Lib.hid hfl19
         clear hfl19
         go_wp2_with fail
         go_ret3
         exact TagPost.flt AT19.out HPL.out HFL.out
       | false=>
        have HKE:=Lib.hid (HBB.out.1 rfl)
        go_wp2_with fail
        refine (at_adv AT12.out (by rw [HKE.out.2];decide) (HAV.out HKE.out.2 HKE.out.1)).mono ?_
        rintro e w20 ⟨rfl,A20,C20,x20⟩
        have AT20:=Lib.hid x20.to_
        have KT20:=Lib.hid (x20.told KT12.out)
        clear x20
        go_wp2_with fail
        refine (at_mk mk_60 AT20.out).mono ?_
        rintro e w21 ⟨a21,rfl,hs21,x21⟩
        have AT21:=Lib.hid x21.to_
        have KT21:=Lib.hid (x21.told KT20.out)
        clear x21
        have TS21:=Lib.hid hs21
        clear hs21
        go_wp2_with fail
        refine (at_esc esc_61 AT21.out).mono ?_
        rintro e w22 ⟨a22,rfl,hb22,_,x22⟩
        have AT22:=Lib.hid x22.to_
        have KT22:=Lib.hid (x22.told KT21.out)
        have TS22:=Lib.hid (x22.set AT21.out.rep TS21.out)
        clear x22
        have HB22:=Lib.hid hb22
        clear hb22
        have htok:=Lib.hid (at_tok HI.out AT22.out 2 TS22.out HB22.out (by decide))
        go_wp2_with fail
        refine htok.out.mono ?_
        clear htok
        rintro e w23 ⟨va23,c23,A23,C23,ev23,rfl,told23,hval⟩
        generalize hvv:tkV sk 2 T (pk+1)=vv at *
        have Hvv:=Lib.hid hvv
        have vvK:=Lib.hid told23
        clear hvv told23
        rcases hval with ⟨hval,rfl,x23⟩ | ⟨q23,rfl,hval,hfl,x23⟩
        ·skip
         have HVAL:=Lib.hid hval
         clear hval
         have AT23:=Lib.hid x23.to_
         have KT23:=Lib.hid (x23.told KT22.out)
         clear x23
         have HGO:=Lib.hid (tagP_val (f:=f) H32.out Hkv.out HPK.out HK.out HKE.out Hvv.out HVAL.out)
         have HNO:Hid (vv=[]→tagP sk T ⟨p,f,1⟩=(⟨((pk+1)+tkN 2 T (pk+1)),f,4⟩,.flt (fltAt T f (pk+1)))):=Lib.hid (fun hh=>by
          unfold tagP
          rw [if_pos rfl,if_neg H32.out]
          dsimp only
          rw [Hkv.out,HPK.out,if_pos ⟨HK.out,HKE.out⟩,Hvv.out,if_neg (fun h3=>h3.2 hh)])
         obtain ⟨m,hm⟩:∃ m,vv.length=m:=⟨_,rfl⟩
         have HM:=Lib.hid hm
         have VT:=Lib.hid (show Told _ g _ _ (.slice _ m _) vv by have:=vvK.out;rw [hm] at this;exact this)
         rw [hm]
         clear hm
         by_cases hv0:vv=[]
         ·skip
          have HPL:=Lib.hid (HNO.out hv0)
          have hm0:m=0:=by have:=HM.out;rw [hv0] at this;exact this.symm
          rw [hm0]
          clear hv0 hm0
          go_wp2_with fail
          refine (at_new AT23.out _).mono ?_
          rintro e w24 ⟨q24,rfl,hq24,x24⟩
          have AT24:=Lib.hid x24.to_
          have KT24:=Lib.hid (x24.told KT23.out)
          have VT24:=Lib.hid (x24.told VT.out)
          clear x24
          have HQ24:=Lib.hid hq24
          clear hq24
          go_wp2_with fail
          refine (at_syn AT24.out (pk+1) (show f+(pk+1-f)=pk+1 by have:=HFP.out;omega) (by omega) HQ24.out).mono ?_
          rintro e w25 ⟨q25,A25,rfl,hfl25,x25⟩
          have AT25:=Lib.hid x25.to_
          have KT25:=Lib.hid (x25.told KT24.out)
          have VT25:=Lib.hid (x25.told VT24.out)
          clear x25
          have HFL:=Lib.hid hfl25
          clear hfl25
          go_wp2_with fail
          go_ret3
          exact TagPost.flt AT25.out HPL.out HFL.out
         ·skip
          have hm0:¬(m:Int)=0:=by have:=HM.out;have:=List.length_pos_iff.2 hv0;omega
          have HG:=Lib.hid (HGO.out hv0)
          clear hv0
          go_wp2_with fail
          refine (at_ens HI.out AT23.out 1 (by omega)).mono ?_
          rintro e w26 ⟨rfl,C26,x26,av26⟩
          have AV26:=Lib.hid av26
          clear av26
          have AT26:=Lib.hid x26.to_
          have KT26:=Lib.hid (x26.told KT23.out)
          have VT26:=Lib.hid (x26.told VT.out)
          clear x26
          by_cases q1:((pk+1)+tkN 2 T (pk+1))+1≤T.length
          ·skip
           rw [decide_eq_true q1]
           have AW:=Lib.hid (AV26.out q1)
           have HQ:=Lib.hid q1
           clear q1
           go_wp2_with fail
           refine (at_comma HI.out AT26.out).mono ?_
           rintro e w27 ⟨p27,k27,A27,C27,hc⟩
           rcases hc with ⟨hc,rfl,x27⟩ | ⟨fl,q27,hc,rfl,x27,hfl⟩
           ·skip
            have AT27:=Lib.hid x27.to_
            have KT27:=Lib.hid (x27.told KT26.out)
            have VT27:=Lib.hid (x27.told VT26.out)
            clear x27
            have HC:=Lib.hid hc
            clear hc
            go_wp2_with fail
            go_ret3
            exact TagPost.got AT27.out (HG.out.1 (by have:=HQ.out;omega) _ HC.out) KT27.out HKE.out.1 VT27.out
           ·skip
            have AT27:=Lib.hid x27.to_
            have KT27:=Lib.hid (x27.told KT26.out)
            have VT27:=Lib.hid (x27.told VT26.out)
            clear x27
            have HC:=Lib.hid hc
            have HFL:=Lib.hid hfl
            clear hc hfl
            go_wp2_with fail
            go_ret3
            exact TagPost.flt AT27.out (HG.out.2.1 (by have:=HQ.out;omega) _ _ HC.out) HFL.out
          ·skip
           rw [decide_eq_false q1]
           have HQ:=Lib.hid q1
           clear q1
           have c5:=AT26.out.rep.c5
           have f5:=AT26.out.rep.fz 5
           go_wp2_with fail
           go_ret3
           exact TagPost.got (at_part AT26.out 2 (by omega)).to_ (HG.out.2.2 (by have:=HQ.out;omega)) ((at_part AT26.out 2 (by omega)).told KT26.out) HKE.out.1 ((at_part AT26.out 2 (by omega)).told VT26.out)
        ·have HVAL:=Lib.hid hval
         have HFL:=Lib.hid hfl
         clear hval hfl
         have AT23:=Lib.hid x23.to_
         have KT23:=Lib.hid (x23.told KT22.out)
         clear x23
         go_wp2_with fail
         go_ret3
         exact TagPost.flt AT23.out (by unfold tagP;rw [if_pos rfl,if_neg H32.out];dsimp only;rw [Hkv.out,HPK.out,if_pos ⟨HK.out,HKE.out⟩,Hvv.out,if_neg (fun h3=>by rw [HVAL.out] at h3;exact absurd h3.1 (by decide))];rfl) HFL.out
     ·have HVAL:=Lib.hid hval
      have HFL:=Lib.hid hfl
      clear hval hfl
      have AT9:=Lib.hid x9.to_
      clear x9
      go_wp2_with fail
      go_ret3
      exact TagPost.flt AT9.out (by unfold tagP;rw [if_pos rfl,if_neg H32.out];dsimp only;rw [Hkv.out,if_neg (fun h3=>by rw [HVAL.out] at h3;exact absurd h3.1 (by decide))];rfl) HFL.out
  ·rw [show decide ((none:Option Flt)=none∧k=1)=false from decide_eq_false (fun h=>hp h.2)]
   have e1:tagP sk T ⟨p,f,k⟩=(⟨p,f,k⟩,.non):=by unfold tagP;rw [if_neg hp]
   have HP:=Lib.hid e1
   clear hp e1
   go_wp2_with fail
   go_ret3
   exact TagPost.non AT1.out HP.out
end Go.Proofs.YtkfggfjdplnkpaaGreatDoor
end
