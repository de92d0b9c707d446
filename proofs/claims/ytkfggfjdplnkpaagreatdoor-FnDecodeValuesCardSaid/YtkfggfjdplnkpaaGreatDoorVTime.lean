/- A part of the proof that the law FnDecodeValues returns true; its conditions are those of the last part. -/
import Derived.Test.YtkfggfjdplnkpaaGreatDoorVTag
import Derived.Test.YtkfggfjdplnkpaaGreatDoorVField
set_option maxRecDepth 100000
set_option linter.unusedVariables false
set_option linter.unusedSimpArgs false
section
namespace Go.Proofs.YtkfggfjdplnkpaaGreatDoor
open Go.RowKit
def TimV (w:World) (g:Nat) (A:Ab) (C:Cn) (v:Value) (r:List UInt8):Prop:=r=[]∧v=.slice none 0 0∨r≠[]∧Told w g A C v r
def ansT (r:List UInt8):Res (List UInt8):=if r=[] then .non else .got r
section
variable {wI w0 w w':World} {C0 C C':Cn} {B g:Nat} {T:List UInt8} {sk:Bool} {p f k p' f' k':Nat} {A A':Ab} {k0:PS} {r:PS × Res (List UInt8)}
theorem TimV.nx {v:Value} {l:List UInt8} (h:TimV w g A C v l) (x:Nx wI w0 C0 B g T sk w A C w' p' f' k' A' C'):TimV w' g A' C' v l:=by
 rcases h with ⟨h1,h2⟩ | ⟨h1,h2⟩
 ·exact .inl ⟨h1,h2⟩
 ·exact .inr ⟨h1,x.told h2⟩
theorem NamePost.flt {fl:Flt} {ev:Value} (h:At wI w0 C0 B g T sk w p f k A C) (hr:r=(⟨p,f,k⟩,.flt fl)) (hx:Flted w B fl ev):NamePost w0 B g T C0 sk (ResMap k0 none r) (.returned (.tuple #[.slice none 0 0,ev])) w:=by
 subst hr
 exact ⟨A,C,_,ev,rfl,h.rep,h.pas,h.is,rfl,hx⟩
theorem NamePost.non (h:At wI w0 C0 B g T sk w p f k A C) (hr:r=(⟨p,f,k⟩,.non)):NamePost w0 B g T C0 sk (ResMap k0 none r) (.returned (.tuple #[.slice none 0 0,.nilIface])) w:=by
 subst hr
 exact ⟨A,C,_,_,rfl,h.rep,h.pas,h.is,rfl,rfl⟩
theorem NamePost.ans {v:Value} {l:List UInt8} (h:At wI w0 C0 B g T sk w p f k A C) (hr:r=(⟨p,f,k⟩,ansT l)) (hv:TimV w g A C v l):NamePost w0 B g T C0 sk (ResMap k0 none r) (.returned (.tuple #[v,.nilIface])) w:=by
 subst hr
 rcases hv with ⟨h1,h2⟩ | ⟨h1,h2⟩
 ·subst h1;subst h2
  exact ⟨A,C,_,_,rfl,h.rep,h.pas,h.is,rfl,rfl⟩
 ·refine ⟨A,C,_,_,rfl,h.rep,h.pas,h.is,?_⟩
  show ResV w B g A C v .nilIface (ansT l)
  unfold ansT
  rw [if_neg h1]
  exact ⟨h2,h1,rfl⟩
end
theorem eol_end {T:List UInt8} {p:Nat} (h:¬p<T.length):eol T p=(true,p,0):=by unfold eol;rw [if_neg (by omega)]
theorem timeP_end {T:List UInt8} {p f p1:Nat} {r:List UInt8} (hr:run (inSet 10) (T.drop p)=r) (hp:past 10 T p=p1) (h:¬p1<T.length):timeP T ⟨p,f,3⟩=(⟨p1,f,5⟩,ansT r):=by
 unfold timeP
 rw [if_pos rfl]
 dsimp only
 rw [hr,hp,if_neg h]
 rfl
theorem timeP_bad {T:List UInt8} {p f p1:Nat} {r:List UInt8} {y:UInt8} (hr:run (inSet 10) (T.drop p)=r) (hp:past 10 T p=p1) (h:p1<T.length) (hy:T.getD p1 0=y) (hw:inSet 1 y.toNat=false) :
  timeP T ⟨p,f,3⟩=(⟨past 12 T p1,f,if r=[] then 5 else 4⟩,.flt (fltAt T f p)):=by
 unfold timeP
 rw [if_pos rfl]
 dsimp only
 rw [hr,hp,if_pos h,hy,if_neg (by rw [show whiteB y.toNat=false from hw];decide)]
theorem timeP_go {T:List UInt8} {p f p1:Nat} {r:List UInt8} {y:UInt8} (hr:run (inSet 10) (T.drop p)=r) (hp:past 10 T p=p1) (h:p1<T.length) (hy:T.getD p1 0=y) (hw:inSet 1 y.toNat=true) :
  ((eol T (past 0 T p1)).1=true→timeP T ⟨p,f,3⟩=(⟨(eol T (past 0 T p1)).2.1,f,5⟩,ansT r))∧
  ((eol T (past 0 T p1)).1=false→timeP T ⟨p,f,3⟩=(⟨past 12 T (past 0 T p1),f,if r=[] then 5 else 4⟩,.flt (fltAt T f (past 0 T p1)))):=by
 unfold timeP
 rw [if_pos rfl]
 dsimp only
 rw [hr,hp,if_pos h,hy,if_pos (show whiteB y.toNat=true from hw)]
 refine ⟨fun he=>?_,fun he=>?_⟩
 ·rw [if_pos he];rfl
 ·rw [if_neg (by rw [he];decide)]
theorem fpart_t (r:List UInt8):fpart (if r=[] then 5 else 3)=if r=[] then 5 else 4:=by
 split <;> rfl
set_option maxHeartbeats 8000000 in
theorem time_of {wI w:World} {B g p f k p0 f0 k0:Nat} {T:List UInt8} {A0:Ab} {C:Cn} {sk sk0:Bool} {fo:Option Flt} (hI:Init wI B) (h0:At wI w C B g T sk0 w p0 f0 k0 A0 C)
  (hadv:Calls Tryz.prog 43 #[.pointer (some ⟨g,0,none⟩),.int .u8 3] w (AdvTo w B g T C sk 3 ⟨p,f,k⟩ fo)) :
  Calls Tryz.prog 30 #[.pointer (some ⟨g,0,none⟩)] w (NamePost w B g T C sk (ResMap ⟨p,f,k⟩ fo (timeP T ⟨p,f,k⟩))):=by
 have HI:=Lib.hid hI
 have H0:=Lib.hid h0
 clear hI h0
 go_enter Tryz.func30,Tryz.ntmps30
 go_wp2_with fail
 refine hadv.mono ?_
 rintro e w1 ⟨A1,C1,ev,rfl,r1,p1,i1,f1⟩
 have AT1:=Lib.hid (H0.out.call r1 p1 i1)
 clear r1 p1 i1 hadv H0
 cases fo with
 | some fl=>
  obtain ⟨q,q2,rfl,hf2,hf3⟩:=f1
  have HF:=Lib.hid hf2
  have HF3:=Lib.hid hf3
  clear hf2 hf3
  rw [show decide ((some fl:Option Flt)=none∧k=3)=false from decide_eq_false (fun h=>by cases h.1)]
  go_wp2_with fail
  go_ret2
  exact ⟨A1,C1,_,_,rfl,AT1.out.rep,AT1.out.pas,AT1.out.is,rfl,q,q2,rfl,HF.out,HF3.out⟩
 | none=>
  have hev:ev=.nilIface:=f1
  subst hev
  clear f1
  by_cases hp:k=3
  ·subst hp
   rw [show decide ((none:Option Flt)=none∧(⟨p,f,3⟩:PS).part=3)=true from decide_eq_true ⟨rfl,rfl⟩]
   have c2:=AT1.out.rep.c2
   have c3:=AT1.out.rep.c3
   have hbl:=AT1.out.rep.bl_le
   have hr1:=AT1.out.rep.le1
   have hr0:=AT1.out.rep.le01
   have hat:=AT1.out.rep.at_
   have e0:=AT1.out.at_
   have e5:=AT1.out.from_
   have b1:(C1.r1:Int)≤5000:=by omega
   have b2:(C1.r0:Int)≤5000:=by omega
   have b3:(0:Int)≤C1.r0:=by omega
   have b4:(0:Int)≤C1.r1:=by omega
   have HD:Hid ((C1.r1:Int)-(C1.r0:Int)=((p-f:Nat):Int)):=Lib.hid (by omega)
   clear hbl hr1 hr0 hat e0 e5
   have ATN2:=Lib.hid (fun n=>(AT1.out.drewN n).to_)
   go_wp2_with fail
   go_quiet (fail)
   rw [HD.out]
   clear b1 b2 b3 b4 c2 c3
   go_wp2_with fail
   refine (at_mk mk_70 (Lib.hid (ATN2.out _)).out).mono ?_
   rintro e w3 ⟨a3,rfl,hs3,x3⟩
   have AT3:=Lib.hid x3.to_
   clear x3
   have SN3:=Lib.hid hs3
   clear hs3
   go_wp2_with fail
   refine (at_take HI.out AT3.out 10 (by decide) SN3.out).mono ?_
   rintro e w4 ⟨va4,c4,A4,C4,rfl,hn4,x4,t4,av4⟩
   have AV4:=Lib.hid av4
   have TK4:=Lib.hid t4
   have HN4:=Lib.hid hn4
   clear av4 t4 hn4
   have AT4:=Lib.hid x4.to_
   clear x4
   obtain ⟨r,hr⟩:∃ r,run (inSet 10) (T.drop p)=r:=⟨_,rfl⟩
   rw [hr] at TK4 ⊢
   have HR:=Lib.hid hr
   clear hr
   obtain ⟨p1,hp1⟩:∃ x,past 10 T p=x:=⟨_,rfl⟩
   have AT4p:=Lib.hid (hp1▸AT4.out)
   have HP1:=Lib.hid hp1
   have HPP:Hid (f≤p∧p≤p1):=Lib.hid ⟨AT1.out.le,by rw [←hp1];exact past_ge 10 T p⟩
   clear hp1
   go_upto_if 33 with fail
   go_cut [7] from 28 to 36 (fun v wx=>∃ A',TimV wx g A' C4 v r∧Nx wI w C B g T sk w4 A4 C4 wx p1 f (if r=[] then 5 else 3) A' C4)
   case first=>
    by_cases hr0:r=[]
    ·skip
     have hl:r.length=0:=by rw [hr0];rfl
     rw [hl]
     have c5:=AT4p.out.rep.c5
     have f5:=AT4p.out.rep.fz 5
     have HR0:=Lib.hid hr0
     clear hr0 hl
     go_wp2_with fail
     go_meet
     exact ⟨_,.inl ⟨HR0.out,rfl⟩,by rw [if_pos HR0.out];exact at_part AT4p.out 5 (by omega)⟩
    ·skip
     have hl:¬(r.length:Int)=0:=by have:=List.length_pos_iff.2 hr0;omega
     have HR0:=Lib.hid hr0
     clear hr0
     go_wp2_with fail
     go_meet
     exact ⟨_,.inr ⟨HR0.out,TK4.out⟩,by rw [if_neg HR0.out];exact AT4p.out.self⟩
   case rest=>
    obtain ⟨A5,tv,x5⟩:=hcut
    have TV:=Lib.hid tv
    clear tv
    have AT5:=Lib.hid x5.to_
    clear x5
    obtain ⟨kk,hkk⟩:∃ x,(if r=[] then 5 else 3)=x:=⟨_,rfl⟩
    have AT5k:=Lib.hid (hkk▸AT5.out)
    have HKK:=Lib.hid (show fpart kk=if r=[] then 5 else 4 by rw [←hkk];exact fpart_t r)
    clear hkk
    go_wp2_with fail
    refine (at_ens HI.out AT5k.out 1 (by omega)).mono ?_
    rintro e w6 ⟨rfl,C6,x6,av6⟩
    have AV6:=Lib.hid av6
    clear av6
    have TV6:=Lib.hid (TV.out.nx x6)
    have AT6:=Lib.hid x6.to_
    clear x6
    by_cases q1:p1+1≤T.length
    ·skip
     rw [decide_eq_true q1]
     have AW:=Lib.hid (AV6.out q1)
     have HQ:=Lib.hid q1
     clear q1
     go_wp2_with fail
     refine (at_mk mk_68 AT6.out).mono ?_
     rintro e w7 ⟨a7,rfl,hs7,x7⟩
     have TV7:=Lib.hid (TV6.out.nx x7)
     have AT7:=Lib.hid x7.to_
     clear x7
     have SW7:=Lib.hid hs7
     clear hs7
     go_wp2_with fail
     refine (at_at AT7.out 0 (by omega) (fun _=>AW.out)).mono ?_
     rintro e w8 ⟨rfl,x8⟩
     rw [Nat.add_zero]
     have TV8:=Lib.hid (TV7.out.nx x8)
     have AT8:=Lib.hid x8.to_
     have SW8:=Lib.hid (x8.set AT7.out.rep SW7.out)
     clear x8
     generalize hy:T.getD p1 0=y
     have Hy:=Lib.hid hy
     clear hy
     go_wp2_with fail
     refine (at_get SW8.out y).mono ?_
     rintro e wz ⟨rfl,rfl⟩
     cases hw:inSet 1 y.toNat with
     | true=>
      have HG:=Lib.hid (timeP_go (f:=f) HR.out HP1.out (by have:=HQ.out;omega) Hy.out hw)
      clear hw
      go_wp2_with fail
      refine (at_mk mk_53 AT8.out).mono ?_
      rintro e w9 ⟨a9,rfl,hs9,x9⟩
      have TV9:=Lib.hid (TV8.out.nx x9)
      have AT9:=Lib.hid x9.to_
      clear x9
      have SP9:=Lib.hid hs9
      clear hs9
      go_wp2_with fail
      refine (at_take HI.out AT9.out 0 (by decide) SP9.out).mono ?_
      rintro e w10 ⟨va10,c10,A10,C10,rfl,hn10,x10,t10,av10⟩
      have AV10:=Lib.hid av10
      have TK10:=Lib.hid t10
      have HN10:=Lib.hid hn10
      clear av10 t10 hn10
      have TV10:=Lib.hid (TV9.out.nx x10)
      have AT10:=Lib.hid x10.to_
      clear x10
      obtain ⟨p2,hp2⟩:∃ x,past 0 T p1=x:=⟨_,rfl⟩
      have AT10p:=Lib.hid (hp2▸AT10.out)
      have HP2:Hid (f≤p2):=Lib.hid (by rw [←hp2];have:=past_ge 0 T p1;have:=HPP.out;omega)
      rw [hp2] at HG
      clear hp2
      go_wp2_with fail
      refine (at_ens HI.out AT10p.out 1 (by omega)).mono ?_
      rintro e w11 ⟨rfl,C11,x11,av11⟩
      have AV11:=Lib.hid av11
      clear av11
      have TV11:=Lib.hid (TV10.out.nx x11)
      have AT11:=Lib.hid x11.to_
      clear x11
      by_cases q2:p2+1≤T.length
      ·skip
       rw [decide_eq_true q2]
       have AW:=Lib.hid (AV11.out q2)
       have HQ:=Lib.hid q2
       clear q2
       go_wp2_with fail
       refine (at_eol HI.out AT11.out).mono ?_
       rintro e w12 ⟨rfl,A12,C12,x12⟩
       have TV12:=Lib.hid (TV11.out.nx x12)
       have AT12:=Lib.hid x12.to_
       clear x12
       cases he:(eol T p2).1 with
       | true=>
        have HE:=Lib.hid (HG.out.1 he)
        clear he
        have c5:=AT12.out.rep.c5
        have f5:=AT12.out.rep.fz 5
        go_wp2_with fail
        go_ret2
        exact NamePost.ans (at_part AT12.out 5 (by omega)).to_ HE.out (TV12.out.nx (at_part AT12.out 5 (by omega)))
       | false=>
        have HPL:=Lib.hid (HG.out.2 he)
        have HP0:=Lib.hid (congrArg Prod.fst (eol_false T p2 he))
        clear he
        have AT12p:Hid (At wI w C B g T sk w12 p2 f kk A12 C12):=Lib.hid (by have:=AT12.out;rw [HP0.out] at this;exact this)
        have c2:=AT12p.out.rep.c2
        have c3:=AT12p.out.rep.c3
        have hbl:=AT12p.out.rep.bl_le
        have hr1:=AT12p.out.rep.le1
        have hr0:=AT12p.out.rep.le01
        have hat:=AT12p.out.rep.at_
        have e0:=AT12p.out.at_
        have e5:=AT12p.out.from_
        have b1:(C12.r1:Int)≤5000:=by omega
        have b2:(C12.r0:Int)≤5000:=by omega
        have b3:(0:Int)≤C12.r0:=by omega
        have b4:(0:Int)≤C12.r1:=by omega
        have HD:Hid ((C12.r1:Int)-(C12.r0:Int)=((p2-f:Nat):Int)):=Lib.hid (by omega)
        clear hbl hr1 hr0 hat e0 e5
        have ATN13:=Lib.hid (fun n=>(AT12p.out.drewN n).to_)
        go_wp2_with fail
        go_quiet (fail)
        rw [HD.out]
        clear b1 b2 b3 b4 c2 c3
        go_wp2_with fail
        refine (at_mk mk_71 (Lib.hid (ATN13.out _)).out).mono ?_
        rintro e w14 ⟨a14,rfl,hs14,x14⟩
        have AT14:=Lib.hid x14.to_
        clear x14
        have SL14:=Lib.hid hs14
        clear hs14
        go_wp2_with fail
        refine (at_take HI.out AT14.out 12 (by decide) SL14.out).mono ?_
        rintro e w15 ⟨va15,c15,A15,C15,rfl,hn15,x15,t15,av15⟩
        have AV15:=Lib.hid av15
        have TK15:=Lib.hid t15
        have HN15:=Lib.hid hn15
        clear av15 t15 hn15
        have AT15:=Lib.hid x15.to_
        clear x15
        go_wp2_with fail
        refine (at_new AT15.out _).mono ?_
        rintro e w16 ⟨q16,rfl,hq16,x16⟩
        have AT16:=Lib.hid x16.to_
        clear x16
        have HQ16:=Lib.hid hq16
        clear hq16
        go_wp2_with fail
        refine (at_syn AT16.out p2 (show f+(p2-f)=p2 by have:=HP2.out;omega) (past_ge 12 T p2) HQ16.out).mono ?_
        rintro e w17 ⟨q17,A17,rfl,hfl17,x17⟩
        have AT17:=Lib.hid x17.to_
        clear x17
        have HFL:=Lib.hid hfl17
        clear hfl17
        go_wp2_with fail
        go_ret2
        exact NamePost.flt AT17.out (by rw [HPL.out,HKK.out]) HFL.out
      ·skip
       rw [decide_eq_false q2]
       have HQ:=Lib.hid q2
       clear q2
       have c5:=AT11.out.rep.c5
       have f5:=AT11.out.rep.fz 5
       go_wp2_with fail
       go_ret2
       exact NamePost.ans (at_part AT11.out 5 (by omega)).to_ ((HG.out.1 (by rw [eol_end (by have:=HQ.out;omega)])).trans (by rw [eol_end (by have:=HQ.out;omega)])) (TV11.out.nx (at_part AT11.out 5 (by omega)))
     | false=>
      have HPL:=Lib.hid (timeP_bad (f:=f) HR.out HP1.out (by have:=HQ.out;omega) Hy.out hw)
      clear hw
      go_wp2_with fail
      refine (at_mk mk_71 AT8.out).mono ?_
      rintro e w18 ⟨a18,rfl,hs18,x18⟩
      have AT18:=Lib.hid x18.to_
      clear x18
      have SL18:=Lib.hid hs18
      clear hs18
      go_wp2_with fail
      refine (at_take HI.out AT18.out 12 (by decide) SL18.out).mono ?_
      rintro e w19 ⟨va19,c19,A19,C19,rfl,hn19,x19,t19,av19⟩
      have AV19:=Lib.hid av19
      have TK19:=Lib.hid t19
      have HN19:=Lib.hid hn19
      clear av19 t19 hn19
      have AT19:=Lib.hid x19.to_
      clear x19
      go_wp2_with fail
      refine (at_new AT19.out _).mono ?_
      rintro e w20 ⟨q20,rfl,hq20,x20⟩
      have AT20:=Lib.hid x20.to_
      clear x20
      have HQ20:=Lib.hid hq20
      clear hq20
      go_wp2_with fail
      refine (at_syn AT20.out p (show f+(p-f)=p by have:=HPP.out;omega) (by have:=past_ge 12 T p1;have:=HPP.out;omega) HQ20.out).mono ?_
      rintro e w21 ⟨q21,A21,rfl,hfl21,x21⟩
      have AT21:=Lib.hid x21.to_
      clear x21
      have HFL:=Lib.hid hfl21
      clear hfl21
      go_wp2_with fail
      go_ret2
      exact NamePost.flt AT21.out (by rw [HPL.out,HKK.out]) HFL.out
    ·skip
     rw [decide_eq_false q1]
     have HQ:=Lib.hid q1
     clear q1
     have c5:=AT6.out.rep.c5
     have f5:=AT6.out.rep.fz 5
     go_wp2_with fail
     go_ret2
     exact NamePost.ans (at_part AT6.out 5 (by omega)).to_ (timeP_end HR.out HP1.out (by have:=HQ.out;omega)) (TV6.out.nx (at_part AT6.out 5 (by omega)))
  ·rw [show decide ((none:Option Flt)=none∧k=3)=false from decide_eq_false (fun h=>hp h.2)]
   have e1:timeP T ⟨p,f,k⟩=(⟨p,f,k⟩,.non):=by unfold timeP;rw [if_neg hp]
   have HP:=Lib.hid e1
   clear hp e1
   go_wp2_with fail
   go_ret2
   exact NamePost.non AT1.out HP.out
end Go.Proofs.YtkfggfjdplnkpaaGreatDoor
end
section
namespace Go.Proofs.YtkfggfjdplnkpaaGreatDoor
open Go.RowKit
set_option maxHeartbeats 4000000 in
theorem adv_stay {wI w0 w:World} {C0 C:Cn} {B g:Nat} {T:List UInt8} {sk:Bool} {p f k:Nat} {A:Ab} (j:Nat) (h:At wI w0 C0 B g T sk w p f k A C) (hj:j≤k) :
  Calls Tryz.prog 43 #[.pointer (some ⟨g,0,none⟩),.int .u8 (j:Int)] w (AdvTo w B g T C sk j ⟨p,f,k⟩ none):=by
 have HH:=Lib.hid h
 have c5:=h.rep.c5
 rw [h.part] at c5
 clear h
 by_cases hk:k=j
 ·subst hk
  go_enter Tryz.func43,Tryz.ntmps43
  go_wp2_with fail
  go_ret2
  exact ⟨A,C,_,by rw [decide_eq_true ⟨rfl,rfl⟩];rfl,HH.out.rep,Pas.refl g w C,HH.out.is,rfl⟩
 ·have d1:¬(k:Int)=(j:Int):=by omega
  have d2:(j:Int)<(k:Int):=by omega
  have d3:(j:Int)≤(k:Int):=by omega
  go_enter Tryz.func43,Tryz.ntmps43
  go_wp2_with fail
  go_ret2
  exact ⟨A,C,_,by rw [decide_eq_false (fun h=>hk h.2)];rfl,HH.out.rep,Pas.refl g w C,HH.out.is,rfl⟩
end Go.Proofs.YtkfggfjdplnkpaaGreatDoor
end
section
namespace Go.Proofs.YtkfggfjdplnkpaaGreatDoor
open Go.RowKit
section
variable {wI w0 w:World} {C0 C:Cn} {B g:Nat} {T:List UInt8} {sk:Bool} {p f k:Nat} {A:Ab}
theorem name_at (hI:Init wI B) (h:At wI w0 C0 B g T sk w p f k A C):Calls Tryz.prog 25 #[.pointer (some ⟨g,0,none⟩)] w (NamePost w B g T C sk (nameP sk T ⟨p,f,k⟩)):=
 name_of (fun w' A' C' r pa=>⟨hI.envAt (h.low.trans (LowEq.of_pas h.rep pa)),hI.tabAt (h.low.trans (LowEq.of_pas h.rep pa))⟩) (adv_stay 0 h (Nat.zero_le _))
theorem At.own (h:At wI w0 C0 B g T sk w p f k A C):At wI w C B g T sk w p f k A C:=⟨h.rep,Pas.refl g w C,h.is,h.low⟩
theorem tag_at (hI:Init wI B) (h:At wI w0 C0 B g T sk w p f k A C) (hk:1≤k):Calls Tryz.prog 27 #[.pointer (some ⟨g,0,none⟩)] w (TagPost w B g T C sk (tagP sk T ⟨p,f,k⟩)):=
 tag_of hI h.own (adv_stay 1 h hk)
theorem field_at (hI:Init wI B) (h:At wI w0 C0 B g T sk w p f k A C) (hk:2≤k):Calls Tryz.prog 29 #[.pointer (some ⟨g,0,none⟩)] w (FldPost w B g T C sk (fieldP sk T ⟨p,f,k⟩)):=
 field_of hI h.own (adv_stay 2 h hk)
theorem time_at (hI:Init wI B) (h:At wI w0 C0 B g T sk w p f k A C) (hk:3≤k):Calls Tryz.prog 30 #[.pointer (some ⟨g,0,none⟩)] w (NamePost w B g T C sk (timeP T ⟨p,f,k⟩)):=
 time_of hI h.own (adv_stay 3 h hk)
end
theorem tkV_len (sk:Bool) (k:Nat) (T:List UInt8) (p:Nat):(tkV sk k T p).length≤tkN k T p:=by
 unfold tkV
 split
 ·unfold tkR;rw [List.length_take];omega
 ·exact (tok_le _ _ _).2
theorem commaP_ge (T:List UInt8) (s:PS):s.at_≤(commaP T s).1.at_:=by
 unfold commaP
 split
 ·split
  ·exact Nat.le_succ _
  ·exact Nat.le_succ _
 ·exact Nat.le_refl _
theorem commaP_none {T:List UInt8} {s s2:PS} (h:commaP T s=(s2,none)):s2.part=s.part:=by
 unfold commaP at h
 split at h
 ·split at h
  ·injection h with h _;rw [←h]
  ·injection h with _ h;cases h
 ·injection h with h _;rw [h]
theorem tagP_got_lt {sk:Bool} {T:List UInt8} {p f k:Nat} {s2:PS} {x:List UInt8 × List UInt8} (h:tagP sk T ⟨p,f,k⟩=(s2,.got x)):p<s2.at_∧1≤s2.part:=by
 unfold tagP at h
 dsimp only at h
 split at h
 ·next hk1=>
  split at h
  ·cases h
  ·split at h
   ·next hk=>
    have h1:=List.length_pos_iff.2 hk.2.1
    have h2:=tkV_len sk 1 T p
    split at h
    ·split at h
     ·have hc:=commaP_ge T ⟨p+tkN 1 T p+1+tkN 2 T (p+tkN 1 T p+1),f,k⟩
      split at h
      ·cases h
      ·next e=>
       rw [e] at hc
       have hp:=commaP_none e
       injection h with h3 _
       subst h3
       dsimp only at hc hp
       omega
     ·injection h with h3 _
      subst h3
      show p<p+tkN 1 T p+1+tkN 2 T (p+tkN 1 T p+1)∧1≤2
      omega
    ·cases h
   ·cases h
 ·cases h
theorem eol_ge (T:List UInt8) (p:Nat):p≤(eol T p).2.1:=by
 unfold eol
 repeat' split
 all_goals (try dsimp only;omega)
theorem valP_ge (sk:Bool) (T:List UInt8) (p:Nat):p≤(valP sk T p).1:=by
 have h:=past_ge 9 T p
 unfold valP
 dsimp only
 repeat' split
 all_goals (first | exact h | (try dsimp only;omega) | omega)
theorem behindP_ge {T:List UInt8} {q q2 part:Nat} (h:behindP T q=some (q2,part)):q≤q2:=by
 have h1:=past_ge 0 T q
 have h2:=eol_ge T (past 0 T q)
 unfold behindP at h
 dsimp only at h
 split at h
 ·split at h
  ·injection h with h;injection h with h3 _;omega
  ·split at h
   ·injection h with h;injection h with h3 _;omega
   ·cases h
 ·injection h with h;injection h with h3 _;omega
theorem fieldP_got_lt {sk:Bool} {T:List UInt8} {p f k:Nat} {s2:PS} {x:List UInt8 × Nat × List UInt8} (h:fieldP sk T ⟨p,f,k⟩=(s2,.got x)):p<s2.at_:=by
 unfold fieldP at h
 dsimp only at h
 split at h
 ·split at h
  ·next hk=>
   have h1:=List.length_pos_iff.2 hk.2
   have h2:=tkV_len sk 3 T p
   split at h
   ·have hv:=valP_ge sk T (p+tkN 3 T p+1)
    split at h
    ·cases h
    ·next e=>
     rw [e] at hv
     split at h
     ·cases h
     ·next e2=>
      have hb:=behindP_ge e2
      injection h with h3 _
      subst h3
      dsimp only at hv hb ⊢
      omega
   ·cases h
  ·cases h
 ·cases h
theorem fieldP_got_part {sk:Bool} {T:List UInt8} {p f k:Nat} {s2:PS} {x:List UInt8 × Nat × List UInt8} (h:fieldP sk T ⟨p,f,k⟩=(s2,.got x)):2≤s2.part:=by
 unfold fieldP at h
 dsimp only at h
 split at h
 ·split at h
  ·split at h
   ·split at h
    ·cases h
    ·split at h
     ·cases h
     ·next q part e2=>
      injection h with h3 _
      subst h3
      show 2≤part
      unfold behindP at e2
      dsimp only at e2
      split at e2
      ·split at e2
       ·injection e2 with e2;injection e2 with _ e3;omega
       ·split at e2
        ·injection e2 with e2; injection e2 with _ e3; split at e3 <;> omega
        ·cases e2
      ·injection e2 with e2;injection e2 with _ e3;omega
   ·cases h
  ·cases h
 ·cases h
theorem nameP_up {sk:Bool} {T:List UInt8} {p f:Nat} {s2:PS} {x:Res (List UInt8)} (h:nameP sk T ⟨p,f,0⟩=(s2,x)) (hx:x.opt=none):0<s2.part:=by
 unfold nameP at h
 rw [if_pos rfl] at h
 dsimp only at h
 split at h
 ·split at h
  ·injection h with _ h;subst h;cases hx
  ·injection h with h _;subst h;exact Nat.one_pos
 ·injection h with _ h;subst h;cases hx
theorem tagP_up {sk:Bool} {T:List UInt8} {p f k:Nat} {s2:PS} (hk:1≤k) (h:tagP sk T ⟨p,f,k⟩=(s2,.non)):1<s2.part:=by
 unfold tagP at h
 dsimp only at h
 repeat' split at h
 all_goals first
  | (injection h with h h2;subst h;show 1<2;omega)
  | (injection h with h h2;subst h;show 1<k;omega)
  | (injection h with h h2;cases h2)
theorem fieldP_up {sk:Bool} {T:List UInt8} {p f k:Nat} {s2:PS} (hk:2≤k) (h:fieldP sk T ⟨p,f,k⟩=(s2,.non)):2<s2.part:=by
 unfold fieldP at h
 dsimp only at h
 repeat' split at h
 all_goals first
  | (injection h with h h2;subst h;show 2<k;omega)
  | (injection h with h h2;cases h2)
theorem timeP_up {T:List UInt8} {p f:Nat} {s2:PS} {x:Res (List UInt8)} (h:timeP T ⟨p,f,3⟩=(s2,x)) (hx:x.opt=none):3<s2.part:=by
 unfold timeP at h
 rw [if_pos rfl] at h
 dsimp only at h
 split at h
 ·split at h
  ·split at h
   ·injection h with h _;subst h;show 3<5;omega
   ·injection h with _ h;subst h;cases hx
  ·injection h with _ h;subst h;cases hx
 ·injection h with h _;subst h;show 3<5;omega
def ConsPost (w:World) (B g:Nat) (T:List UInt8) (C:Cn) (k:Nat) (r:PS × Option Flt) (e:Ending) (w':World):Prop:=
 ∃ A' C' ev,e=.returned ev∧Rep w' B g T A' C'∧Pas g w C w' C'∧Is T A' r.1 true∧FltIs w' B ev r.2∧(r.2=none→k<5→k<r.1.part)
theorem ConsPost.of {wI w0 w:World} {C0 C:Cn} {B g:Nat} {T:List UInt8} {p f k:Nat} {A:Ab} {r:PS × Option Flt} {ev:Value} {fo:Option Flt} (h:At wI w0 C0 B g T true w p f k A C) {j:Nat} (hr:r=(⟨p,f,k⟩,fo)) (hf:FltIs w B ev fo) (hup:fo=none→j<5→j<k):ConsPost w0 B g T C0 j r (.returned ev) w:=by
 subst hr
 exact ⟨A,C,ev,rfl,h.rep,h.pas,h.is,hf,hup⟩
theorem eql54 (a:Option Addr) (n c:Nat) (w:World):(binOp .eql 54 (.slice a n c) (.slice none 0 0)).run Tryz.prog w=.ok (.bool a.isNone) w:=by
 have h1:∀ d,(Op.equalIn (d+1) 54 (.slice a n c) (.slice none 0 0)).run Tryz.prog w=.ok a.isNone w:=fun d=>by
  cases a <;> simp [Op.equalIn,run_underlying Tryz.underlying54]
 have h2:(Op.equal 54 (.slice a n c) (.slice none 0 0)).run Tryz.prog w=.ok a.isNone w:=h1 9999
 simp [binOp,h2]
attribute [local go_sem] eql54
theorem told_some {w:World} {g:Nat} {A:Ab} {C:Cn} {v:Value} {l:List UInt8} (h:Told w g A C v l) (hl:l≠[]):∃ b o n c,v=.slice (some ⟨b,o,none⟩) n c:=by
 obtain ⟨b,o,cap,hv,_⟩:=h.cells hl
 exact ⟨b,o,_,cap,hv⟩
set_option maxHeartbeats 4000000 in
theorem con_spec {wI w:World} {C:Cn} {B g:Nat} {T:List UInt8} {p f k:Nat} {A:Ab} (hI:Init wI B) (h:At wI w C B g T true w p f k A C) :
  Calls Tryz.prog 101 #[.pointer (some ⟨g,0,none⟩)] w (ConsPost w B g T C k (conP T ⟨p,f,k⟩)):=by
 have HI:=Lib.hid hI
 have AT0:=Lib.hid h
 have c5:=h.rep.c5
 rw [h.part] at c5
 have hk5:k≤5:=by have:=h.rep.prt;rw [h.part] at this;exact this
 have hpT:=h.inT
 clear hI h
 by_cases k0:k=0
 ·subst k0
  clear hk5 hpT
  go_enter Tryz.func101,Tryz.ntmps101
  go_wp2_with fail
  refine (name_at HI.out AT0.out).mono ?_
  rintro e w1 ⟨A1,C1,v1,ev,rfl,r1,p1,i1,f1⟩
  have hc:conP T ⟨p,f,0⟩=((nameP true T ⟨p,f,0⟩).1,(nameP true T ⟨p,f,0⟩).2.opt):=by unfold conP;rw [if_pos rfl]
  have HC:=Lib.hid hc
  clear hc c5
  have HUP:Hid (∀ s2 x,nameP true T ⟨p,f,0⟩=(s2,x)→x.opt=none→0<s2.part):=Lib.hid (fun s2 x h hx=>nameP_up h hx)
  revert i1 f1
  generalize nameP true T ⟨p,f,0⟩=r at *
  intro i1 f1
  obtain ⟨⟨p2,f2,k2⟩,r⟩:=r
  have AT1:=Lib.hid (AT0.out.call r1 p1 i1)
  clear r1 p1 i1
  cases r with
  | flt fl=>
   obtain ⟨rfl,q,q2,rfl,hf2,hf3⟩:=f1
   have HF:=Lib.hid hf2
   have HF3:=Lib.hid hf3
   clear hf2 hf3
   go_wp2_with fail
   go_ret
   exact ConsPost.of AT1.out HC.out ⟨q,q2,rfl,HF.out,HF3.out⟩ (fun h=>by cases h)
  | non=>
   obtain ⟨rfl,rfl⟩:=f1
   go_wp2_with fail
   go_ret
   exact ConsPost.of AT1.out HC.out rfl (fun _ _=>HUP.out _ _ rfl rfl)
  | got bs=>
   obtain ⟨_,_,rfl⟩:=f1
   go_wp2_with fail
   go_ret
   exact ConsPost.of AT1.out HC.out rfl (fun _ _=>HUP.out _ _ rfl rfl)
 by_cases k1:k=1
 ·subst k1
  clear hk5 k0
  go_enter Tryz.func101,Tryz.ntmps101
  go_wp2_with fail
  go_loopg [] (T.length+2) (fun mq wr=>∃ p2 f2 k2 A2 C2,T.length+2≤mq+p2∧1≤k2∧tagsP T mq ⟨p2,f2,k2⟩=tagsP T (T.length+2) ⟨p,f,1⟩∧At wI w C B g T true wr p2 f2 k2 A2 C2)
  case atStart=>exact ⟨p,f,1,A,C,by omega,Nat.le_refl _,rfl,AT0.out⟩
  case round=>
   obtain ⟨p2,f2,k2,A2,C2,h1,h2,h3,at2⟩:=hrel
   have AT2:=Lib.hid at2
   have hin:=at2.inT
   cases gk with
   | zero=>omega
   | succ m=>
   have H1:=Lib.hid h1
   have HK2:=Lib.hid h2
   have H3:=Lib.hid h3
   have hcon:=Lib.hid (tag_at HI.out at2 h2)
   clear at2 h1 h2 h3 hin
   go_wp2_with fail
   refine hcon.out.mono ?_
   rintro e w3 ⟨A3,C3,kv,vv,ev,rfl,r3,p3,i3,f3⟩
   clear hcon
   have HT:Hid (tagsP T (m+1) ⟨p2,f2,k2⟩=match tagP true T ⟨p2,f2,k2⟩ with
    | (s',.flt f)=>(s',some f)
    | (s',.non)=>(s',none)
    | (s',.got _)=>tagsP T m s'):=Lib.hid rfl
   have HG:Hid (∀ s2 x,tagP true T ⟨p2,f2,k2⟩=(s2,.got x)→p2<s2.at_∧1≤s2.part):=Lib.hid (fun s2 x hh=>tagP_got_lt hh)
   have HUP:=Lib.hid (fun s2 (h:tagP true T ⟨p2,f2,k2⟩=(s2,.non))=>tagP_up HK2.out h)
   revert i3 f3 HT HG HUP
   generalize tagP true T ⟨p2,f2,k2⟩=r
   intro i3 f3 HT HG HUP
   obtain ⟨⟨p4,f4,k4⟩,r⟩:=r
   have AT3:=Lib.hid (AT2.out.call r3 p3 i3)
   clear r3 p3 i3
   have HC:Hid (conP T ⟨p,f,1⟩=tagsP T (m+1) ⟨p2,f2,k2⟩):=Lib.hid (by rw [H3.out];rfl)
   cases r with
   | flt fl=>
    obtain ⟨rfl,rfl,q,q2,rfl,hf2,hf3⟩:=f3
    have HF:=Lib.hid hf2
    have HF3:=Lib.hid hf3
    clear hf2 hf3
    go_wp2_with fail
    go_ret
    exact ConsPost.of AT3.out (HC.out.trans HT.out) ⟨q,q2,rfl,HF.out,HF3.out⟩ (fun h=>by cases h)
   | non=>
    obtain ⟨rfl,rfl,rfl⟩:=f3
    go_wp2_with fail
    go_ret
    exact ConsPost.of AT3.out (HC.out.trans HT.out) rfl (fun _ _=>HUP.out _ rfl)
   | got ab=>
    obtain ⟨a,b⟩:=ab
    obtain ⟨t1,t2,t3,rfl⟩:=f3
    obtain ⟨kb,ko,kn,kc,rfl⟩:=told_some t1 t2
    have HL:=Lib.hid (HG.out _ _ rfl)
    clear t1 t2 t3
    go_wp2_with fail
    go_roundg m
    case measure=>omega
    case rel=>
     refine ⟨p4,f4,k4,A3,C3,?_,HL.out.2,?_,AT3.out⟩
     ·have h1:=H1.out
      have h2:p2<p4:=HL.out.1
      omega
     ·exact HT.out.symm.trans H3.out
 by_cases k2:k=2
 ·subst k2
  clear hk5 k0 k1
  go_enter Tryz.func101,Tryz.ntmps101
  go_wp2_with fail
  go_loopg [] (T.length+2) (fun mq wr=>∃ p2 f2 k2 A2 C2,T.length+2≤mq+p2∧2≤k2∧fieldsP T mq ⟨p2,f2,k2⟩=fieldsP T (T.length+2) ⟨p,f,2⟩∧At wI w C B g T true wr p2 f2 k2 A2 C2)
  case atStart=>exact ⟨p,f,2,A,C,by omega,Nat.le_refl _,rfl,AT0.out⟩
  case round=>
   obtain ⟨p2,f2,k2,A2,C2,h1,h2,h3,at2⟩:=hrel
   have AT2:=Lib.hid at2
   have hin:=at2.inT
   cases gk with
   | zero=>omega
   | succ m=>
   have H1:=Lib.hid h1
   have HK2:=Lib.hid h2
   have H3:=Lib.hid h3
   have hcon:=Lib.hid (field_at HI.out at2 h2)
   clear at2 h1 h2 h3 hin
   go_wp2_with fail
   refine hcon.out.mono ?_
   rintro e w3 ⟨A3,C3,kv,kd,vv,ev,rfl,r3,p3,i3,f3⟩
   clear hcon
   have HT:Hid (fieldsP T (m+1) ⟨p2,f2,k2⟩=match fieldP true T ⟨p2,f2,k2⟩ with
    | (s',.flt f)=>(s',some f)
    | (s',.non)=>(s',none)
    | (s',.got _)=>fieldsP T m s'):=Lib.hid rfl
   have HG:Hid (∀ s2 x,fieldP true T ⟨p2,f2,k2⟩=(s2,.got x)→p2<s2.at_∧2≤s2.part):=Lib.hid (fun s2 x hh=>⟨fieldP_got_lt hh,fieldP_got_part hh⟩)
   have HUP:=Lib.hid (fun s2 (h:fieldP true T ⟨p2,f2,k2⟩=(s2,.non))=>fieldP_up HK2.out h)
   revert i3 f3 HT HG HUP
   generalize fieldP true T ⟨p2,f2,k2⟩=r
   intro i3 f3 HT HG HUP
   obtain ⟨⟨p4,f4,k4⟩,r⟩:=r
   have AT3:=Lib.hid (AT2.out.call r3 p3 i3)
   clear r3 p3 i3
   have HC:Hid (conP T ⟨p,f,2⟩=fieldsP T (m+1) ⟨p2,f2,k2⟩):=Lib.hid (by rw [H3.out];rfl)
   cases r with
   | flt fl=>
    obtain ⟨rfl,rfl,rfl,q,q2,rfl,hf2,hf3⟩:=f3
    have HF:=Lib.hid hf2
    have HF3:=Lib.hid hf3
    clear hf2 hf3
    go_wp2_with fail
    go_ret
    exact ConsPost.of AT3.out (HC.out.trans HT.out) ⟨q,q2,rfl,HF.out,HF3.out⟩ (fun h=>by cases h)
   | non=>
    obtain ⟨rfl,rfl,rfl,rfl⟩:=f3
    go_wp2_with fail
    go_ret
    exact ConsPost.of AT3.out (HC.out.trans HT.out) rfl (fun _ _=>HUP.out _ rfl)
   | got ab=>
    obtain ⟨a,n,b⟩:=ab
    obtain ⟨t1,t2,rfl,t3,rfl⟩:=f3
    obtain ⟨kb,ko,kn,kc,rfl⟩:=told_some t1 t2
    have HL:=Lib.hid (HG.out _ _ rfl)
    clear t1 t2 t3
    go_wp2_with fail
    go_roundg m
    case measure=>omega
    case rel=>
     refine ⟨p4,f4,k4,A3,C3,?_,HL.out.2,?_,AT3.out⟩
     ·have h1:=H1.out
      have h2:p2<p4:=HL.out.1
      omega
     ·exact HT.out.symm.trans H3.out
 by_cases k3:k=3
 ·subst k3
  clear hk5 hpT k0 k1 k2
  go_enter Tryz.func101,Tryz.ntmps101
  go_wp2_with fail
  refine (time_at HI.out AT0.out (Nat.le_refl _)).mono ?_
  rintro e w1 ⟨A1,C1,v1,ev,rfl,r1,p1,i1,f1⟩
  have hc:conP T ⟨p,f,3⟩=((timeP T ⟨p,f,3⟩).1,(timeP T ⟨p,f,3⟩).2.opt):=by unfold conP;rfl
  have HC:=Lib.hid hc
  clear hc c5
  have HUP:Hid (∀ s2 x,timeP T ⟨p,f,3⟩=(s2,x)→x.opt=none→3<s2.part):=Lib.hid (fun s2 x h hx=>timeP_up h hx)
  revert i1 f1
  generalize timeP T ⟨p,f,3⟩=r at *
  intro i1 f1
  obtain ⟨⟨p2,f2,k2⟩,r⟩:=r
  have AT1:=Lib.hid (AT0.out.call r1 p1 i1)
  clear r1 p1 i1
  cases r with
  | flt fl=>
   obtain ⟨rfl,q,q2,rfl,hf2,hf3⟩:=f1
   have HF:=Lib.hid hf2
   have HF3:=Lib.hid hf3
   clear hf2 hf3
   go_wp2_with fail
   go_ret
   exact ConsPost.of AT1.out HC.out ⟨q,q2,rfl,HF.out,HF3.out⟩ (fun h=>by cases h)
  | non=>
   obtain ⟨rfl,rfl⟩:=f1
   go_wp2_with fail
   go_ret
   exact ConsPost.of AT1.out HC.out rfl (fun _ _=>HUP.out _ _ rfl rfl)
  | got bs=>
   obtain ⟨_,_,rfl⟩:=f1
   go_wp2_with fail
   go_ret
   exact ConsPost.of AT1.out HC.out rfl (fun _ _=>HUP.out _ _ rfl rfl)
 by_cases k4:k=4
 ·subst k4
  clear hk5 hpT k0 k1 k2 k3
  go_enter Tryz.func101,Tryz.ntmps101
  go_wp2_with fail
  refine (consumeLine_spec AT0.out.rep (AT0.out.env HI.out) AT0.out.lineLe).mono ?_
  rintro e w1 ⟨rfl,C1,r1,p1⟩
  have R1:=Lib.hid r1
  have P1:=Lib.hid p1
  clear r1 p1 c5
  go_wp2_with fail
  go_ret
  have e1:A.at_=p:=AT0.out.at_
  rw [e1] at R1
  refine ⟨_,C1,_,rfl,R1.out,P1.out,?_,rfl,fun _ _=>(by show 4<5;omega)⟩
  show Is T _ ⟨lineNext T p,lineNext T p,5⟩ true
  refine ⟨rfl,rfl,rfl,AT0.out.is.skip,?_,by show 0+lineNext T p≤lineNext T p;omega⟩
  show A.line+lineOne T p=1+lfs (T.take (lineNext T p))
  rw [lfs_line]
  have:=AT0.out.is.line
  rw [e1] at this
  omega
 ·have k5:k=5:=by omega
  subst k5
  clear hk5 hpT k0 k1 k2 k3 k4
  go_enter Tryz.func101,Tryz.ntmps101
  go_wp2_with fail
  go_ret
  exact ConsPost.of AT0.out rfl rfl (fun _ h=>absurd h (by omega))
end Go.Proofs.YtkfggfjdplnkpaaGreatDoor
end
section
namespace Go.Proofs.YtkfggfjdplnkpaaGreatDoor
open Go.RowKit
theorem skip_step {w:World} {B g:Nat} {T:List UInt8} {A:Ab} {C:Cn} (b:Bool) (h:Rep w B g T A C) :
  Step w B g T A C (w.setCell ⟨g,6,none⟩ (.bool b)) { A with skip:=b } C:=
 h.setg 6 _ (by simp [dcells]) ⟨rfl,rfl,rfl,rfl,rfl,rfl,rfl,rfl,rfl⟩ h.le01 h.le1 h.at_ h.bigl h.prt h.escL
section
variable {wI w0 w:World} {C0 C:Cn} {B g:Nat} {T:List UInt8} {sk:Bool} {p f k:Nat} {A:Ab}
theorem at_skip (h:At wI w0 C0 B g T sk w p f k A C) (b:Bool):At wI w0 C0 B g T b (w.setCell ⟨g,6,none⟩ (.bool b)) p f k { A with skip:=b } C:=
 h.call (skip_step b h.rep).rep (skip_step b h.rep).pas ⟨h.is.at_,h.is.from_,h.is.part,rfl,h.is.line,h.is.esc⟩
end
theorem Flted.step {w w':World} {B g:Nat} {T:List UInt8} {A:Ab} {C C':Cn} {f:Flt} {ev:Value} (h:Flted w B f ev) (hr:Rep w B g T A C) (hp:Pas g w C w' C'):Flted w' B f ev:=by
 obtain ⟨q,q2,h1,h2,h3⟩:=h
 exact ⟨q,q2,h1,(hp.only.block q (blk_lt h2) (hr.not_own h2 (by decide))).trans h2,h3.step hr hp⟩
set_option maxHeartbeats 4000000 in
theorem adv_spec {wI w:World} {C:Cn} {B g:Nat} {T:List UInt8} {p f k:Nat} {A:Ab} (j:Nat) (hj:j≤5) (hI:Init wI B) (h:At wI w C B g T false w p f k A C) :
  Calls Tryz.prog 43 #[.pointer (some ⟨g,0,none⟩),.int .u8 (j:Int)] w (AdvTo w B g T C false j (advP T j ⟨p,f,k⟩).1 (advP T j ⟨p,f,k⟩).2):=by
 by_cases hjk:j≤k
 ·have e:advP T j ⟨p,f,k⟩=(⟨p,f,k⟩,none):=by unfold advP advN;rw [if_neg (by show ¬k<j;omega)]
  rw [e]
  exact adv_stay j h hjk
 ·have HI:=Lib.hid hI
  have AT0:=Lib.hid h
  have c5:=h.rep.c5
  rw [h.part] at c5
  have c6:=h.rep.c6
  have f6:=h.rep.fz 6
  have d1:¬(k:Int)=(j:Int):=by omega
  have d2:¬(j:Int)<(k:Int):=by omega
  have d3:(k:Int)≤(j:Int):=by omega
  have HJ:=Lib.hid hj
  clear hI h hjk hj
  go_enter Tryz.func43,Tryz.ntmps43
  go_wp2_with fail
  have AT1:=Lib.hid (at_skip AT0.out true)
  clear c5 c6 f6
  revert AT1
  generalize w.setCell ⟨g,6,none⟩ (.bool true)=w1
  intro AT1
  go_loopg [] 6 (fun mq wr=>∃ p2 f2 k2 A2 C2,6≤mq+k2∧advN T j mq ⟨p2,f2,k2⟩=advN T j 6 ⟨p,f,k⟩∧At wI w C B g T true wr p2 f2 k2 A2 C2)
  case atStart=>exact ⟨p,f,k,_,C,by omega,rfl,AT1.out⟩
  case round=>
   obtain ⟨p2,f2,k2,A2,C2,h1,h3,at2⟩:=hrel
   have AT2:=Lib.hid at2
   have c5:=at2.rep.c5
   rw [at2.part] at c5
   have hk5:k2≤5:=by have:=at2.rep.prt;rw [at2.part] at this;exact this
   cases gk with
   | zero=>omega
   | succ m=>
   have H1:=Lib.hid h1
   have H3:=Lib.hid h3
   by_cases hq:k2<j
   ·have d4:(k2:Int)<(j:Int):=by omega
    have HQ:=Lib.hid hq
    have hcon:=Lib.hid (con_spec HI.out at2.own)
    clear at2 h1 h3 hk5 hq
    go_wp2_with fail
    refine hcon.out.mono ?_
    rintro e w3 ⟨A3,C3,ev,rfl,r3,p3,i3,f3,u3⟩
    clear hcon
    have HT:Hid (advN T j (m+1) ⟨p2,f2,k2⟩=match conP T ⟨p2,f2,k2⟩ with
     | (s',some f)=>(s',some f)
     | (s',none)=>advN T j m s'):=Lib.hid (by
      conv=>lhs;unfold advN
      rw [if_pos (by exact HQ.out)]
      rfl)
    revert i3 f3 HT u3
    generalize conP T ⟨p2,f2,k2⟩=r
    intro i3 f3 u3 HT
    obtain ⟨⟨p4,f4,k4⟩,fo⟩:=r
    have AT3:=Lib.hid (AT2.out.call r3 p3 i3)
    clear r3 p3 i3
    cases fo with
    | some fl=>
     have f3':Flted w3 B fl ev:=f3
     have HF:=Lib.hid f3'
     obtain ⟨q,q2,rfl,hf2,hf3⟩:=f3'
     have c6:=AT3.out.rep.c6
     have f6:=AT3.out.rep.fz 6
     clear hf2 hf3 u3 c5 d4 f3
     go_wp2_with fail
     go_ret2
     have AT4:=at_skip AT3.out false
     have e:advP T j ⟨p,f,k⟩=(⟨p4,f4,k4⟩,some fl):=by rw [show advP T j ⟨p,f,k⟩=advN T j 6 ⟨p,f,k⟩ from rfl,←H3.out,HT.out]
     rw [e]
     exact ⟨_,C3,_,by rw [decide_eq_false (fun h=>by cases h.1)];rfl,AT4.rep,AT4.pas,AT4.is,HF.out.step AT3.out.rep (skip_step false AT3.out.rep).pas⟩
    | none=>
     have hev:ev=.nilIface:=f3
     subst hev
     have HU:=Lib.hid (u3 rfl (by have:=HQ.out;have:=HJ.out;omega))
     clear f3 u3 c5 d4
     go_wp2_with fail
     go_roundg m
     case measure=>omega
     case rel=>
      refine ⟨p4,f4,k4,A3,C3,?_,?_,AT3.out⟩
      ·have h1:=H1.out
       have h2:k2<k4:=HU.out
       omega
      ·rw [←H3.out,HT.out]
   ·have d4:¬(k2:Int)<(j:Int):=by omega
    have d5:(j:Int)≤(k2:Int):=by omega
    have HQ:=Lib.hid hq
    have c6:=AT2.out.rep.c6
    have f6:=AT2.out.rep.fz 6
    clear at2 h1 h3 hk5 hq
    go_wp2_with fail
    go_ret2
    have AT4:=at_skip AT2.out false
    have e:advP T j ⟨p,f,k⟩=(⟨p2,f2,k2⟩,none):=by
     rw [show advP T j ⟨p,f,k⟩=advN T j 6 ⟨p,f,k⟩ from rfl,←H3.out]
     unfold advN
     rw [if_neg (by exact HQ.out)]
    rw [e]
    refine ⟨_,C2,_,?_,AT4.rep,AT4.pas,AT4.is,rfl⟩
    have hb:((k2:Int)==(j:Int))=decide ((none:Option Flt)=none∧k2=j):=by
     by_cases hh:k2=j
     ·rw [decide_eq_true ⟨rfl,hh⟩,hh];exact beq_self_eq_true _
     ·rw [decide_eq_false (fun h=>hh h.2)]
      exact beq_eq_false_iff_ne.2 (fun h=>hh (by omega))
    rw [←hb]
    rfl
section
variable {wI w0 w:World} {C0 C:Cn} {B g:Nat} {T:List UInt8} {p f k:Nat} {A:Ab}
def tagF (T:List UInt8) (s:PS):PS × Res (List UInt8 × List UInt8):=ResMap (advP T 1 s).1 (advP T 1 s).2 (tagP false T (advP T 1 s).1)
def fieldF (T:List UInt8) (s:PS):PS × Res (List UInt8 × Nat × List UInt8):=ResMap (advP T 2 s).1 (advP T 2 s).2 (fieldP false T (advP T 2 s).1)
def timeF (T:List UInt8) (s:PS):PS × Res (List UInt8):=ResMap (advP T 3 s).1 (advP T 3 s).2 (timeP T (advP T 3 s).1)
theorem tag_full (hI:Init wI B) (h:At wI w0 C0 B g T false w p f k A C):Calls Tryz.prog 27 #[.pointer (some ⟨g,0,none⟩)] w (TagPost w B g T C false (tagF T ⟨p,f,k⟩)):=
 tag_of (p:=(advP T 1 ⟨p,f,k⟩).1.at_) (f:=(advP T 1 ⟨p,f,k⟩).1.from_) (k:=(advP T 1 ⟨p,f,k⟩).1.part) hI h.own (adv_spec 1 (by omega) hI h.own)
theorem field_full (hI:Init wI B) (h:At wI w0 C0 B g T false w p f k A C):Calls Tryz.prog 29 #[.pointer (some ⟨g,0,none⟩)] w (FldPost w B g T C false (fieldF T ⟨p,f,k⟩)):=
 field_of (p:=(advP T 2 ⟨p,f,k⟩).1.at_) (f:=(advP T 2 ⟨p,f,k⟩).1.from_) (k:=(advP T 2 ⟨p,f,k⟩).1.part) hI h.own (adv_spec 2 (by omega) hI h.own)
theorem time_full (hI:Init wI B) (h:At wI w0 C0 B g T false w p f k A C):Calls Tryz.prog 30 #[.pointer (some ⟨g,0,none⟩)] w (NamePost w B g T C false (timeF T ⟨p,f,k⟩)):=
 time_of (p:=(advP T 3 ⟨p,f,k⟩).1.at_) (f:=(advP T 3 ⟨p,f,k⟩).1.from_) (k:=(advP T 3 ⟨p,f,k⟩).1.part) hI h.own (adv_spec 3 (by omega) hI h.own)
theorem at_skipE (hI:Init wI B) (h:At wI w0 C0 B g T false w p f k A C) :
  Calls Tryz.prog 44 #[.pointer (some ⟨g,0,none⟩)] w fun e w'=>e=.returned (.tuple #[])∧∃ A' C',At wI w0 C0 B g T false w' (skipN T (T.length+1) p 0).1 f k A' C':=
 (skipEmpty_spec h.rep (h.env hI) h.lineLe).mono fun e w' ⟨he,C',st⟩=>by
  refine ⟨he,_,C',h.call st.rep st.pas ⟨?_,h.is.from_,h.is.part,h.is.skip,?_,?_⟩⟩
  ·show (skipN T (T.length+1) A.at_ A.line).1=(skipN T (T.length+1) p 0).1
   rw [h.at_]
   exact skipN_fst T _ _ _ _
  ·show (skipN T (T.length+1) A.at_ A.line).2=1+lfs (T.take (skipN T (T.length+1) A.at_ A.line).1)
   have:=lfs_skipN T (T.length+1) A.at_ A.line
   have:=h.is.line
   omega
  ·show A.esc.length+A.from_≤(skipN T (T.length+1) A.at_ A.line).1
   have:=h.is.esc
   have:=(skipN_le T (T.length+1) A.at_ A.line (by rw [h.at_];exact h.inT)).1
   omega
def NextPost (w:World) (B g:Nat) (T:List UInt8) (C:Cn) (r:PS × Bool) (e:Ending) (w':World):Prop:=
 ∃ A' C',e=.returned (.bool r.2)∧Rep w' B g T A' C'∧Pas g w C w' C'∧Is T A' r.1 false
theorem next_end {r:PS × Bool} (h:At wI w0 C0 B g T false w p f k A C) (hr:r=(⟨p,f,k⟩,decide (p+1≤T.length))):NextPost w0 B g T C0 r (.returned (.bool (decide (p+1≤T.length)))) w:=by
 subst hr
 exact ⟨A,C,rfl,h.rep,h.pas,h.is⟩
set_option maxHeartbeats 4000000 in
theorem next_spec (hI:Init wI B) (h:At wI w C B g T false w p f k A C):Calls Tryz.prog 24 #[.pointer (some ⟨g,0,none⟩)] w (NextPost w B g T C (nextP T ⟨p,f,k⟩)):=by
 have HI:=Lib.hid hI
 have AT0:=Lib.hid h
 have hcon:=Lib.hid (adv_spec 5 (by omega) hI h)
 clear hI h
 have HN:Hid (nextP T ⟨p,f,k⟩=match advP T 5 ⟨p,f,k⟩ with
   | (s',some _)=>(⟨(skipN T (T.length+1) (advP T 5 s').1.at_ 0).1,(advP T 5 s').1.from_,0⟩,decide ((skipN T (T.length+1) (advP T 5 s').1.at_ 0).1<T.length))
   | (s',none)=>(⟨(skipN T (T.length+1) s'.at_ 0).1,s'.from_,0⟩,decide ((skipN T (T.length+1) s'.at_ 0).1<T.length))):=Lib.hid (by
  unfold nextP
  rcases advP T 5 ⟨p,f,k⟩ with ⟨s',fo⟩
  cases fo <;> rfl)
 go_enter Tryz.func24,Tryz.ntmps24
 go_wp2_with fail
 refine hcon.out.mono ?_
 clear hcon
 rintro e w1 ⟨A1,C1,ev,rfl,r1,p1,i1,f1⟩
 revert i1 f1 HN
 generalize advP T 5 ⟨p,f,k⟩=r
 intro HN i1 f1
 obtain ⟨⟨p2,f2,k2⟩,fo⟩:=r
 dsimp only
 have AT1:=Lib.hid (AT0.out.call r1 p1 i1)
 clear r1 p1 i1
 cases fo with
 | some fl=>
  have f1':Flted w1 B fl ev:=f1
  obtain ⟨q,q2,rfl,hf2,hf3⟩:=f1'
  clear hf2 hf3 f1
  rw [show decide ((some fl:Option Flt)=none∧k2=5)=false from decide_eq_false (fun h=>by cases h.1)]
  have hcon:=Lib.hid (adv_spec 5 (by omega) HI.out AT1.out.own)
  go_wp2_with fail
  refine hcon.out.mono ?_
  clear hcon
  rintro e w3 ⟨A3,C3,ev3,rfl,r3,p3,i3,f3⟩
  have AT3:=Lib.hid (AT1.out.call (p':=(advP T 5 ⟨p2,f2,k2⟩).1.at_) (f':=(advP T 5 ⟨p2,f2,k2⟩).1.from_) (k':=(advP T 5 ⟨p2,f2,k2⟩).1.part) r3 p3 i3)
  clear r3 p3 i3 f3
  revert AT3 HN
  generalize advP T 5 ⟨p2,f2,k2⟩=r
  intro HN AT3
  obtain ⟨⟨p4,f4,k4⟩,fo2⟩:=r
  dsimp only
  dsimp only at AT3
  go_wp2_with fail
  refine (at_skipE HI.out AT3.out).mono ?_
  rintro e w5 ⟨rfl,A5,C5,at5⟩
  have AT5:=Lib.hid at5
  clear at5
  have c5:=AT5.out.rep.c5
  have f5:=AT5.out.rep.fz 5
  go_wp2_with fail
  refine (at_ens HI.out (at_part AT5.out 0 (by omega)).to_ 1 (by omega)).mono ?_
  rintro e w6 ⟨rfl,C6,x6,_⟩
  have AT6:=Lib.hid x6.to_
  clear x6
  go_wp2_with fail
  go_ret
  exact next_end AT6.out HN.out
 | none=>
  have hev:ev=.nilIface:=f1
  subst hev
  clear f1
  generalize decide ((none:Option Flt)=none∧k2=5)=bb
  go_wp2_with fail
  refine (at_skipE HI.out AT1.out).mono ?_
  rintro e w5 ⟨rfl,A5,C5,at5⟩
  have AT5:=Lib.hid at5
  clear at5
  have c5:=AT5.out.rep.c5
  have f5:=AT5.out.rep.fz 5
  go_wp2_with fail
  refine (at_ens HI.out (at_part AT5.out 0 (by omega)).to_ 1 (by omega)).mono ?_
  rintro e w6 ⟨rfl,C6,x6,_⟩
  have AT6:=Lib.hid x6.to_
  clear x6
  go_wp2_with fail
  go_ret
  exact next_end AT6.out HN.out
theorem err_spec (h:At wI w0 C0 B g T false w p f k A C):Calls Tryz.prog 13 #[.pointer (some ⟨g,0,none⟩)] w fun e w'=>e=.returned .nilIface∧w'=w:=by
 have c9:=h.rep.c9
 clear h
 go_enter Tryz.func13,Tryz.ntmps13
 go_wp2_with fail
 go_ret
 exact ⟨rfl,rfl⟩
end
end Go.Proofs.YtkfggfjdplnkpaaGreatDoor
end
