/- A part of the proof that the law FnDecodeValues returns true; its conditions are those of the last part. -/
import Derived.Test.YtkfggfjdplnkpaaGreatDoorVEsc0
import Derived.Test.YtkfggfjdplnkpaaGreatDoorVEol
import Derived.Test.YtkfggfjdplnkpaaGreatDoorVWord
import Derived.Deep.CutBlock
import Derived.OwnWalk
import Derived.StillTailTactics
set_option maxRecDepth 100000
set_option linter.unusedVariables false
set_option linter.unusedSimpArgs false
section
namespace Go.Proofs.YtkfggfjdplnkpaaGreatDoor
open Go.RowKit Go.Proofs.YtkfggfjdplnkpaaGreatDoorW.PrintLast
def TabAt (w:World) (tb:Nat) (R:Nat→Nat):Prop:=
 ∃ cs t,w.heap[tb]?=some (.cells cs t (0,0))∧(t≠83∧t≠5∧t≠105)∧∀ c,c<256→cs[256+c]?=some (.int .u8 (R c:Int))∧R c<256
theorem TabAt.step {w w':World} {B g a:Nat} {T:List UInt8} {A:Ab} {C C':Cn} {R:Nat→Nat} (h:TabAt w a R) (hr:Rep w B g T A C) (hs:Pas g w C w' C'):TabAt w' a R:=by
 obtain ⟨cs,t,h1,h2,h3⟩:=h
 exact ⟨cs,t,(hs.only.block a (blk_lt h1) (hr.not_own h1 h2)).trans h1,h2,h3⟩
theorem TabAt.cell {w:World} {a:Nat} {R:Nat→Nat} (h:TabAt w a R) (c:Nat) (hc:c<256):w.cell? ⟨a,256+c,none⟩=some (.int .u8 (R c:Int)):=by
 obtain ⟨cs,t,h1,h2,h3⟩:=h
 rw [blk_cell h1,(h3 c hc).1]
theorem Rep.cell_at {w:World} {B g b cap i:Nat} {T:List UInt8} {A:Ab} {C:Cn} (h:Rep w B g T A C) (hv:C.bv=.slice (some ⟨b,0,none⟩) C.bl cap) (hi:C.r1+i<C.bl) :
  ∃ c,T[A.at_+i]?=some c∧w.cell? ⟨b,C.r1+i,none⟩=some (.int .u8 (c.toNat:Int)):=by
 have e1:=h.at_
 have e2:=h.le01
 have e3:=h.inT
 rcases h.form with ⟨hv0,h0⟩ | ⟨b',cap',hbv,_,_,_,hcell⟩
 ·omega
 rw [hv] at hbv
 injection hbv with q1 q2 q3
 injection q1 with q1
 injection q1 with q1
 subst q1
 have hlt:A.at_+i<T.length:=by omega
 refine ⟨T[A.at_+i],List.getElem?_eq_getElem hlt,?_⟩
 rw [hcell (C.r1+i) hi,h.byte (C.r1+i) (by omega) hi,show A.from_+(C.r1+i-C.r0)=A.at_+i by omega,List.getElem?_eq_getElem hlt]
 rfl
theorem info5:∃ i,Tryz.prog.info? 5=some i∧i.zero=some (.int .u8 0)∧i.size=1∧i.bytes=1:=by
 obtain ⟨i,hi⟩:∃ i,Tryz.prog.info? 5=some i:=Option.isSome_iff_exists.1 (by kernel_rfl)
 have h1:(Tryz.prog.info? 5).map (·.zero)=some (some (.int .u8 0)):=by kernel_rfl
 have h2:(Tryz.prog.info? 5).map (·.size)=some 1:=by kernel_rfl
 have h3:(Tryz.prog.info? 5).map (·.bytes)=some 1:=by kernel_rfl
 rw [hi] at h1 h2 h3
 exact ⟨i,hi,by simpa using h1,by simpa using h2,by simpa using h3⟩
theorem own_slice {w:World} {base:Nat} {e:TypeId} {size n:Nat} {v:Value} {xs:List Value} (h:w.ownsRow base e size v n xs):∃ a c,v=.slice a n c:=by
 rcases h.2 with ⟨hv,h0⟩ | ⟨b,cp,cur,hv,_⟩
 ·exact ⟨none,0,by rw [hv,h0]⟩
 ·exact ⟨_,_,hv⟩
theorem Rep.seg {w:World} {B g b cap su lo k:Nat} {T:List UInt8} {A:Ab} {C:Cn} (h:Rep w B g T A C) (hv:C.bv=.slice (some ⟨b,0,none⟩) C.bl cap) (h0:A.from_≤su) (hlo:C.r0+(su-A.from_)=lo) (h1:lo+k≤C.bl) :
  (((T.drop su).take k).map bcell).length=k*1∧∀ j u,(((T.drop su).take k).map bcell)[j]?=some u→w.cell? ((⟨b,lo,none⟩:Addr).add j)=some u:=by
 have e1:=h.at_
 have e2:=h.le01
 have e3:=h.inT
 have hl:((T.drop su).take k).length=k:=by rw [List.length_take,List.length_drop];omega
 refine ⟨by rw [List.length_map,hl];omega,fun j u hj=>?_⟩
 have hjk:j<k:=by
  have:=(List.getElem?_eq_some_iff.1 hj).1
  rw [List.length_map,hl] at this
  exact this
 rcases h.form with ⟨hv0,hz⟩ | ⟨b',cap',hbv,_,_,_,hcell⟩
 ·omega
 rw [hv] at hbv
 injection hbv with q1 q2 q3
 injection q1 with q1
 injection q1 with q1
 subst q1
 rw [show (⟨b,lo,none⟩:Addr).add j=⟨b,lo+j,none⟩ by simp [Addr.add],hcell (lo+j) (by omega),h.byte (lo+j) (by omega) (by omega),←hj,List.getElem?_map,List.getElem?_take,if_pos hjk,List.getElem?_drop,
  show A.from_+(lo+j-C.r0)=su+j by omega]
def EscAt (w:World) (B g:Nat) (T:List UInt8) (A:Ab) (C:Cn) (S:Nat→Bool) (R:Nat→Nat) (v10:Value) (wr:World) (q:Nat):Prop:=
 ∃ su E C1,v10=.int .i64 ((su-A.from_:Nat):Int)∧TokAt S R T A.skip A.at_ su q E∧Step w B g T A C wr { A with at_:=q,esc:=A.esc++E } C1
def EscOut (w:World) (B g:Nat) (T:List UInt8) (A:Ab) (C:Cn) (S:Nat→Bool) (R:Nat→Nat) (v10:Value) (wr:World):Prop:=
 ∃ q,EscAt w B g T A C S R v10 wr q∧tok S R (T.drop q)=(0,[])∧q≤T.length
def EscIn (w:World) (B g:Nat) (T:List UInt8) (A:Ab) (C:Cn) (S:Nat→Bool) (R:Nat→Nat) (q:Nat) (v10 v12 v13:Value) (wr:World) (i:Nat):Prop:=
 ∃ su E C1 b cap,v10=.int .i64 ((su-A.from_:Nat):Int)∧v12=.slice (some ⟨b,C1.r1,none⟩) (C1.bl-C1.r1) (cap-C1.r1)∧v13=.int .i64 (i:Int)∧C1.bv=.slice (some ⟨b,0,none⟩) C1.bl cap∧
  C1.r1+i≤C1.bl∧C1.r1<C1.bl∧C1.bl≤cap∧TokAt S R T A.skip A.at_ su (q+i) E∧Step w B g T A C wr { A with at_:=q,esc:=A.esc++E } C1
def tokV (S:Nat→Bool) (R:Nat→Nat) (T:List UInt8) (A:Ab):List UInt8:=
 if A.skip then (T.drop A.at_).take (tok S R (T.drop A.at_)).1 else (tok S R (T.drop A.at_)).2
def EscPost (w:World) (B g:Nat) (T:List UInt8) (A:Ab) (C:Cn) (S:Nat→Bool) (R:Nat→Nat) (e:Ending) (w':World):Prop:=
 ∃ v A' C' ev,e=.returned (.tuple #[v,.int .i64 ((A.at_-A.from_:Nat):Int),ev])∧Step w B g T A C w' A' C'∧
  A'.at_=A.at_+(tok S R (T.drop A.at_)).1∧A'.from_=A.from_∧A'.skip=A.skip∧A'.line=1+lfs (T.take A'.at_)∧A'.esc.length+A'.from_≤A'.at_∧
  Told w' g A' C' v (tokV S R T A)∧
  (valid (tokV S R T A)=true∧A'.part=A.part∧ev=.nilIface∨valid (tokV S R T A)=false∧A'.part=errPart A∧Flted w' B (fltAt T A.from_ A.at_) ev)
theorem Told.of_heap {w w':World} {g:Nat} {A:Ab} {C:Cn} {v:Value} {bs:List UInt8} (h:Told w g A C v bs) (e:w'.heap=w.heap):Told w' g A C v bs:=
 h.stay (fun b o hb hu=>⟨World.cell?_of_block (w:=w) (by rw [e]),hu⟩) (by rw [e];exact Nat.le_refl _)
theorem Rep.low_not_own {w:World} {B g:Nat} {T:List UInt8} {A:Ab} {C:Cn} (hr:Rep w B g T A C) {k:Nat} (hk:k<B):¬Own g C k:=by
 have hg:=hr.base
 rintro (h1 | h1 | h1 | h1)
 ·omega
 ·have:=(hr.bv_lt h1).1;omega
 ·have:=(hr.ev_lt h1).1;omega
 ·have:=(hr.rbB k h1).1;omega
theorem Rep.told_esc {w:World} {B g eb ec k c:Nat} {T:List UInt8} {A:Ab} {C:Cn} (h:Rep w B g T A C) (hv:C.ev=.slice (some ⟨eb,0,none⟩) A.esc.length ec) (hk:k≤A.esc.length) :
  Told w g A C (.slice (some ⟨eb,k,none⟩) (A.esc.length-k) c) (A.esc.drop k):=by
 have hob:C.ev.ownBlock=some eb:=by rw [hv];rfl
 obtain ⟨_,hlt,cur,hcur⟩:=h.ev_lt hob
 refine ⟨⟨_,c,by rw [List.length_drop]⟩,fun hne=>⟨eb,k,c,by rw [List.length_drop],hlt,fun j hj=>?_⟩⟩
 rw [List.length_drop] at hj
 refine ⟨?_,?_,?_,?_,?_⟩
 ·have ho:=h.esc
  rw [hv] at ho
  have:=ho.cellAt (k+j) (by simp;omega)
  rw [this,List.getElem?_map,List.getElem?_drop]
 ·rintro rfl
  exact h.gne' hob
 ·intro e
  obtain ⟨cs,hcs⟩:=(h.rbB eb e).2
  exact blk_type hcs hcur (by decide) rfl
 ·intro e
  exact absurd (e.trans hob.symm) h.ne
 ·intro _;omega
def EscTook (w:World) (B g:Nat) (T:List UInt8) (A:Ab) (C:Cn) (S:Nat→Bool) (R:Nat→Nat) (v16:Value) (wx:World):Prop:=
 ∃ A' C' a n c,v16=.slice a n c∧n=(tokV S R T A).length∧n≤c∧Step w B g T A C wx A' C'∧
  A'.at_=A.at_+(tok S R (T.drop A.at_)).1∧A'.from_=A.from_∧A'.skip=A.skip∧A'.part=A.part∧A'.line=1+lfs (T.take A'.at_)∧A'.esc.length+A'.from_≤A'.at_∧
  Told wx g A' C' v16 (tokV S R T A)
set_option maxHeartbeats 16000000 in
theorem takeEsc_spec {w:World} {B g a tb:Nat} {T:List UInt8} {A:Ab} {C:Cn} (S:Nat→Bool) (R:Nat→Nat) (h:Rep w B g T A C) (hE:Env w B) (hs:SetAt w a S) (ht:TabAt w tb R) (hel:A.esc.length+A.from_≤A.at_) (hln:A.line=1+lfs (T.take A.at_)) (hSR:S 10=false→R 10=0) (hU:Lib.Utf8Tabs 4 5 w) :
  Calls Tryz.prog 47 #[.pointer (some ⟨g,0,none⟩),.pointer (some ⟨a,0,none⟩),.pointer (some ⟨tb,256,none⟩)] w (EscPost w B g T A C S R):=by
 have c2:=h.c2
 have c3:=h.c3
 have c7:=h.c7
 have hbl:=h.bl_le
 have hr1:=h.le1
 have hr0:=h.le01
 have hat:=h.at_
 have hbig:=h.big
 have hin:=h.inT
 obtain ⟨eb,ec,hev,hec,hem⟩:=h.ev_form
 rw [hev] at c7
 have hat1:A.from_≤A.at_:=by omega
 have hatT:A.at_≤T.length:=by omega
 have b1:(C.r1:Int)≤5000:=by omega
 have b2:(C.r0:Int)≤5000:=by omega
 have b3:(0:Int)≤C.r0:=by omega
 have b4:(0:Int)≤C.r1:=by omega
 have HH:=Lib.hid h
 have HE:=Lib.hid hE
 have HS:=Lib.hid hs
 have HT:=Lib.hid ht
 have HEL:=Lib.hid hel
 have hd:(C.r1:Int)-(C.r0:Int)=((A.at_-A.from_:Nat):Int):=by omega
 have HD:=Lib.hid hd
 have HAT:=Lib.hid hat1
 have HATT:=Lib.hid hatT
 have HBIG:=Lib.hid hbig
 have HLN:=Lib.hid hln
 have HSR:=Lib.hid hSR
 have HU:=Lib.hid hU
 clear hln hSR hU
 clear h hE hs ht hel hd hbl hr1 hr0 hat hat1 hbig hin hatT hev hec hem
 go_enter Tryz.func47,Tryz.ntmps47
 go_wp2
 go_step3
 go_wp2
 go_quiet (fail)
 rw [HD.out]
 clear b1 b2 b3 b4 c2 c3
 go_wp2_with fail
 go_step3
 go_upto_block 0 with fail
 go_cut [10] from 32 to 168 (fun v10 wx=>EscOut w B g T A C S R v10 wx)
 case first=>
  as_aux_lemma=>
   go_wp2_with fail
   go_loopg [10] (T.length+1) (fun mq v10 wr=>∃ q,T.length+1≤mq+q∧q≤T.length∧EscAt w B g T A C S R v10 wr q)
   case atStart=>
    refine ⟨A.at_,by omega,HATT.out,A.at_,[],C,rfl,TokAt.start _ _ _ _ _,?_⟩
    have:=(Step.refl HH.out).drewN nq
    simpa using this
   case round=>
    obtain ⟨q,hq1,hq2,hat⟩:=hrel
    have HQ1:=Lib.hid hq1
    have HQ2:=Lib.hid hq2
    obtain ⟨su,E,C1,rfl,tk,st⟩:=hat
    have TK:=Lib.hid tk
    have ST:=Lib.hid st
    clear hq1 hq2 tk st
    go_wp2_with fail
    refine (ensure_spec 1 (by omega) ST.out.rep (HE.out.pas HH.out ST.out)).mono ?_
    rintro e w2 ⟨rfl,C2,st2,h1,h2⟩
    have ST2:=Lib.hid (ST.out.trans st2)
    clear st2
    dsimp only at h1 h2
    by_cases hmore:q+1≤T.length
    ·rw [decide_eq_true hmore]
     have h1':=h1 hmore
     have hq:=ST2.out.rep
     rcases hq.form with ⟨hv0,h0⟩ | ⟨b,cap,hbv,hcap,hmx,_,_⟩
     ·omega
     have c1:=hq.c1
     rw [hbv] at c1
     have c3:=hq.c3
     have e4:=hq.bl_le
     unfold maxLen at hmx
     have g1:(C2.r1:Int)≤(cap:Int):=by omega
     have g2:C2.r1≤cap:=by omega
     have g3:¬cap=C2.r1:=by omega
     have g4:(C2.r1:Int)≤(C2.bl:Int):=by omega
     have g5:C2.r1≤C2.bl:=by omega
     have g7:(C2.r1:Int)≤5000:=by omega
     have H1:=Lib.hid h1'
     have HCAP:=Lib.hid hcap
     have HBV:=Lib.hid hbv
     have HM:=Lib.hid hmore
     clear hq h1 h1' h2 hmore e4 hbv hcap
     go_wp2_with fail
     go_quiet (fail)
     clear g1 g2 g3 g4 g5 g7 c1 c3 hmx
     go_wp2_with fail
     go_loopg [10,12,13] (T.length+1-q) (fun m v10 v12 v13 wr=>∃ i,T.length+1≤m+(q+i)∧EscIn w B g T A C S R q v10 v12 v13 wr i)
     case atStart=>
      refine ⟨0,by have:=HQ2.out;omega,su,E,C2,b,cap,rfl,rfl,rfl,HBV.out,by have:=H1.out;omega,by have:=H1.out;omega,HCAP.out,TK.out,ST2.out.drewN _⟩
     case round=>
      clear TK ST ST2 H1 HCAP HBV
      obtain ⟨i,hm,hin⟩:=hrel
      obtain ⟨su,E,C3,b,cap,rfl,rfl,rfl,hbv,hi,hr,hcap,tk,st⟩:=hin
      have e4:=st.rep.bl_le
      have e5:=st.rep.inT
      have e6:=st.rep.at_
      have e7:=st.rep.le01
      dsimp only at e5 e6
      obtain ⟨n,hn⟩:∃ n,C3.bl-C3.r1=n:=⟨_,rfl⟩
      rw [hn]
      have g6:(n:Int)≤5000:=by omega
      have g7:(C3.r1:Int)≤5000:=by omega
      have g8:(i:Int)≤1000:=by omega
      have HM2:=Lib.hid hm
      have HN:=Lib.hid hn
      have HBV:=Lib.hid hbv
      have HI:=Lib.hid hi
      have HR:=Lib.hid hr
      have HCAP:=Lib.hid hcap
      have TK:=Lib.hid tk
      have ST:=Lib.hid st
      have HT1:Hid (q+n≤T.length):=Lib.hid (by omega)
      by_cases hlt:i<n
      ·obtain ⟨c,hc1,hc2⟩:=st.rep.cell_at hbv (i:=i) (by omega)
       have HC1:=Lib.hid hc1
       clear hm hn hbv hi hr hcap tk st e4 e5 e6 e7 hc1
       have q1:(c.toNat:Int)<256:=by have:=c.toNat_lt;omega
       by_cases h92:c=92
       ·have d1:(c.toNat:Int)=92:=by rw [h92];rfl
        rw [d1] at hc2
        subst h92
        clear d1 q1
        go_upto_if 72 with fail
        go_cut [12] from 44 to 159 (fun v12 wx=>∃ C4 b4 cap4,v12=.slice (some ⟨b4,C4.r1,none⟩) (C4.bl-C4.r1) (cap4-C4.r1)∧C4.bv=.slice (some ⟨b4,0,none⟩) C4.bl cap4∧C4.r1+i+1<C4.bl∧C4.bl≤cap4∧Step w B g T A C wx { A with at_:=q,esc:=A.esc++E } C4)
        case first=>
         by_cases hi2:i+1=n
         ·have k1:(n:Int)≤(i:Int)+1:=by omega
          have HI2:=Lib.hid hi2
          clear hi2 hc2
          go_wp2_with fail
          rw [show (i:Int)+2=((i+2:Nat):Int) by omega]
          refine (ensure_spec (i+2) (by omega) ST.out.rep (HE.out.pas HH.out ST.out)).mono ?_
          rintro e w4 ⟨rfl,C4,s4,h1,h2⟩
          have ST4:=Lib.hid (ST.out.trans s4)
          clear s4
          dsimp only at h1 h2
          dsimp only
          by_cases hm2:q+(i+2)≤T.length
          ·rw [decide_eq_true hm2]
           have h1':=h1 hm2
           have hq:=ST4.out.rep
           rcases hq.form with ⟨hv0,h0⟩ | ⟨b4,cap4,hbv4,hcap4,hmx4,_,_⟩
           ·omega
           have c1:=hq.c1
           rw [hbv4] at c1
           have c3:=hq.c3
           have e4:=hq.bl_le
           unfold maxLen at hmx4
           have g1:(C4.r1:Int)≤(cap4:Int):=by omega
           have g2:C4.r1≤cap4:=by omega
           have g3:¬cap4=C4.r1:=by omega
           have g4:(C4.r1:Int)≤(C4.bl:Int):=by omega
           have g5:C4.r1≤C4.bl:=by omega
           have g9:(C4.r1:Int)≤5000:=by omega
           have H1:=Lib.hid h1'
           have HCAP4:=Lib.hid hcap4
           have HBV4:=Lib.hid hbv4
           clear hq h1 h1' h2 hm2 e4 hbv4 hcap4
           go_wp2_with fail
           go_quiet (fail)
           go_wp2_with fail
           go_meet
           case rel=>
            exact ⟨C4,b4,cap4,rfl,HBV4.out,by have:=H1.out;omega,HCAP4.out,ST4.out.drewN _⟩
          ·rw [decide_eq_false hm2]
           have hq:=ST4.out.rep
           have hall:=hq.all (h2 hm2)
           have e1:=hq.at_
           have e2:=hq.le01
           have e3:=hq.le1
           have e4:=hq.bl_le
           dsimp only at hall e1
           obtain ⟨va4,vc4,hv4,_,_⟩:=hq.bv_slice
           have c1:=hq.c1
           rw [hv4] at c1
           have f3:=hq.fz 3
           have c3:=hq.c3
           have hlast:T.length≤q+i+1:=by omega
           have hjl:=(List.getElem?_eq_some_iff.1 HC1.out).1
           have hend:q+(C4.bl-C4.r1)=q+i+1:=by omega
           have ST5:=Lib.hid (ST4.out.trans (adv_step ST4.out.rep (C4.bl-C4.r1) (by omega)))
           rw [show C4.r1+(C4.bl-C4.r1)=C4.bl by omega] at ST5
           have HL:=Lib.hid hlast
           have HEND:=Lib.hid hend
           clear hq hall e1 e2 e3 e4 hv4 hlast hjl hend h1 h2 hm2
           go_wp2_with fail
           go_meet
           case rel=>
            have st5:=ST5.out
            rw [HEND.out] at st5
            exact ⟨q+i+1,⟨su,E,{ C4 with r1:=C4.bl },rfl,TK.out.last HC1.out HL.out,st5⟩,tok_end HL.out,by have:=(List.getElem?_eq_some_iff.1 HC1.out).1;omega⟩
         ·have k1:¬(n:Int)≤(i:Int)+1:=by omega
          have k2:(i:Int)+1<(n:Int):=by omega
          have HI2:=Lib.hid hi2
          clear hi2 hc2
          go_wp2_with fail
          go_meet
          case rel=>
           exact ⟨C3,b,cap,by rw [HN.out],HBV.out,by have:=HN.out;have:=HI2.out;omega,HCAP.out,ST.out⟩
        case rest=>
         clear hc2
         obtain ⟨C4,b4,cap4,rfl,hbv4,hlt4,hcap4,st4⟩:=hcut
         obtain ⟨d,hd1,hd2⟩:=st4.rep.cell_at hbv4 (i:=i+1) (by omega)
         dsimp only at hd1
         have HD1:=Lib.hid hd1
         have htab:=(HT.out.step HH.out st4.pas).cell d.toNat (by have:=d.toNat_lt;omega)
         have e4:=st4.rep.bl_le
         obtain ⟨m,hmm⟩:∃ m,C4.bl-C4.r1=m:=⟨_,rfl⟩
         rw [hmm]
         have k1:(i:Int)+1<(m:Int):=by omega
         have k2:i+1<m:=by omega
         have k3:((i:Int)+1).toNat=i+1:=by omega
         have k4:(d.toNat:Int)<256:=by have:=d.toNat_lt;omega
         have k5:(m:Int)≤1000:=by omega
         have BV4:=Lib.hid hbv4
         have HLT4:=Lib.hid hlt4
         have HCAP4:=Lib.hid hcap4
         have ST4:=Lib.hid st4
         have HMM:=Lib.hid hmm
         clear hbv4 hlt4 hcap4 st4 hmm hd1 e4
         go_wp2_with fail
         go_quiet (fail)
         generalize hrd:R d.toNat=r at htab
         have HRD:=Lib.hid hrd
         clear hrd hd2 htab
         by_cases hr0:r=0
         ·have r1:(r:Int)=0:=by omega
          have HR0:=Lib.hid hr0
          clear hr0
          try rw [HRD.out]
          go_wp2_with fail
          go_roundg (T.length+1-(q+(i+1)))
          case measure=>have:=HM2.out;have:=HT1.out;omega
          case rel=>
           have tk2:=TK.out.on HC1.out (tok_raw HC1.out HD1.out (HRD.out.trans HR0.out))
           exact ⟨i+1,by omega,su,E,C4,b4,cap4,rfl,by rw [HMM.out],by go_num,BV4.out,by have:=HLT4.out;omega,by have:=HLT4.out;omega,HCAP4.out,tk2,ST4.out.drewN _⟩
         ·have r1:¬(r:Int)=0:=by omega
          have HR0:=Lib.hid hr0
          clear hr0
          have c6:=ST4.out.rep.c6
          dsimp only at c6
          cases hsk:A.skip
          ·rw [hsk] at c6
           have HSK:=Lib.hid hsk
           clear hsk
           have hq4:=ST4.out.rep
           have tk0:=TK.out
           have c1:=hq4.c1
           rw [BV4.out] at c1
           have c2:=hq4.c2
           have c3:=hq4.c3
           have c7':=hq4.c7
           have f7:=hq4.fz 7
           obtain ⟨eb4,ec4,hev4,hec4,hem4⟩:=hq4.ev_form
           rw [hev4] at c7'
           dsimp only at c1 c2 c3 c7' hev4 hec4
           have e1:=hq4.at_
           have e2:=hq4.le01
           have e3:=hq4.bl_le
           have e5:=tk0.psu
           have e6:=tk0.suj
           have e7:=HLT4.out
           have e8:=HCAP4.out
           have e9:=HAT.out
           dsimp only at e1
           obtain ⟨lo,hlo⟩:∃ lo,C4.r0+(su-A.from_)=lo:=⟨_,rfl⟩
           obtain ⟨hi,hhi⟩:∃ hi,C4.r1+i=hi:=⟨_,rfl⟩
           have W1:IntKind.i64.wrap ((C4.r0:Int)+((su-A.from_:Nat):Int))=(lo:Int):=by rw [IntWalk.i64_in _ (by omega)];omega
           have W2:IntKind.i64.wrap ((C4.r1:Int)+(i:Int))=(hi:Int):=by rw [IntWalk.i64_in _ (by omega)];omega
           have x2:lo≤hi:=by omega
           have x3:(lo:Int)≤(hi:Int):=by omega
           have x4:¬cap4=lo:=by omega
           have x5:hi≤cap4:=by omega
           have x6:(hi:Int)≤(cap4:Int):=by omega
           have x7:0≤(hi:Int):=by omega
           have x8:0≤(lo:Int):=by omega
           have x9:max (hi:Int) 0=hi:=by omega
           have X1:=Lib.hid hlo
           have X2:=Lib.hid hev4
           have X3:=Lib.hid x2
           have e10:A.from_≤su:=by omega
           obtain ⟨seg1,seg2⟩:=(ST4.out.drewN nq).drew.rep.seg BV4.out e10 hlo (k:=hi-lo) (by omega)
           obtain ⟨news,hnews⟩:∃ l,(T.drop su).take (hi-lo)=l:=⟨_,rfl⟩
           rw [hnews] at seg1 seg2
           have own4:=(ST4.out.drewN nq).drew.rep.esc
           rw [hev4] at own4
           dsimp only at own4
           have hlen:=hq4.escL
           dsimp only at hlen
           have OWN:=Lib.hid own4
           have NL:=Lib.hid seg1
           have NC:=Lib.hid seg2
           have NM:Hid ((A.esc++E).length+(hi-lo)≤maxLen):=Lib.hid (by unfold maxLen;omega)
           have NB:Hid (((A.esc++E).length+(hi-lo))*1≤140737488355328):=Lib.hid (by omega)
           have BASE:Hid (B≤((wc.drewN nq).drew).heap.size):=Lib.hid (by have:=hq4.base;have:=hq4.lt;show B≤wc.heap.size;omega)
           have HNEWS:=Lib.hid hnews
           clear seg1 seg2 own4 hlen hnews e10
           have HHI:=Lib.hid hhi
           clear hq4 tk0 hev4 hhi e1 e2 e3 e5 e6 e7 e8 e9 hlo hec4 hem4
           go_wp2_with fail
           refine start_ (n:=26) (S:=fun w'=>w'=(wc.drewN nq).drew) (ds:=[22,25]) (bA 26 0) (by kernel_rfl) rfl rfl rfl (fun _=>?_)
           refine pure_ (i:=0) (N:=some 111) (v:=?_) (a':=?_) (bA 26 1) rfl rfl (by kernel_rfl) (fun _ _ _ h=>h) (Or.inl ⟨by rfl,?_⟩) ?_ ?_
           rotate_left
           ·intro w';go_simp;with_reducible rfl
           rotate_left
           ·simp only [Act.put,aA,aB,aC,W1,W2];rfl
           refine pure_ (i:=1) (N:=some 112) (v:=?_) (a':=?_) (bA 26 3) rfl rfl (by kernel_rfl) (fun _ _ _ h=>h) (Or.inl ⟨by rfl,?_⟩) ?_ ?_
           rotate_left
           ·intro w';go_simp;with_reducible rfl
           rotate_left
           ·simp only [Act.put,aA,aB,aC,W1,W2];rfl
           refine pure_ (i:=2) (N:=some 113) (v:=?_) (a':=?_) (bA 26 7) rfl rfl (by kernel_rfl) (fun _ _ _ h=>h) (Or.inl ⟨by rfl,?_⟩) ?_ ?_
           rotate_left
           ·intro w';go_simp;with_reducible rfl
           rotate_left
           ·simp only [Act.put,aA,aB,aC,W1,W2];rfl
           refine pure_ (i:=3) (N:=some 114) (v:=?_) (a':=?_) (bA 26 15) rfl rfl (by kernel_rfl) (fun _ _ _ h=>h) (Or.inl ⟨by rfl,?_⟩) ?_ ?_
           rotate_left
           ·intro w';go_simp;with_reducible rfl
           rotate_left
           ·simp only [Act.put,aA,aB,aC,W1,W2];rfl
           refine take_ (i:=4) (N:=some 115) (v:=?_) (a':=?_) (bA 26 31) rfl rfl (by kernel_rfl) (fun _ _ _ h=>h) (Or.inl ⟨by rfl,?_⟩) rfl ?_ ?_
           rotate_left
           ·rintro w' rfl;go_simp;with_reducible rfl
           rotate_left
           ·simp only [Act.put,aA,aB,aC,W1,W2];rfl
           refine pure_ (i:=5) (N:=some 116) (v:=?_) (a':=?_) (bA 26 63) rfl rfl (by kernel_rfl) (fun _ _ _ h=>h) (Or.inl ⟨by rfl,?_⟩) ?_ ?_
           rotate_left
           ·intro w';go_simp;with_reducible rfl
           rotate_left
           ·simp only [Act.put,aA,aB,aC,W1,W2];rfl
           refine pure_ (i:=6) (N:=some 117) (v:=?_) (a':=?_) (bA 26 127) rfl rfl (by kernel_rfl) (fun _ _ _ h=>h) (Or.inl ⟨by rfl,?_⟩) ?_ ?_
           rotate_left
           ·intro w';go_simp;with_reducible rfl
           rotate_left
           ·simp only [Act.put,aA,aB,aC,W1,W2];rfl
           refine pure_ (i:=7) (N:=some 118) (v:=?_) (a':=?_) (bA 26 255) rfl rfl (by kernel_rfl) (fun _ _ _ h=>h) (Or.inl ⟨by rfl,?_⟩) ?_ ?_
           rotate_left
           ·intro w';go_simp;with_reducible rfl
           rotate_left
           ·simp only [Act.put,aA,aB,aC,W1,W2];rfl
           refine take_ (i:=8) (N:=some 119) (v:=?_) (a':=?_) (bA 26 511) rfl rfl (by kernel_rfl) (fun _ _ _ h=>h) (Or.inl ⟨by rfl,?_⟩) rfl ?_ ?_
           rotate_left
           ·rintro w' rfl;go_simp;with_reducible rfl
           rotate_left
           ·simp only [Act.put,aA,aB,aC,W1,W2];rfl
           refine pure_ (i:=9) (N:=some 120) (v:=?_) (a':=?_) (bA 26 1023) rfl rfl (by kernel_rfl) (fun _ _ _ h=>h) (Or.inl ⟨by rfl,?_⟩) ?_ ?_
           rotate_left
           ·intro w';go_simp;with_reducible rfl
           rotate_left
           ·simp only [Act.put,aA,aB,aC,W1,W2];rfl
           refine pure_ (i:=10) (N:=some 121) (v:=?_) (a':=?_) (bA 26 2047) rfl rfl (by kernel_rfl) (fun _ _ _ h=>h) (Or.inl ⟨by rfl,?_⟩) ?_ ?_
           rotate_left
           ·intro w';go_simp;with_reducible rfl
           rotate_left
           ·simp only [Act.put,aA,aB,aC,W1,W2];rfl
           refine pure_ (i:=11) (N:=some 122) (v:=?_) (a':=?_) (bA 26 4095) rfl rfl (by kernel_rfl) (fun _ _ _ h=>h) (Or.inl ⟨by rfl,?_⟩) ?_ ?_
           rotate_left
           ·intro w';go_simp;with_reducible rfl
           rotate_left
           ·simp only [Act.put,aA,aB,aC,W1,W2];rfl
           refine take_ (i:=12) (N:=some 123) (v:=?_) (a':=?_) (bA 26 8191) rfl rfl (by kernel_rfl) (fun _ _ _ h=>h) (Or.inl ⟨by rfl,?_⟩) rfl ?_ ?_
           rotate_left
           ·rintro w' rfl;go_simp;with_reducible rfl
           rotate_left
           ·simp only [Act.put,aA,aB,aC,W1,W2];rfl
           refine pure_ (i:=13) (N:=some 124) (v:=?_) (a':=?_) (bA 26 16383) rfl rfl (by kernel_rfl) (fun _ _ _ h=>h) (Or.inl ⟨by rfl,?_⟩) ?_ ?_
           rotate_left
           ·intro w';go_simp;with_reducible rfl
           rotate_left
           ·simp only [Act.put,aA,aB,aC,W1,W2];rfl
           refine pure_ (i:=14) (N:=some 125) (v:=?_) (a':=?_) (bA 26 32767) rfl rfl (by kernel_rfl) (fun _ _ _ h=>h) (Or.inl ⟨by rfl,?_⟩) ?_ ?_
           rotate_left
           ·intro w';go_simp;with_reducible rfl
           rotate_left
           ·simp only [Act.put,aA,aB,aC,W1,W2];rfl
           refine pure_ (i:=15) (N:=some 126) (v:=?_) (a':=?_) (bA 26 65535) rfl rfl (by kernel_rfl) (fun _ _ _ h=>h) (Or.inl ⟨by rfl,?_⟩) ?_ ?_
           rotate_left
           ·intro w';go_simp;with_reducible rfl
           rotate_left
           ·simp only [Act.put,aA,aB,aC,W1,W2];rfl
           refine pure_ (i:=16) (N:=some 127) (v:=?_) (a':=?_) (bA 26 131071) rfl rfl (by kernel_rfl) (fun _ _ _ h=>h) (Or.inl ⟨by rfl,?_⟩) ?_ ?_
           rotate_left
           ·intro w';go_simp;with_reducible rfl
           rotate_left
           ·simp only [Act.put,aA,aB,aC,W1,W2];rfl
           refine pure_ (i:=17) (N:=some 128) (v:=?_) (a':=?_) (bA 26 262143) rfl rfl (by kernel_rfl) (fun _ _ _ h=>h) (Or.inl ⟨by rfl,?_⟩) ?_ ?_
           rotate_left
           ·intro w';go_simp;with_reducible rfl
           rotate_left
           ·simp only [Act.put,aA,aB,aC,W1,W2];rfl
           refine take_ (i:=18) (N:=some 129) (v:=?_) (a':=?_) (bA 26 524287) rfl rfl (by kernel_rfl) (fun _ _ _ h=>h) (Or.inl ⟨by rfl,?_⟩) rfl ?_ ?_
           rotate_left
           ·rintro w' rfl;go_simp;with_reducible rfl
           rotate_left
           ·simp only [Act.put,aA,aB,aC,W1,W2];rfl
           refine pure_ (i:=19) (N:=some 130) (v:=?_) (a':=?_) (bA 26 1048575) rfl rfl (by kernel_rfl) (fun _ _ _ h=>h) (Or.inl ⟨by rfl,?_⟩) ?_ ?_
           rotate_left
           ·intro w';go_simp;with_reducible rfl
           rotate_left
           ·simp only [Act.put,aA,aB,aC,W1,W2];rfl
           refine pure_ (i:=20) (N:=some 131) (v:=?_) (a':=?_) (bA 26 2097151) rfl rfl (by kernel_rfl) (fun _ _ _ h=>h) (Or.inl ⟨by rfl,?_⟩) ?_ ?_
           rotate_left
           ·intro w';go_simp;with_reducible rfl
           rotate_left
           ·simp only [Act.put,aA,aB,aC,W1,W2];rfl
           refine pure_ (i:=21) (N:=some 132) (v:=?_) (a':=?_) (bA 26 4194303) rfl rfl (by kernel_rfl) (fun _ _ _ h=>h) (Or.inl ⟨by rfl,?_⟩) ?_ ?_
           rotate_left
           ·intro w';go_simp;with_reducible rfl
           rotate_left
           ·simp only [Act.put,aA,aB,aC,W1,W2];rfl
           refine last_ (i:=22) (N:=some 133) (bA 26 8388607) rfl rfl (by kernel_rfl) (by decide) (fun K hK=>?_)
           obtain ⟨i5,hi5,hz5,hs5,hb5⟩:=info5
           refine app_ (P:=Tryz.prog) (by rfl) rfl (.tmp 115) (.tmp 132) 54 rfl B 5 i5 (.int .u8 0) 1 Tryz.underlying54 hi5 hz5 hs5 hb5 rfl (.slice (some ⟨eb4,0,none⟩) (A.esc++E).length ec4) _ _ (by go_simp) OWN.out ⟨b4,lo,none⟩ (hi-lo) (cap4-lo) (news.map bcell) (by go_simp) (by simpa using NL.out) NC.out (bcells_one _) NM.out NB.out BASE.out ?_
           intro v5 w5 o1 o2 o3 o4
           have hg5:=blk_only (ST4.out.drewN nq).drew.rep.blk ((Only.refl (fun k=>(Value.slice (some ⟨eb4,0,none⟩) (A.esc++E).length ec4).ownBlock=some k) _).grown o2 fun k hk=>.inl hk) (by rw [←X2.out];exact ST4.out.rep.gne')
           obtain ⟨n5,hn5⟩:∃ n5,(A.esc++E).length+(hi-lo)=n5:=⟨_,rfl⟩
           rw [hn5] at o1
           obtain ⟨a5,c5,rfl⟩:=own_slice o1
           have c57:w5.cell? ⟨g,7,none⟩=some C4.ev:=blk_cell hg5 7
           have f57:=blk_frozen hg5 7
           rw [X2.out] at c57
           refine hK.out _ _ ?_
           clear hK K
           refine pure_ (i:=23) (N:=some 134) (v:=?_) (a':=?_) (bA 26 16777215) rfl rfl (by kernel_rfl) (fun _ _ _ h=>h) (Or.inl ⟨by rfl,?_⟩) ?_ ?_
           rotate_left
           ·intro w';go_simp;with_reducible rfl
           rotate_left
           ·simp only [Act.put,aA,aB,aC,W1,W2];rfl
           refine pure_ (i:=24) (N:=some 135) (v:=?_) (a':=?_) (bA 26 33554431) rfl rfl (by kernel_rfl) (fun _ _ _ h=>h) (Or.inl ⟨by rfl,?_⟩) ?_ ?_
           rotate_left
           ·intro w';go_simp;with_reducible rfl
           rotate_left
           ·simp only [Act.put,aA,aB,aC,W1,W2];rfl
           refine last_ (i:=25) (N:=none) (bA 26 67108863) rfl rfl (by kernel_rfl) (by decide) (fun K hK=>?_)
           refine skip_ (w1:=?_) (by rfl) rfl ?_ ?_
           rotate_left
           ·go_simp
            rfl
           refine hK.out _ _ ?_
           clear hK K
           refine done_ (by kernel_rfl) ?_
           have HN5:=Lib.hid hn5
           have S5:=Lib.hid ((ST4.out.drewN nq).drew.trans (esc_step (ST4.out.drewN nq).drew.rep news (.slice a5 n5 c5) (by have:=NL.out;rw [List.length_map,Nat.mul_one] at this;rw [this];dsimp only;rw [hn5];exact o1) (by rw [X2.out];exact o2) (by rw [X2.out];exact o3) (by rw [X2.out];exact o4) (by
            have h1:=NL.out
            rw [List.length_map] at h1
            have h2:=TK.out.len
            have h3:=HEL.out
            have h4:=TK.out.psu
            have h5:=TK.out.suj
            have h6:=ST4.out.rep.at_
            have h7:=X1.out
            have h8:=HHI.out
            have h9:=HT1.out
            have h10:=HBIG.out
            have h11:=ST4.out.rep.le01
            have h12:=HLT4.out
            dsimp only at h6
            dsimp only
            rw [List.length_append]
            omega)))
           clear o1 o2 o3 o4 hg5 c57 f57 OWN NC NM NB BASE hi5 hz5 hs5 hb5 c1 c2 c3 c6 c7' f7 W1 W2 x2 x3 x4 x5 x6 x7 x8 x9 hn5
           revert S5
           generalize w5.setCell ⟨g,7,none⟩ (.slice a5 n5 c5)=w6
           intro S5
           have c7':=S5.out.rep.c7
           have f7':=S5.out.rep.fz 7
           dsimp only at c7'
           obtain ⟨n6,hn6⟩:∃ n6,(A.esc++E++news).length=n6:=⟨_,rfl⟩
           have own6:=S5.out.rep.esc.alloc (.cells #[.int .u8 (r:Int)] 5)
           have len6:=S5.out.rep.escL
           dsimp only at own6 len6
           rw [hn6] at own6 len6
           have HN6:=Lib.hid hn6
           have OWN6:=Lib.hid own6
           have LEN6:=Lib.hid len6
           have BASE6:Hid (B≤(w6.alloc (.cells #[.int .u8 (r:Int)] 5)).heap.size):=Lib.hid (by have:=S5.out.rep.base;have:=S5.out.rep.lt;simp;omega)
           have S6:=Lib.hid (S5.out.trans (S5.out.rep.below ((Below.refl w6.heap.size w6).alloc (Nat.le_refl _) (.cells #[.int .u8 (r:Int)] 5))))
           clear own6 len6 hn6
           obtain ⟨i5,hi5,hz5,hs5,hb5⟩:=info5
           have hi5:=Lib.hid hi5
           go_wp2_with (at_builtin;refine wpList_append_stay (P:=Tryz.prog) _ rfl (.tmp 140) (.tmp 142) 54 rfl B 5 i5 (.int .u8 0) 1 Tryz.underlying54 hi5.out hz5 hs5 hb5 rfl (.slice a5 n5 c5) n6 _ rfl OWN6.out ⟨w6.heap.size,0,none⟩ 1 1 [.int .u8 (r:Int)] rfl rfl (cell_one_new _ _ _) (fun x hx=>by simp at hx;subst hx;rfl) (by have:=LEN6.out;unfold maxLen;omega) (by have:=LEN6.out;omega) BASE6.out ?_;intro v6 w7 p1 p2 p3 p4;obtain ⟨a6,q6,rfl⟩:=own_slice p1;have hg7:=blk_only S6.out.rep.blk ((Only.refl (fun k=>(Value.slice a5 n5 c5).ownBlock=some k) _).grown p2 fun k hk=>.inl hk) S6.out.rep.gne';have c77:w7.cell? ⟨g,7,none⟩=some (.slice a5 n5 c5):=blk_cell hg7 7;have f77:=blk_frozen hg7 7)
           have hr256:r<256:=by
            obtain ⟨cs,t,_,_,h3⟩:=HT.out
            have:=(h3 d.toNat d.toNat_lt).2
            rw [HRD.out] at this
            exact this
           have hb1:[Value.int .u8 (r:Int)]=[UInt8.ofNat r].map bcell:=by
            show _=[Value.int .u8 ((UInt8.ofNat r).toNat:Int)]
            rw [UInt8.toNat_ofNat',Nat.mod_eq_of_lt hr256]
           rw [hb1] at p1
           have S7:=Lib.hid (S6.out.trans (esc_step S6.out.rep [UInt8.ofNat r] (.slice a6 (n6+1) q6) (by dsimp only;rw [HN6.out];exact p1) p2 (by dsimp only;rw [HN6.out];exact p3) p4 (by
            have h1:=NL.out
            rw [List.length_map] at h1
            have h2:=TK.out.len
            have h3:=HEL.out
            have h4:=TK.out.psu
            have h5:=TK.out.suj
            have h6:=ST4.out.rep.at_
            have h7:=X1.out
            have h8:=HHI.out
            have h9:=HT1.out
            have h10:=HBIG.out
            have h11:=ST4.out.rep.le01
            have h12:=HLT4.out
            have h13:=HN6.out
            dsimp only at h6
            dsimp only
            rw [h13]
            rw [List.length_append,List.length_append] at h13
            show n6+1≤1000
            omega)))
           clear p1 p2 p3 p4 hg7 c77 f77 OWN6 BASE6 LEN6 hi5 hz5 hs5 hb5 c7' f7' S5 S6 hb1
           revert S7
           generalize w7.setCell ⟨g,7,none⟩ (.slice a6 (n6+1) q6)=w8
           intro S7
           have c2:=S7.out.rep.c2
           have c3:=S7.out.rep.c3
           dsimp only at c2 c3
           have e1:=ST4.out.rep.at_
           have e2:=ST4.out.rep.le01
           have e3:=ST4.out.rep.bl_le
           have e4:=HAT.out
           have e5:=TK.out.psu
           have e6:=TK.out.suj
           have e7:=HLT4.out
           dsimp only at e1
           have y1:(C4.r1:Int)≤5000:=by omega
           have y2:(C4.r0:Int)≤(C4.r1:Int):=by omega
           have y3:C4.r0≤C4.r1:=by omega
           have Y:Hid ((C4.r1:Int)-(C4.r0:Int)+(i:Int)+2=((q+(i+2)-A.from_:Nat):Int)):=Lib.hid (by omega)
           clear e1 e2 e3 e4 e5 e6 e7
           go_quiet (fail)
           rw [Y.out]
           go_wp2_with fail
           go_roundg (T.length+1-(q+(i+2)))
           case measure=>have:=HM2.out;have:=HT1.out;omega
           case rel=>
            have tk1:=TK.out
            rw [HSK.out] at tk1
            have tk2:=tk1.esc HC1.out HD1.out (by rw [HRD.out];exact HR0.out)
            rw [←HSK.out] at tk2
            have hnn:(T.drop su).take (q+i-su)=news:=by
             rw [←HNEWS.out]
             congr 1
             have e1:=ST4.out.rep.at_
             have e2:=ST4.out.rep.le01
             have e4:=HAT.out
             have e5:=TK.out.psu
             have e6:=TK.out.suj
             have e7:=X1.out
             have e8:=HHI.out
             dsimp only at e1
             omega
            rw [hnn,HRD.out] at tk2
            refine ⟨i+2,by omega,q+i+2,E++news++[UInt8.ofNat r],{ C4 with ev:=.slice a6 (n6+1) q6 },b4,cap4,rfl,by rw [HMM.out],by go_num,BV4.out,by have:=HLT4.out;show C4.r1+(i+2)≤C4.bl;omega,by have:=HLT4.out;show C4.r1<C4.bl;omega,HCAP4.out,tk2,?_⟩
            have s8:=S7.out.drewN nq
            rw [List.append_assoc A.esc,List.append_assoc A.esc] at s8
            exact s8
          ·rw [hsk] at c6
           have HSK:=Lib.hid hsk
           clear hsk
           go_wp2_with fail
           go_roundg (T.length+1-(q+(i+2)))
           case measure=>have:=HM2.out;have:=HT1.out;omega
           case rel=>
            have tk1:=TK.out
            rw [HSK.out] at tk1
            have tk2:=tk1.esc_skip HC1.out HD1.out (by rw [HRD.out];exact HR0.out)
            rw [←HSK.out] at tk2
            exact ⟨i+2,by omega,su,E,C4,b4,cap4,rfl,by rw [HMM.out],by go_num,BV4.out,by have:=HLT4.out;omega,by have:=HLT4.out;omega,HCAP4.out,tk2,ST4.out.drewN _⟩
       ·have d1:¬(c.toNat:Int)=92:=fun e=>u8_ne h92 (by show c.toNat=92;omega)
        have H92:=Lib.hid h92
        clear h92
        have hset:=Lib.hid (HS.out.step HH.out ST.out.pas)
        have hcon:=Lib.hid (set_get a S (c.toNat:Int) (by omega) q1 wr hset.out)
        go_wp2_with fail
        refine hcon.out.mono ?_
        rintro e w3 ⟨rfl,rfl⟩
        rw [Int.toNat_natCast]
        clear hcon hset hc2
        cases hp:S c.toNat
        ·have HP:=Lib.hid hp
         clear hp
         have ST3:=Lib.hid (ST.out.trans (adv_step ST.out.rep i HI.out))
         have c3:=ST.out.rep.c3
         have f3:=ST.out.rep.fz 3
         go_wp2_with fail
         go_meet
         case rel=>
          exact ⟨q+i,⟨su,E,{ C3 with r1:=C3.r1+i },rfl,TK.out,by simpa using ST3.out⟩,tok_stop HC1.out H92.out HP.out,by have:=HT1.out;omega⟩
        ·have HP:=Lib.hid hp
         clear hp
         go_wp2_with fail
         go_roundg (T.length+1-(q+(i+1)))
         case measure=>have:=HM2.out;have:=HT1.out;omega
         case rel=>
          have tk2:=TK.out.on HC1.out (tok_on HC1.out H92.out HP.out)
          exact ⟨i+1,by omega,su,E,C3,b,cap,rfl,by rw [HN.out],by go_num,HBV.out,by have:=HN.out;have:=HR.out;omega,HR.out,HCAP.out,tk2,ST.out⟩
      ·have hin:i=n:=by omega
       subst hin
       clear hm hn hbv hi hr hcap tk st e4 e5 e6 e7
       have ST3:=Lib.hid (ST.out.trans (adv_step ST.out.rep i HI.out))
       have c3:=ST.out.rep.c3
       have f3:=ST.out.rep.fz 3
       go_wp2_with fail
       go_roundg (T.length+1-(q+i))
       case measure=>have:=HN.out;have:=HR.out;have:=HQ1.out;have:=HT1.out;omega
       case rel=>
        exact ⟨q+i,by omega,HT1.out,su,E,{ C3 with r1:=C3.r1+i },rfl,TK.out,by simpa using ST3.out⟩
    ·rw [decide_eq_false hmore]
     have HM:=Lib.hid hmore
     clear hmore h1 h2
     go_wp2_with fail
     go_meet
     case rel=>
      exact ⟨q,⟨su,E,C2,rfl,TK.out,ST2.out⟩,tok_end (by have:=HM.out;omega),HQ2.out⟩
 case rest=>
  as_aux_lemma=>
   obtain ⟨q,⟨su,E,C1,rfl,tk,st⟩,hfin,hqT⟩:=hcut
   obtain ⟨hq,hout⟩:=tk.fin hfin
   have TK:=Lib.hid tk
   have ST:=Lib.hid st
   have HQ:=Lib.hid hq
   have HOUT:=Lib.hid hout
   have HQT:=Lib.hid hqT
   clear tk st hfin hq hout hqT c7
   go_upto_region 25 with fail
   go_cut [16] from 169 to 183 (fun v16 wx=>(∃ a n c,v16=.slice a n c∧n=q-A.at_∧n≤c∧Told wc g { A with at_:=q,esc:=A.esc++E } C1 v16 ((T.drop A.at_).take (q-A.at_)))∧∃ m,wx=wc.drewN m)
   case first=>
    have hq:=ST.out.rep
    have c1:=hq.c1
    have c2:=hq.c2
    have c3:=hq.c3
    have e1:=hq.at_
    have e2:=hq.le01
    have e3:=hq.le1
    have e4:=hq.bl_le
    have e5:=HAT.out
    have e6:=TK.out.psu
    have e7:=TK.out.suj
    dsimp only at e1
    obtain ⟨lo,hlo⟩:∃ lo,lo=C1.r0+(A.at_-A.from_):=⟨_,rfl⟩
    have f1:(C1.r0:Int)+((A.at_-A.from_:Nat):Int)=(lo:Int):=by omega
    have f2:C1.r0≤lo:=by omega
    have hk5:lo+(q-A.at_)=C1.r1:=by omega
    have f3:(C1.r1:Int)≤5000:=by omega
    have f4:(C1.r0:Int)≤5000:=by omega
    have f5:(lo:Int)≤(C1.r1:Int):=by omega
    have f6:lo≤C1.r1:=by omega
    have HK5:=Lib.hid hk5
    rcases hq.form with ⟨hv0,h0⟩ | ⟨b,cap,hbv,hcap,hmx,_,_⟩
    ·have z1:C1.r1=0:=by omega
     have z2:lo=0:=by omega
     have z3:q-A.at_=0:=by omega
     have z4:C1.r0=0:=by omega
     have z5:A.at_-A.from_=0:=by omega
     rw [hv0] at c1
     rw [z1] at c3
     have f1':(C1.r0:Int)+((A.at_-A.from_:Nat):Int)=0:=by omega
     have HZ:=Lib.hid z3
     clear hq e1 e2 e3 e4 e5 e6 e7 f1 f2 f3 f4 f5 f6 hk5 hlo z1 z2 z3 z4 z5
     go_quiet (fail)
     go_wp2
     go_meet
     exact ⟨⟨none,0,0,rfl,HZ.out.symm,Nat.le_refl _,by rw [HZ.out,List.take_zero];exact Told.nil none 0⟩,_,rfl⟩
    ·rw [hbv] at c1
     unfold maxLen at hmx
     have f7:(C1.r1:Int)≤(cap:Int):=by omega
     have f8:C1.r1≤cap:=by omega
     have HBV:=Lib.hid hbv
     have HE1:=Lib.hid e1
     by_cases hk0:q-A.at_=0
     ·have z1:lo=C1.r1:=by omega
      subst z1
      have HZ:=Lib.hid hk0
      clear hq e1 e2 e3 e4 e5 e6 e7 f2 f5 f6 hk5 hlo hbv hcap hk0
      go_quiet (fail)
      go_wp2
      all_goals
       go_meet
       exact ⟨⟨_,_,_,rfl,by rw [HZ.out];try omega,by omega,by rw [HZ.out,List.take_zero];first | exact Told.nil _ _ | (rw [Nat.sub_self];exact Told.nil _ _)⟩,_,rfl⟩
     ·have f9:lo<C1.r1:=by omega
      have f10:¬cap=lo:=by omega
      have f11:C1.r1-lo=q-A.at_:=by omega
      have HLO:=Lib.hid hlo
      have told:=hq.told (c:=cap-lo) hbv (lo:=lo) (k:=q-A.at_) f2 (by omega)
      rw [show A.from_+(lo-C1.r0)=A.at_ by omega] at told
      have TOLD:=Lib.hid told
      have HKC:Hid (q-A.at_≤cap-lo):=Lib.hid (by omega)
      clear told
      clear hq e1 e2 e3 e4 e5 e6 e7 f2 hk5 hlo hbv hcap hk0
      go_quiet (fail)
      go_wp2
      go_meet
      exact ⟨⟨_,_,_,rfl,rfl,HKC.out,TOLD.out⟩,_,rfl⟩
   case rest=>
    obtain ⟨⟨va,vn,vc,rfl,hvn,hvc,htold⟩,m1,rfl⟩:=hcut
    have HVN:=Lib.hid hvn
    have HVC:=Lib.hid hvc
    have TOLD:=Lib.hid htold
    clear hvn hvc htold
    have hcon:=Lib.hid (set_get a S 10 (by omega) (by omega) (wc.drewN m1) ((HS.out.step HH.out ST.out.pas).of_block rfl))
    go_wp2_with fail
    refine hcon.out.mono ?_
    rintro e w3 ⟨rfl,rfl⟩
    clear hcon
    rw [show (10:Int).toNat=10 from rfl]
    go_upto_if 185 with fail
    go_cut [] from 185 to 194 (fun wx=>∃ A1,Step w B g T A C wx A1 C1∧A1.at_=q∧A1.from_=A.from_∧A1.skip=A.skip∧A1.part=A.part∧A1.esc=A.esc++E∧A1.line=1+lfs (T.take q)∧Told wx g A1 C1 (.slice va vn vc) ((T.drop A.at_).take (q-A.at_)))
    case first=>
     cases hs10:S 10
     ·have HS10:=Lib.hid hs10
      go_wp2_with fail
      go_meet
      refine ⟨{ A with at_:=q,esc:=A.esc++E },ST.out.drewN m1,rfl,rfl,rfl,rfl,rfl,?_,TOLD.out.of_heap rfl⟩
      show A.line=_
      rw [HLN.out,HQ.out,lfs_take_add,lfs_tok S R HS10.out (HSR.out HS10.out),Nat.add_zero]
     ·have HS10:=Lib.hid hs10
      have c8:=ST.out.rep.c8
      have f8:=ST.out.rep.fz 8
      dsimp only at c8
      have hlq:A.line+lfs ((T.drop A.at_).take (q-A.at_))=1+lfs (T.take q):=by
       have:=lfs_take_add T A.at_ (q-A.at_)
       have e5:=TK.out.psu
       have e6:=TK.out.suj
       rw [show A.at_+(q-A.at_)=q by omega] at this
       rw [HLN.out,this]
       omega
      have hraw:((T.drop A.at_).take (q-A.at_)).length=vn:=by
       have e5:=TK.out.psu
       have e6:=TK.out.suj
       have e7:=HQT.out
       have e8:=HVN.out
       rw [List.length_take,List.length_drop]
       omega
      have hlb:=lfs_take_le T q
      have hbg:=HBIG.out
      have hqt:=HQT.out
      obtain ⟨L9,hL9⟩:∃ L9,1+lfs (T.take q)=L9:=⟨_,rfl⟩
      rw [hL9] at hlq
      have HL9:=Lib.hid hL9
      have W1:IntKind.i64.wrap ((A.line:Int)+(lfs ((T.drop A.at_).take (q-A.at_)):Int))=(L9:Int):=by rw [IntWalk.i64_in _ (by omega)];omega
      have HLB:Hid (L9≤1000000000):=Lib.hid (by omega)
      have HVLEN:Hid (vn≤1000):=Lib.hid (by have:=HVN.out;omega)
      generalize hL:(T.drop A.at_).take (q-A.at_)=L at *
      have HL:=Lib.hid hL
      have hcnt:=Lib.hid (count_calls (w:=(wc.drewN m1).drew) (A0:=va) (c0:=vc) L hraw.symm (by have:=HVLEN.out;omega) ((TOLD.out.of_heap (w':=(wc.drewN m1).drew) rfl).kd (by have:=HVLEN.out;omega)).2 HVC.out)
      clear hL9 hL hraw hlb hbg hqt hlq
      go_wp2_with fail
      refine start_ (n:=10) (S:=fun w'=>∃ kk,w'=(wc.drewN m1).drew.drewN kk) (ds:=[9]) (bA 10 0) (by kernel_rfl) rfl rfl ⟨0,rfl⟩ (fun _=>?_)
      refine pure_ (i:=0) (N:=some 186) (v:=?_) (a':=?_) (bA 10 1) rfl rfl (by kernel_rfl) (fun _ _ _ h=>h) (Or.inl ⟨by rfl,?_⟩) ?_ ?_
      rotate_left
      ·intro w';go_simp;with_reducible rfl
      rotate_left
      ·simp only [Act.put,aA,aB,aC,W1];rfl
      refine pure_ (i:=1) (N:=some 187) (v:=?_) (a':=?_) (bA 10 3) rfl rfl (by kernel_rfl) (fun _ _ _ h=>h) (Or.inl ⟨by rfl,?_⟩) ?_ ?_
      rotate_left
      ·intro w';go_simp;with_reducible rfl
      rotate_left
      ·simp only [Act.put,aA,aB,aC,W1];rfl
      refine pure_ (i:=2) (N:=some 188) (v:=?_) (a':=?_) (bA 10 7) rfl rfl (by kernel_rfl) (fun _ _ _ h=>h) (Or.inl ⟨by rfl,?_⟩) ?_ ?_
      rotate_left
      ·intro w';go_simp;with_reducible rfl
      rotate_left
      ·simp only [Act.put,aA,aB,aC,W1];rfl
      refine take_ (i:=3) (N:=some 189) (v:=?_) (a':=?_) (bA 10 15) rfl rfl (by kernel_rfl) (fun _ _ _ h=>h) (Or.inl ⟨by rfl,?_⟩) ⟨0,rfl⟩ ?_ ?_
      rotate_left
      ·rintro w' ⟨kk,rfl⟩;go_simp;with_reducible rfl
      rotate_left
      ·simp only [Act.put,aA,aB,aC,W1];rfl
      refine pure_ (i:=4) (N:=some 190) (v:=?_) (a':=?_) (bA 10 31) rfl rfl (by kernel_rfl) (fun _ _ _ h=>h) (Or.inl ⟨by rfl,?_⟩) ?_ ?_
      rotate_left
      ·intro w';go_simp;with_reducible rfl
      rotate_left
      ·simp only [Act.put,aA,aB,aC,W1];rfl
      refine one_ (i:=5) (N:=some 191) (bA 10 63) rfl rfl (by kernel_rfl) (by decide) (fun K hK=>?_)
      refine call_ 104 #[.slice va vn vc,.int .u8 10] (by rfl) rfl (by go_simp) ?_
      refine (show Calls Tryz.prog 104 _ (wc.drewN m1).drew _ from hcnt.out).mono ?_
      rintro e w4 ⟨rfl,k4,rfl⟩
      refine ⟨_,rfl,hK.out _ _ ⟨k4,rfl⟩ (fun _=>?_)⟩
      clear hK K
      refine pure_ (i:=6) (N:=some 192) (v:=?_) (a':=?_) (bA 10 127) rfl rfl (by kernel_rfl) (fun _ _ _ h=>h) (Or.inl ⟨by rfl,?_⟩) ?_ ?_
      rotate_left
      ·intro w';go_simp;with_reducible rfl
      rotate_left
      ·simp only [Act.put,aA,aB,aC,W1];rfl
      refine pure_ (i:=7) (N:=some 193) (v:=?_) (a':=?_) (bA 10 255) rfl rfl (by kernel_rfl) (fun _ _ _ h=>h) (Or.inl ⟨by rfl,?_⟩) ?_ ?_
      rotate_left
      ·intro w';go_simp;with_reducible rfl
      rotate_left
      ·simp only [Act.put,aA,aB,aC,W1];rfl
      refine pure_ (i:=8) (N:=some 194) (v:=?_) (a':=?_) (bA 10 511) rfl rfl (by kernel_rfl) (fun _ _ _ h=>h) (Or.inl ⟨by rfl,?_⟩) ?_ ?_
      rotate_left
      ·intro w';go_simp;with_reducible rfl
      rotate_left
      ·simp only [Act.put,aA,aB,aC,W1];rfl
      refine last_ (i:=9) (N:=none) (bA 10 1023) rfl rfl (by kernel_rfl) (by decide) (fun K hK=>?_)
      refine skip_ (w1:=?_) (by rfl) rfl ?_ ?_
      rotate_left
      ·go_simp
       rfl
      refine hK.out _ _ ?_
      clear hK K
      refine done_ (by kernel_rfl) ?_
      have S9:=Lib.hid (ST.out.drewN (m1+1+k4))
      have s10:=S9.out.rep.setg (A':={ A with at_:=q,esc:=A.esc++E,line:=L9 }) (C':=C1) 8 (.int .i64 (L9:Int)) (by simp [dcells]) ⟨rfl,rfl,rfl,rfl,rfl,rfl,rfl,rfl,rfl⟩ S9.out.rep.le01 S9.out.rep.le1 S9.out.rep.at_ HLB.out S9.out.rep.prt S9.out.rep.escL
      have T10:=Lib.hid ((TOLD.out.of_heap (w':=(wc.drewN (m1+1+k4))) rfl).stay s10.stay s10.pas.only.size)
      have S10:=Lib.hid (S9.out.trans s10)
      clear s10 S9
      revert S10 T10
      generalize ((wc.drewN (m1+1+k4)).setCell ⟨g,8,none⟩ (.int .i64 (L9:Int)))=w9
      intro T10 S10
      clear hcnt c8 f8 W1
      go_wp2_with fail
      go_meet
      exact ⟨_,S10.out,rfl,rfl,rfl,rfl,rfl,HL9.out.symm,T10.out⟩
    case rest=>
     obtain ⟨A1,st1,a1,a2,a3,a4,a5',a6,told1⟩:=hcut
     obtain ⟨eb1,ec1,hev1,hec1,hem1⟩:=st1.rep.ev_form
     have c7:=st1.rep.c7
     rw [hev1] at c7
     obtain ⟨n1,hn1⟩:∃ n1,A1.esc.length=n1:=⟨_,rfl⟩
     rw [hn1] at c7
     have hnE:A.esc.length+E.length=n1:=by rw [←hn1,a5',List.length_append]
     have hn1b:n1≤1000:=by rw [←hn1];exact st1.rep.escL
     have ST1:=Lib.hid st1
     have X2:Hid (C1.ev=.slice (some ⟨eb1,0,none⟩) n1 ec1):=Lib.hid (by rw [←hn1];exact hev1)
     have TOLD1:=Lib.hid told1
     have XA:=Lib.hid (And.intro a1 (And.intro a2 (And.intro a3 (And.intro a4 (And.intro a5' a6)))))
     have HN1:=Lib.hid hn1
     have HNE:=Lib.hid hnE
     have q0:(n1:Int)≤1000:=by omega
     have q1:(A.esc.length:Int)≤(n1:Int):=by omega
     clear st1 a1 a2 a3 a4 a5' a6 told1 hev1 hec1 hem1 hn1 TOLD
     go_upto_if 201 with fail
     go_cut [16] from 201 to 230 (fun v16 wx=>EscTook w B g T A C S R v16 wx)
     case first=>
      by_cases hE:E=[]
      ·have q2:(n1:Int)≤(A.esc.length:Int):=by rw [hE] at hnE;simp at hnE;omega
       have q3:¬(A.esc.length:Int)<(n1:Int):=by omega
       have HEE:=Lib.hid hE
       clear hE hnE q1
       go_wp2_with fail
       go_meet
       have hsu:=TK.out.emp HEE.out
       have e5:=TK.out.psu
       have e6:=TK.out.suj
       have e7:=HQT.out
       have e8:=HQ.out
       have hV:tokV S R T A=(T.drop A.at_).take (q-A.at_):=by
        unfold tokV
        split
        ·rw [show (tok S R (T.drop A.at_)).1=q-A.at_ by omega]
        ·next hns=>
         rw [HOUT.out (by simpa using hns),HEE.out,hsu]
         rfl
       obtain ⟨a1,a2,a3,a4,a5',a6⟩:=XA.out
       refine ⟨A1,C1,va,vn,vc,rfl,?_,HVC.out,ST1.out,by rw [a1];exact e8,a2,a3,a4,by rw [a6,a1],?_,by rw [hV];exact TOLD1.out⟩
       ·rw [hV,List.length_take,List.length_drop,HVN.out];omega
       ·have:=HEL.out
        rw [HN1.out,a2,a1]
        omega
      ·have hsk:A.skip=false:=by
        cases h:A.skip
        ·rfl
        ·exact absurd (TK.out.sk h) hE
       have hEl:0<E.length:=List.length_pos_iff.2 hE
       have q2:(A.esc.length:Int)<(n1:Int):=by omega
       have hq4:=ST1.out.rep
       obtain ⟨a1,a2,a3,a4,a5',a6⟩:=XA.out
       have tk0:=TK.out
       have c1:=hq4.c1
       have c2:=hq4.c2
       have c3:=hq4.c3
       have f7:=hq4.fz 7
       have e1:=hq4.at_
       have e2:=hq4.le01
       have e2':=hq4.le1
       have e3:=hq4.bl_le
       have e5:=tk0.psu
       have e6:=tk0.suj
       have e4:=tk0.len
       have e9:=HAT.out
       rw [a1,a2] at e1
       rcases hq4.form with ⟨hv0,h0⟩ | ⟨b,cap,hbv,hcap,hmx,_,_⟩
       ·omega
       rw [hbv] at c1
       unfold maxLen at hmx
       obtain ⟨lo,hlo⟩:∃ lo,C1.r0+(su-A.from_)=lo:=⟨_,rfl⟩
       obtain ⟨hi,hhi⟩:∃ hi,C1.r1=hi:=⟨_,rfl⟩
       rw [hhi] at c3
       have W1:IntKind.i64.wrap (((su-A.from_:Nat):Int)+(C1.r0:Int))=(lo:Int):=by rw [IntWalk.i64_in _ (by omega)];omega
       have x2:lo≤hi:=by omega
       have x3:(lo:Int)≤(hi:Int):=by omega
       have x5:hi≤cap:=by omega
       have x6:(hi:Int)≤(cap:Int):=by omega
       have x7:0≤(hi:Int):=by omega
       have x8:0≤(lo:Int):=by omega
       have x9:max (hi:Int) 0=hi:=by omega
       have e10:A1.from_≤su:=by omega
       obtain ⟨seg1,seg2⟩:=ST1.out.drew.rep.seg (lo:=lo) hbv e10 (by rw [a2];exact hlo) (k:=hi-lo) (by omega)
       obtain ⟨news,hnews⟩:∃ l,(T.drop su).take (hi-lo)=l:=⟨_,rfl⟩
       rw [hnews] at seg1 seg2
       have hqs:q-su=hi-lo:=by omega
       have own4:=ST1.out.drew.rep.esc
       rw [X2.out,HN1.out] at own4
       have hnl:news.length=hi-lo:=by rw [List.length_map] at seg1;omega
       have OWN:=Lib.hid own4
       have NL:=Lib.hid seg1
       have NLL:=Lib.hid hnl
       have NM:Hid (n1+(hi-lo)≤maxLen):=Lib.hid (by unfold maxLen;omega)
       have NB:Hid ((n1+(hi-lo))*1≤140737488355328):=Lib.hid (by omega)
       have BASE:Hid (B≤wc.drew.heap.size):=Lib.hid (by have:=hq4.base;have:=hq4.lt;show B≤wc.heap.size;omega)
       have HNEWS:Hid ((T.drop su).take (q-su)=news):=Lib.hid (by rw [hqs];exact hnews)
       have LEN:Hid (n1+(hi-lo)≤q-A.from_):=Lib.hid (by have:=HEL.out;omega)
       have HSK:=Lib.hid hsk
       have HE0:=Lib.hid hEl
       clear own4 hnews e10 hqs hnl tk0 hq4 e1 e2 e2' e3 e4 e5 e6 e9 hlo hhi hcap hmx a1 a2 a3 a4 a5' a6 hE hEl hnE hbv TOLD1 seg1 hsk
       by_cases x4:cap=lo
       ·obtain rfl:hi=lo:=by omega
        subst x4
        obtain rfl:news=[]:=List.eq_nil_of_length_eq_zero (by have:=NLL.out;omega)
        have NLL:Hid (([]:List UInt8).length=0):=Lib.hid rfl
        have NM:Hid (n1+0≤maxLen):=Lib.hid (by unfold maxLen;omega)
        have NB:Hid ((n1+0)*1≤140737488355328):=Lib.hid (by omega)
        have LEN:Hid (n1+0≤q-A.from_):=Lib.hid (by have:=LEN.out;omega)
        have NC:Hid True:=Lib.hid trivial
        clear seg2
        go_wp2_with fail
        refine start_ (n:=24) (S:=fun w'=>w'=(wc).drew) (ds:=[20,23]) (bA 24 0) (by kernel_rfl) rfl rfl rfl (fun _=>?_)
        refine pure_ (i:=0) (N:=some 202) (v:=?_) (a':=?_) (bA 24 1) rfl rfl (by kernel_rfl) (fun _ _ _ h=>h) (Or.inl ⟨by rfl,?_⟩) ?_ ?_
        rotate_left
        ·intro w';go_simp;with_reducible rfl
        rotate_left
        ·simp only [Act.put,aA,aB,aC,W1];rfl
        refine pure_ (i:=1) (N:=some 203) (v:=?_) (a':=?_) (bA 24 3) rfl rfl (by kernel_rfl) (fun _ _ _ h=>h) (Or.inl ⟨by rfl,?_⟩) ?_ ?_
        rotate_left
        ·intro w';go_simp;with_reducible rfl
        rotate_left
        ·simp only [Act.put,aA,aB,aC,W1];rfl
        refine pure_ (i:=2) (N:=some 204) (v:=?_) (a':=?_) (bA 24 7) rfl rfl (by kernel_rfl) (fun _ _ _ h=>h) (Or.inl ⟨by rfl,?_⟩) ?_ ?_
        rotate_left
        ·intro w';go_simp;with_reducible rfl
        rotate_left
        ·simp only [Act.put,aA,aB,aC,W1];rfl
        refine pure_ (i:=3) (N:=some 205) (v:=?_) (a':=?_) (bA 24 15) rfl rfl (by kernel_rfl) (fun _ _ _ h=>h) (Or.inl ⟨by rfl,?_⟩) ?_ ?_
        rotate_left
        ·intro w';go_simp;with_reducible rfl
        rotate_left
        ·simp only [Act.put,aA,aB,aC,W1];rfl
        refine take_ (i:=4) (N:=some 206) (v:=?_) (a':=?_) (bA 24 31) rfl rfl (by kernel_rfl) (fun _ _ _ h=>h) (Or.inl ⟨by rfl,?_⟩) rfl ?_ ?_
        rotate_left
        ·rintro w' rfl;go_simp;with_reducible rfl
        rotate_left
        ·simp only [Act.put,aA,aB,aC,W1];rfl
        refine pure_ (i:=5) (N:=some 207) (v:=?_) (a':=?_) (bA 24 63) rfl rfl (by kernel_rfl) (fun _ _ _ h=>h) (Or.inl ⟨by rfl,?_⟩) ?_ ?_
        rotate_left
        ·intro w';go_simp;with_reducible rfl
        rotate_left
        ·simp only [Act.put,aA,aB,aC,W1];rfl
        refine pure_ (i:=6) (N:=some 208) (v:=?_) (a':=?_) (bA 24 127) rfl rfl (by kernel_rfl) (fun _ _ _ h=>h) (Or.inl ⟨by rfl,?_⟩) ?_ ?_
        rotate_left
        ·intro w';go_simp;with_reducible rfl
        rotate_left
        ·simp only [Act.put,aA,aB,aC,W1];rfl
        refine pure_ (i:=7) (N:=some 209) (v:=?_) (a':=?_) (bA 24 255) rfl rfl (by kernel_rfl) (fun _ _ _ h=>h) (Or.inl ⟨by rfl,?_⟩) ?_ ?_
        rotate_left
        ·intro w';go_simp;with_reducible rfl
        rotate_left
        ·simp only [Act.put,aA,aB,aC,W1];rfl
        refine take_ (i:=8) (N:=some 210) (v:=?_) (a':=?_) (bA 24 511) rfl rfl (by kernel_rfl) (fun _ _ _ h=>h) (Or.inl ⟨by rfl,?_⟩) rfl ?_ ?_
        rotate_left
        ·rintro w' rfl;go_simp;with_reducible rfl
        rotate_left
        ·simp only [Act.put,aA,aB,aC,W1];rfl
        refine pure_ (i:=9) (N:=some 211) (v:=?_) (a':=?_) (bA 24 1023) rfl rfl (by kernel_rfl) (fun _ _ _ h=>h) (Or.inl ⟨by rfl,?_⟩) ?_ ?_
        rotate_left
        ·intro w';go_simp;with_reducible rfl
        rotate_left
        ·simp only [Act.put,aA,aB,aC,W1];rfl
        refine pure_ (i:=10) (N:=some 212) (v:=?_) (a':=?_) (bA 24 2047) rfl rfl (by kernel_rfl) (fun _ _ _ h=>h) (Or.inl ⟨by rfl,?_⟩) ?_ ?_
        rotate_left
        ·intro w';go_simp;with_reducible rfl
        rotate_left
        ·simp only [Act.put,aA,aB,aC,W1];rfl
        refine pure_ (i:=11) (N:=some 213) (v:=?_) (a':=?_) (bA 24 4095) rfl rfl (by kernel_rfl) (fun _ _ _ h=>h) (Or.inl ⟨by rfl,?_⟩) ?_ ?_
        rotate_left
        ·intro w';go_simp;with_reducible rfl
        rotate_left
        ·simp only [Act.put,aA,aB,aC,W1];rfl
        refine pure_ (i:=12) (N:=some 214) (v:=?_) (a':=?_) (bA 24 8191) rfl rfl (by kernel_rfl) (fun _ _ _ h=>h) (Or.inl ⟨by rfl,?_⟩) ?_ ?_
        rotate_left
        ·intro w';go_simp;with_reducible rfl
        rotate_left
        ·simp only [Act.put,aA,aB,aC,W1];rfl
        refine take_ (i:=13) (N:=some 215) (v:=?_) (a':=?_) (bA 24 16383) rfl rfl (by kernel_rfl) (fun _ _ _ h=>h) (Or.inl ⟨by rfl,?_⟩) rfl ?_ ?_
        rotate_left
        ·rintro w' rfl;go_simp;with_reducible rfl
        rotate_left
        ·simp only [Act.put,aA,aB,aC,W1];rfl
        refine pure_ (i:=14) (N:=some 216) (v:=?_) (a':=?_) (bA 24 32767) rfl rfl (by kernel_rfl) (fun _ _ _ h=>h) (Or.inl ⟨by rfl,?_⟩) ?_ ?_
        rotate_left
        ·intro w';go_simp;with_reducible rfl
        rotate_left
        ·simp only [Act.put,aA,aB,aC,W1];rfl
        refine pure_ (i:=15) (N:=some 217) (v:=?_) (a':=?_) (bA 24 65535) rfl rfl (by kernel_rfl) (fun _ _ _ h=>h) (Or.inl ⟨by rfl,?_⟩) ?_ ?_
        rotate_left
        ·intro w';go_simp;with_reducible rfl
        rotate_left
        ·simp only [Act.put,aA,aB,aC,W1];rfl
        refine pure_ (i:=16) (N:=some 218) (v:=?_) (a':=?_) (bA 24 131071) rfl rfl (by kernel_rfl) (fun _ _ _ h=>h) (Or.inl ⟨by rfl,?_⟩) ?_ ?_
        rotate_left
        ·intro w';go_simp;with_reducible rfl
        rotate_left
        ·simp only [Act.put,aA,aB,aC,W1];rfl
        refine pure_ (i:=17) (N:=some 219) (v:=?_) (a':=?_) (bA 24 262143) rfl rfl (by kernel_rfl) (fun _ _ _ h=>h) (Or.inl ⟨by rfl,?_⟩) ?_ ?_
        rotate_left
        ·intro w';go_simp;with_reducible rfl
        rotate_left
        ·simp only [Act.put,aA,aB,aC,W1];rfl
        refine take_ (i:=18) (N:=some 220) (v:=?_) (a':=?_) (bA 24 524287) rfl rfl (by kernel_rfl) (fun _ _ _ h=>h) (Or.inl ⟨by rfl,?_⟩) rfl ?_ ?_
        rotate_left
        ·rintro w' rfl;go_simp;with_reducible rfl
        rotate_left
        ·simp only [Act.put,aA,aB,aC,W1];rfl
        refine pure_ (i:=19) (N:=some 221) (v:=?_) (a':=?_) (bA 24 1048575) rfl rfl (by kernel_rfl) (fun _ _ _ h=>h) (Or.inl ⟨by rfl,?_⟩) ?_ ?_
        rotate_left
        ·intro w';go_simp;with_reducible rfl
        rotate_left
        ·simp only [Act.put,aA,aB,aC,W1];rfl
        refine last_ (i:=20) (N:=some 222) (bA 24 2097151) rfl rfl (by kernel_rfl) (by decide) (fun K hK=>?_)
        obtain ⟨i5,hi5,hz5,hs5,hb5⟩:=info5
        refine app_ (P:=Tryz.prog) (by rfl) rfl (.tmp 206) (.tmp 221) 54 rfl B 5 i5 (.int .u8 0) 1 Tryz.underlying54 hi5 hz5 hs5 hb5 rfl (.slice (some ⟨eb1,0,none⟩) n1 ec1) n1 _ (by go_simp) OWN.out ⟨b,0,none⟩ 0 0 [] (by go_simp) rfl (fun j u hj=>by simp at hj) (fun u hu=>by cases hu) NM.out NB.out BASE.out ?_
        intro v5 w5 o1 o2 o3 o4
        have hg5:=blk_only ST1.out.drew.rep.blk ((Only.refl (fun k=>(Value.slice (some ⟨eb1,0,none⟩) n1 ec1).ownBlock=some k) _).grown o2 fun k hk=>.inl hk) (by rw [←X2.out];exact ST1.out.rep.gne')
        obtain ⟨n5,hn5⟩:∃ n5,n1+0=n5:=⟨_,rfl⟩
        rw [hn5] at o1
        obtain ⟨a5,c5,rfl⟩:=own_slice o1
        have c57:w5.cell? ⟨g,7,none⟩=some C1.ev:=blk_cell hg5 7
        have f57:=blk_frozen hg5 7
        rw [X2.out] at c57
        refine hK.out _ _ ?_
        clear hK K
        refine pure_ (i:=21) (N:=some 223) (v:=?_) (a':=?_) (bA 24 4194303) rfl rfl (by kernel_rfl) (fun _ _ _ h=>h) (Or.inl ⟨by rfl,?_⟩) ?_ ?_
        rotate_left
        ·intro w';go_simp;with_reducible rfl
        rotate_left
        ·simp only [Act.put,aA,aB,aC,W1];rfl
        refine pure_ (i:=22) (N:=some 224) (v:=?_) (a':=?_) (bA 24 8388607) rfl rfl (by kernel_rfl) (fun _ _ _ h=>h) (Or.inl ⟨by rfl,?_⟩) ?_ ?_
        rotate_left
        ·intro w';go_simp;with_reducible rfl
        rotate_left
        ·simp only [Act.put,aA,aB,aC,W1];rfl
        refine last_ (i:=23) (N:=none) (bA 24 16777215) rfl rfl (by kernel_rfl) (by decide) (fun K hK=>?_)
        refine skip_ (w1:=?_) (by rfl) rfl ?_ ?_
        rotate_left
        ·go_simp
         rfl
        refine hK.out _ _ ?_
        clear hK K
        refine done_ (by kernel_rfl) ?_
        have HN5:=Lib.hid hn5
        have hl5:A1.esc.length+([]:List UInt8).length≤1000:=by
         have h1:=NLL.out
         have h2:=HN1.out
         have h3:=LEN.out
         have h4:=HQT.out
         have h5:=HBIG.out
         omega
        have S5:=Lib.hid (ST1.out.drew.trans (esc_step ST1.out.drew.rep ([]:List UInt8) (.slice a5 n5 c5) (by rw [HN1.out,NLL.out,hn5];exact o1) (by rw [X2.out];exact o2) (by rw [X2.out,HN1.out];exact o3) (by rw [X2.out];exact o4) hl5))
        have x4:=0
        clear o1 o2 o3 o4 hg5 c57 f57 OWN NC NM NB BASE hi5 hz5 hs5 hb5 c1 c2 c3 c7 f7 W1 x2 x3 x5 x6 x7 x8 x9 x4 hl5
        revert S5
        generalize w5.setCell ⟨g,7,none⟩ (.slice a5 n5 c5)=w6
        intro S5
        have c7':=S5.out.rep.c7
        dsimp only at c7'
        obtain ⟨e5b,e5c,hev5,hec5,hem5⟩:=S5.out.rep.ev_form
        dsimp only at hev5 hec5
        have hel5:(A1.esc++([]:List UInt8)).length=n5:=by rw [List.length_append,HN1.out,NLL.out,hn5]
        rw [hel5] at hev5 hec5
        injection hev5 with r1 r2 r3
        subst r1
        subst r3
        unfold maxLen at hem5
        have y1:A.esc.length<n5:=by have:=HNE.out;have:=HE0.out;omega
        have y2:(A.esc.length:Int)≤(n5:Int):=by omega
        have y3:A.esc.length≤n5:=by omega
        have y4:¬c5=A.esc.length:=by omega
        have y5:(n5:Int)≤(c5:Int):=by omega
        have y6:n5≤c5:=by omega
        have HEL5:=Lib.hid hel5
        clear hel5 hec5 hn5
        go_wp2_with fail
        go_meet
        obtain ⟨a1,a2,a3,a4,a5',a6⟩:=XA.out
        have hV:tokV S R T A=(A1.esc++([]:List UInt8)).drop A.esc.length:=by
         unfold tokV
         rw [HSK.out,if_neg (by decide),HOUT.out HSK.out,HNEWS.out,a5',List.append_assoc,List.drop_left]
        have e8:=HQ.out
        refine ⟨{ A1 with esc:=A1.esc++([]:List UInt8) },{ C1 with ev:=.slice (some ⟨e5b,0,none⟩) n5 c5 },some ⟨e5b,A.esc.length,none⟩,n5-A.esc.length,c5-A.esc.length,rfl,?_,by omega,S5.out,by rw [←e8];exact a1,a2,a3,a4,by show A1.line=_;rw [a6];show _=1+lfs (T.take A1.at_);rw [a1],?_,?_⟩
        ·rw [hV,List.length_drop,HEL5.out]
        ·show (A1.esc++([]:List UInt8)).length+A1.from_≤A1.at_
         have:=LEN.out
         have:=HAT.out
         have:=HN5.out
         have:=TK.out.psu
         have:=TK.out.suj
         rw [HEL5.out,a2,a1]
         omega
        ·rw [hV]
         have:=S5.out.rep.told_esc (eb:=e5b) (ec:=c5) (k:=A.esc.length) (c:=c5-A.esc.length) (by show Value.slice _ _ _=_;rw [HEL5.out]) (by show _≤(A1.esc++([]:List UInt8)).length;rw [HEL5.out];omega)
         dsimp only at this
         rw [HEL5.out] at this
         exact this
       ·have NC:=Lib.hid seg2
        clear seg2
        go_wp2_with fail
        refine start_ (n:=24) (S:=fun w'=>w'=(wc).drew) (ds:=[20,23]) (bA 24 0) (by kernel_rfl) rfl rfl rfl (fun _=>?_)
        refine pure_ (i:=0) (N:=some 202) (v:=?_) (a':=?_) (bA 24 1) rfl rfl (by kernel_rfl) (fun _ _ _ h=>h) (Or.inl ⟨by rfl,?_⟩) ?_ ?_
        rotate_left
        ·intro w';go_simp;with_reducible rfl
        rotate_left
        ·simp only [Act.put,aA,aB,aC,W1];rfl
        refine pure_ (i:=1) (N:=some 203) (v:=?_) (a':=?_) (bA 24 3) rfl rfl (by kernel_rfl) (fun _ _ _ h=>h) (Or.inl ⟨by rfl,?_⟩) ?_ ?_
        rotate_left
        ·intro w';go_simp;with_reducible rfl
        rotate_left
        ·simp only [Act.put,aA,aB,aC,W1];rfl
        refine pure_ (i:=2) (N:=some 204) (v:=?_) (a':=?_) (bA 24 7) rfl rfl (by kernel_rfl) (fun _ _ _ h=>h) (Or.inl ⟨by rfl,?_⟩) ?_ ?_
        rotate_left
        ·intro w';go_simp;with_reducible rfl
        rotate_left
        ·simp only [Act.put,aA,aB,aC,W1];rfl
        refine pure_ (i:=3) (N:=some 205) (v:=?_) (a':=?_) (bA 24 15) rfl rfl (by kernel_rfl) (fun _ _ _ h=>h) (Or.inl ⟨by rfl,?_⟩) ?_ ?_
        rotate_left
        ·intro w';go_simp;with_reducible rfl
        rotate_left
        ·simp only [Act.put,aA,aB,aC,W1];rfl
        refine take_ (i:=4) (N:=some 206) (v:=?_) (a':=?_) (bA 24 31) rfl rfl (by kernel_rfl) (fun _ _ _ h=>h) (Or.inl ⟨by rfl,?_⟩) rfl ?_ ?_
        rotate_left
        ·rintro w' rfl;go_simp;with_reducible rfl
        rotate_left
        ·simp only [Act.put,aA,aB,aC,W1];rfl
        refine pure_ (i:=5) (N:=some 207) (v:=?_) (a':=?_) (bA 24 63) rfl rfl (by kernel_rfl) (fun _ _ _ h=>h) (Or.inl ⟨by rfl,?_⟩) ?_ ?_
        rotate_left
        ·intro w';go_simp;with_reducible rfl
        rotate_left
        ·simp only [Act.put,aA,aB,aC,W1];rfl
        refine pure_ (i:=6) (N:=some 208) (v:=?_) (a':=?_) (bA 24 127) rfl rfl (by kernel_rfl) (fun _ _ _ h=>h) (Or.inl ⟨by rfl,?_⟩) ?_ ?_
        rotate_left
        ·intro w';go_simp;with_reducible rfl
        rotate_left
        ·simp only [Act.put,aA,aB,aC,W1];rfl
        refine pure_ (i:=7) (N:=some 209) (v:=?_) (a':=?_) (bA 24 255) rfl rfl (by kernel_rfl) (fun _ _ _ h=>h) (Or.inl ⟨by rfl,?_⟩) ?_ ?_
        rotate_left
        ·intro w';go_simp;with_reducible rfl
        rotate_left
        ·simp only [Act.put,aA,aB,aC,W1];rfl
        refine take_ (i:=8) (N:=some 210) (v:=?_) (a':=?_) (bA 24 511) rfl rfl (by kernel_rfl) (fun _ _ _ h=>h) (Or.inl ⟨by rfl,?_⟩) rfl ?_ ?_
        rotate_left
        ·rintro w' rfl;go_simp;with_reducible rfl
        rotate_left
        ·simp only [Act.put,aA,aB,aC,W1];rfl
        refine pure_ (i:=9) (N:=some 211) (v:=?_) (a':=?_) (bA 24 1023) rfl rfl (by kernel_rfl) (fun _ _ _ h=>h) (Or.inl ⟨by rfl,?_⟩) ?_ ?_
        rotate_left
        ·intro w';go_simp;with_reducible rfl
        rotate_left
        ·simp only [Act.put,aA,aB,aC,W1];rfl
        refine pure_ (i:=10) (N:=some 212) (v:=?_) (a':=?_) (bA 24 2047) rfl rfl (by kernel_rfl) (fun _ _ _ h=>h) (Or.inl ⟨by rfl,?_⟩) ?_ ?_
        rotate_left
        ·intro w';go_simp;with_reducible rfl
        rotate_left
        ·simp only [Act.put,aA,aB,aC,W1];rfl
        refine pure_ (i:=11) (N:=some 213) (v:=?_) (a':=?_) (bA 24 4095) rfl rfl (by kernel_rfl) (fun _ _ _ h=>h) (Or.inl ⟨by rfl,?_⟩) ?_ ?_
        rotate_left
        ·intro w';go_simp;with_reducible rfl
        rotate_left
        ·simp only [Act.put,aA,aB,aC,W1];rfl
        refine pure_ (i:=12) (N:=some 214) (v:=?_) (a':=?_) (bA 24 8191) rfl rfl (by kernel_rfl) (fun _ _ _ h=>h) (Or.inl ⟨by rfl,?_⟩) ?_ ?_
        rotate_left
        ·intro w';go_simp;with_reducible rfl
        rotate_left
        ·simp only [Act.put,aA,aB,aC,W1];rfl
        refine take_ (i:=13) (N:=some 215) (v:=?_) (a':=?_) (bA 24 16383) rfl rfl (by kernel_rfl) (fun _ _ _ h=>h) (Or.inl ⟨by rfl,?_⟩) rfl ?_ ?_
        rotate_left
        ·rintro w' rfl;go_simp;with_reducible rfl
        rotate_left
        ·simp only [Act.put,aA,aB,aC,W1];rfl
        refine pure_ (i:=14) (N:=some 216) (v:=?_) (a':=?_) (bA 24 32767) rfl rfl (by kernel_rfl) (fun _ _ _ h=>h) (Or.inl ⟨by rfl,?_⟩) ?_ ?_
        rotate_left
        ·intro w';go_simp;with_reducible rfl
        rotate_left
        ·simp only [Act.put,aA,aB,aC,W1];rfl
        refine pure_ (i:=15) (N:=some 217) (v:=?_) (a':=?_) (bA 24 65535) rfl rfl (by kernel_rfl) (fun _ _ _ h=>h) (Or.inl ⟨by rfl,?_⟩) ?_ ?_
        rotate_left
        ·intro w';go_simp;with_reducible rfl
        rotate_left
        ·simp only [Act.put,aA,aB,aC,W1];rfl
        refine pure_ (i:=16) (N:=some 218) (v:=?_) (a':=?_) (bA 24 131071) rfl rfl (by kernel_rfl) (fun _ _ _ h=>h) (Or.inl ⟨by rfl,?_⟩) ?_ ?_
        rotate_left
        ·intro w';go_simp;with_reducible rfl
        rotate_left
        ·simp only [Act.put,aA,aB,aC,W1];rfl
        refine pure_ (i:=17) (N:=some 219) (v:=?_) (a':=?_) (bA 24 262143) rfl rfl (by kernel_rfl) (fun _ _ _ h=>h) (Or.inl ⟨by rfl,?_⟩) ?_ ?_
        rotate_left
        ·intro w';go_simp;with_reducible rfl
        rotate_left
        ·simp only [Act.put,aA,aB,aC,W1];rfl
        refine take_ (i:=18) (N:=some 220) (v:=?_) (a':=?_) (bA 24 524287) rfl rfl (by kernel_rfl) (fun _ _ _ h=>h) (Or.inl ⟨by rfl,?_⟩) rfl ?_ ?_
        rotate_left
        ·rintro w' rfl;go_simp;with_reducible rfl
        rotate_left
        ·simp only [Act.put,aA,aB,aC,W1];rfl
        refine pure_ (i:=19) (N:=some 221) (v:=?_) (a':=?_) (bA 24 1048575) rfl rfl (by kernel_rfl) (fun _ _ _ h=>h) (Or.inl ⟨by rfl,?_⟩) ?_ ?_
        rotate_left
        ·intro w';go_simp;with_reducible rfl
        rotate_left
        ·simp only [Act.put,aA,aB,aC,W1];rfl
        refine last_ (i:=20) (N:=some 222) (bA 24 2097151) rfl rfl (by kernel_rfl) (by decide) (fun K hK=>?_)
        obtain ⟨i5,hi5,hz5,hs5,hb5⟩:=info5
        refine app_ (P:=Tryz.prog) (by rfl) rfl (.tmp 206) (.tmp 221) 54 rfl B 5 i5 (.int .u8 0) 1 Tryz.underlying54 hi5 hz5 hs5 hb5 rfl (.slice (some ⟨eb1,0,none⟩) n1 ec1) n1 _ (by go_simp) OWN.out ⟨b,lo,none⟩ (hi-lo) (cap-lo) (news.map bcell) (by go_simp) (by simpa using NL.out) NC.out (bcells_one _) NM.out NB.out BASE.out ?_
        intro v5 w5 o1 o2 o3 o4
        have hg5:=blk_only ST1.out.drew.rep.blk ((Only.refl (fun k=>(Value.slice (some ⟨eb1,0,none⟩) n1 ec1).ownBlock=some k) _).grown o2 fun k hk=>.inl hk) (by rw [←X2.out];exact ST1.out.rep.gne')
        obtain ⟨n5,hn5⟩:∃ n5,n1+(hi-lo)=n5:=⟨_,rfl⟩
        rw [hn5] at o1
        obtain ⟨a5,c5,rfl⟩:=own_slice o1
        have c57:w5.cell? ⟨g,7,none⟩=some C1.ev:=blk_cell hg5 7
        have f57:=blk_frozen hg5 7
        rw [X2.out] at c57
        refine hK.out _ _ ?_
        clear hK K
        refine pure_ (i:=21) (N:=some 223) (v:=?_) (a':=?_) (bA 24 4194303) rfl rfl (by kernel_rfl) (fun _ _ _ h=>h) (Or.inl ⟨by rfl,?_⟩) ?_ ?_
        rotate_left
        ·intro w';go_simp;with_reducible rfl
        rotate_left
        ·simp only [Act.put,aA,aB,aC,W1];rfl
        refine pure_ (i:=22) (N:=some 224) (v:=?_) (a':=?_) (bA 24 8388607) rfl rfl (by kernel_rfl) (fun _ _ _ h=>h) (Or.inl ⟨by rfl,?_⟩) ?_ ?_
        rotate_left
        ·intro w';go_simp;with_reducible rfl
        rotate_left
        ·simp only [Act.put,aA,aB,aC,W1];rfl
        refine last_ (i:=23) (N:=none) (bA 24 16777215) rfl rfl (by kernel_rfl) (by decide) (fun K hK=>?_)
        refine skip_ (w1:=?_) (by rfl) rfl ?_ ?_
        rotate_left
        ·go_simp
         rfl
        refine hK.out _ _ ?_
        clear hK K
        refine done_ (by kernel_rfl) ?_
        have HN5:=Lib.hid hn5
        have hl5:A1.esc.length+news.length≤1000:=by
         have h1:=NLL.out
         have h2:=HN1.out
         have h3:=LEN.out
         have h4:=HQT.out
         have h5:=HBIG.out
         omega
        have S5:=Lib.hid (ST1.out.drew.trans (esc_step ST1.out.drew.rep news (.slice a5 n5 c5) (by rw [HN1.out,NLL.out,hn5];exact o1) (by rw [X2.out];exact o2) (by rw [X2.out,HN1.out];exact o3) (by rw [X2.out];exact o4) hl5))
        clear o1 o2 o3 o4 hg5 c57 f57 OWN NC NM NB BASE hi5 hz5 hs5 hb5 c1 c2 c3 c7 f7 W1 x2 x3 x5 x6 x7 x8 x9 x4 hl5
        revert S5
        generalize w5.setCell ⟨g,7,none⟩ (.slice a5 n5 c5)=w6
        intro S5
        have c7':=S5.out.rep.c7
        dsimp only at c7'
        obtain ⟨e5b,e5c,hev5,hec5,hem5⟩:=S5.out.rep.ev_form
        dsimp only at hev5 hec5
        have hel5:(A1.esc++news).length=n5:=by rw [List.length_append,HN1.out,NLL.out,hn5]
        rw [hel5] at hev5 hec5
        injection hev5 with r1 r2 r3
        subst r1
        subst r3
        unfold maxLen at hem5
        have y1:A.esc.length<n5:=by have:=HNE.out;have:=HE0.out;omega
        have y2:(A.esc.length:Int)≤(n5:Int):=by omega
        have y3:A.esc.length≤n5:=by omega
        have y4:¬c5=A.esc.length:=by omega
        have y5:(n5:Int)≤(c5:Int):=by omega
        have y6:n5≤c5:=by omega
        have HEL5:=Lib.hid hel5
        clear hel5 hec5 hn5
        go_wp2_with fail
        go_meet
        obtain ⟨a1,a2,a3,a4,a5',a6⟩:=XA.out
        have hV:tokV S R T A=(A1.esc++news).drop A.esc.length:=by
         unfold tokV
         rw [HSK.out,if_neg (by decide),HOUT.out HSK.out,HNEWS.out,a5',List.append_assoc,List.drop_left]
        have e8:=HQ.out
        refine ⟨{ A1 with esc:=A1.esc++news },{ C1 with ev:=.slice (some ⟨e5b,0,none⟩) n5 c5 },some ⟨e5b,A.esc.length,none⟩,n5-A.esc.length,c5-A.esc.length,rfl,?_,by omega,S5.out,by rw [←e8];exact a1,a2,a3,a4,by show A1.line=_;rw [a6];show _=1+lfs (T.take A1.at_);rw [a1],?_,?_⟩
        ·rw [hV,List.length_drop,HEL5.out]
        ·show (A1.esc++news).length+A1.from_≤A1.at_
         have:=LEN.out
         have:=HAT.out
         have:=HN5.out
         have:=TK.out.psu
         have:=TK.out.suj
         rw [HEL5.out,a2,a1]
         omega
        ·rw [hV]
         have:=S5.out.rep.told_esc (eb:=e5b) (ec:=c5) (k:=A.esc.length) (c:=c5-A.esc.length) (by show Value.slice _ _ _=_;rw [HEL5.out]) (by show _≤(A1.esc++news).length;rw [HEL5.out];omega)
         dsimp only at this
         rw [HEL5.out] at this
         exact this
     case rest=>
      obtain ⟨A2,C2,a,n,c,rfl,hn,hnc,st2,b1,b2,b3,b4,b5,b6,told2⟩:=hcut
      have hcells:tokV S R T A≠[]→∃ b o,a=some ⟨b,o,none⟩∧∀ j,j<(tokV S R T A).length→wc.cell? ⟨b,o+j,none⟩=(tokV S R T A)[j]?.map bcell:=fun hne=>by
       obtain ⟨b,o,cp,hv,_,hc⟩:=told2.cells hne
       injection hv with r1 r2 r3
       exact ⟨b,o,r1,fun j hj=>(hc j hj).1⟩
      have hvl:(tokV S R T A).length≤1000:=by
       have h1:=tok_le S R (T.drop A.at_)
       have h2:=HBIG.out
       rw [List.length_drop] at h1
       unfold tokV
       split
       ·rw [List.length_take,List.length_drop];omega
       ·omega
      have hU:Lib.Utf8Tabs 4 5 wc:=by
       have hlow:=HE.out.low
       have hk:∀ a:Addr,a.block<25→∀ v,w.cell? a=some v→wc.cell? a=some v:=fun a ha v hv=>
        (World.cell?_of_block (w:=w) (st2.pas.only.block a.block (block_lt_of_cell hv) (HH.out.low_not_own (by omega)))).trans hv
       exact ⟨fun c hc=>hk ⟨4,c,none⟩ (by show 4<25;omega) _ (HU.out.1 c hc),fun i hi=>⟨hk ⟨5,2*i,none⟩ (by show 5<25;omega) _ (HU.out.2 i hi).1,hk ⟨5,2*i+1,none⟩ (by show 5<25;omega) _ (HU.out.2 i hi).2⟩⟩
      have hcon:Hid (Calls Tryz.prog 95 #[.slice a n c] wc fun e w'=>e=.returned (.bool (valid (tokV S R T A)))∧Below wc.heap.size wc w'):=Lib.hid (valid_spec (tokV S R T A) a n c hn hnc (by omega) hU hcells)
      have ST2:=Lib.hid st2
      have TOLD2:=Lib.hid told2
      have XB:=Lib.hid (And.intro b1 (And.intro b2 (And.intro b3 (And.intro b4 (And.intro b5 b6)))))
      clear hcells hvl hU hn hnc st2 told2 b1 b2 b3 b4 b5 b6
      go_wp2_with fail
      refine hcon.out.mono ?_
      rintro e w3 ⟨rfl,hbel⟩
      clear hcon
      have S3:=ST2.out.rep.below hbel
      have ST3:=Lib.hid (ST2.out.trans S3)
      have TOLD3:=Lib.hid (TOLD2.out.stay S3.stay hbel.size)
      clear hbel S3 ST2 TOLD2
      generalize hV:tokV S R T A=out at *
      have HV:=Lib.hid hV
      clear hV
      cases hval:valid out
      ·have HVAL:=Lib.hid hval
       clear hval
       go_wp2_with fail
       refine (errors_new _).mono ?_
       rintro e w4 ⟨rfl,hb4,hfre⟩
       have S4:=ST3.out.rep.below hb4
       have ST4:=Lib.hid (ST3.out.trans S4)
       have TOLD4:=Lib.hid (TOLD3.out.stay S4.stay hb4.size)
       have HQ2:Hid (Fre w4 B w3.heap.size):=Lib.hid ⟨by have:=ST3.out.rep.base;have:=ST3.out.rep.lt;show B≤w3.heap.size;omega,hfre⟩
       clear hfre
       clear hb4 S4
       generalize w3.heap.size=q2 at *
       obtain ⟨b1,b2,b3,b4,b5,b6⟩:=XB.out
       have hsyn:=Lib.hid (syntax_spec (A.at_-A.from_) 167 (.pointer (some ⟨q2,0,none⟩)) ST4.out.rep (by have:=HAT.out;rw [b1,b2];omega))
       clear b1 b2 b3 b4 b5 b6
       go_wp2_with fail
       refine hsyn.out.mono ?_
       intro e w5 hp
       obtain ⟨b1,b2,b3,b4,b5,b6⟩:=XB.out
       have hp':=hp
       obtain ⟨ev,hev0,hfl,st5⟩:=syn_flted ST4.out.rep hp b5 (by have:=HAT.out;rw [b1,b2];omega) HQ2.out
       have ST5:=Lib.hid st5
       have HFL:=Lib.hid hfl
       obtain ⟨qe,hev,_⟩:=hp'
       rw [hev0] at hev
       subst hev0
       have TOLD5:=Lib.hid (TOLD4.out.stay st5.stay st5.pas.only.size)
       injection hev with hev
       subst hev
       clear hsyn hfl st5 hp b1 b2 b3 b4 b5 b6
       go_wp2
       go_ret3
       obtain ⟨b1,b2,b3,b4,b5,b6⟩:=XB.out
       refine ⟨_,{ A2 with part:=errPart A2 },C2,_,rfl,ST4.out.trans ST5.out,b1,b2,b3,b5,b6,by rw [HV.out];exact TOLD5.out,.inr ⟨by rw [HV.out];exact HVAL.out,by show errPart A2=errPart A;unfold errPart;rw [b4],?_⟩⟩
       have:=HFL.out
       rw [b2,show A.from_+(A.at_-A.from_)=A.at_ by have:=HAT.out;omega] at this
       exact this
      ·have HVAL:=Lib.hid hval
       clear hval
       go_wp2
       go_ret3
       obtain ⟨b1,b2,b3,b4,b5,b6⟩:=XB.out
       exact ⟨_,A2,C2,_,rfl,ST3.out,b1,b2,b3,b5,b6,by rw [HV.out];exact TOLD3.out,.inl ⟨by rw [HV.out];exact HVAL.out,b4,rfl⟩⟩
end Go.Proofs.YtkfggfjdplnkpaaGreatDoor
end
