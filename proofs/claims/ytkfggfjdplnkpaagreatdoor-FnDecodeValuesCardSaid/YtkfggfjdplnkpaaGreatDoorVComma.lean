/- A part of the proof that the law FnDecodeValues returns true; its conditions are those of the last part. -/
import Derived.Test.YtkfggfjdplnkpaaGreatDoorVEsc0
import Derived.Test.YtkfggfjdplnkpaaGreatDoorVWLast
import Derived.Test.YtkfggfjdplnkpaaGreatDoorVEsc
set_option maxRecDepth 100000
set_option linter.unusedVariables false
set_option linter.unusedSimpArgs false
section
namespace Go.Proofs.YtkfggfjdplnkpaaGreatDoor
open Go.RowKit Go.Proofs.YtkfggfjdplnkpaaGreatDoorW.PrintLast
def FltIs (w:World) (B:Nat) (ev:Value):Option Flt→Prop
 | none=>ev=.nilIface
 | some f=>Flted w B f ev
def CommaPost (w:World) (B g:Nat) (T:List UInt8) (A:Ab) (C:Cn) (s:PS) (sk:Bool) (e:Ending) (w':World):Prop:=
 ∃ A' C' ev,e=.returned ev∧Step w B g T A C w' A' C'∧Is T A' (commaP T s).1 sk∧FltIs w' B ev (commaP T s).2
set_option maxHeartbeats 4000000 in
theorem comma_spec {w:World} {B g:Nat} {T:List UInt8} {A:Ab} {C:Cn} {s:PS} {sk:Bool} (h:Rep w B g T A C) (hE:Env w B) (hi:Is T A s sk) :
  Calls Tryz.prog 52 #[.pointer (some ⟨g,0,none⟩)] w (CommaPost w B g T A C s sk):=by
 have HH:=Lib.hid h
 have HE:=Lib.hid hE
 have HI:=Lib.hid hi
 clear h hE hi
 go_enter Tryz.func52,Tryz.ntmps52
 go_wp2_with fail
 refine (ensure_spec 1 (by omega) HH.out HE.out).mono ?_
 rintro e w1 ⟨rfl,C1,s1,h1,h2⟩
 have S1:=Lib.hid s1
 clear s1
 by_cases q1:A.at_+1≤T.length
 ·rw [decide_eq_true q1]
  have h1':=h1 q1
  clear h1 h2
  go_wp2_with fail
  refine (at_spec 0 (by omega) S1.out.rep (fun _=>by omega)).mono ?_
  rintro e w2 ⟨rfl,k,rfl⟩
  rw [Nat.add_zero]
  generalize hx:T.getD A.at_ 0=x
  have HX:=Lib.hid hx
  clear hx
  have S2:=Lib.hid (S1.out.drewN k)
  revert S2
  generalize w1.drewN k=w2
  intro S2
  by_cases c1:x=44
  ·have d1:(x.toNat:Int)=44:=by rw [c1];rfl
   rw [d1]
   have HC:=Lib.hid c1
   clear c1 d1
   go_wp2_with fail
   refine (advance_spec 1 S2.out.rep (by omega)).mono ?_
   rintro e w3 ⟨rfl,s3⟩
   have S3:=Lib.hid (S2.out.trans s3)
   clear s3
   go_wp2_with fail
   refine (ensure_spec 1 (by omega) S3.out.rep (HE.out.pas HH.out S3.out)).mono ?_
   rintro e w4 ⟨rfl,C4,s4,h1,h2⟩
   have S4:=Lib.hid (S3.out.trans s4)
   clear s4
   dsimp only at h1 h2
   dsimp only
   by_cases q2:A.at_+1+1≤T.length
   ·rw [decide_eq_true q2]
    have h2':=h1 q2
    clear h1 h2
    go_wp2_with fail
    refine (mk_68 _).mono ?_
    rintro e w5 ⟨a,rfl,hs,hbl⟩
    have S5:=Lib.hid (S4.out.trans (S4.out.rep.below hbl))
    have HS:=Lib.hid hs
    clear hs hbl
    go_wp2_with fail
    refine (at_spec 0 (by omega) S5.out.rep (fun _=>by omega)).mono ?_
    rintro e w6 ⟨rfl,k6,rfl⟩
    rw [Nat.add_zero]
    dsimp only
    generalize hy:T.getD (A.at_+1) 0=y
    have HY:=Lib.hid hy
    clear hy
    have hcon:=Lib.hid (set_get a (inSet 1) (y.toNat:Int) (by omega) (by have:=y.toNat_lt;omega) (w5.drewN k6) (HS.out.of_block rfl))
    have S6:=Lib.hid (S5.out.drewN k6)
    revert S6 hcon
    generalize w5.drewN k6=w6
    intro hcon S6
    go_wp2_with fail
    refine hcon.out.mono ?_
    rintro e w7 ⟨rfl,rfl⟩
    clear hcon
    rw [Int.toNat_natCast]
    cases hwh:inSet 1 y.toNat
    ·have HW:=Lib.hid hwh
     clear hwh
     go_wp2_with fail
     go_ret
     have e1:commaP T s=({ s with at_:=s.at_+1 },none):=by
      unfold commaP
      rw [←HI.out.at_,HX.out,if_pos HC.out,HY.out,if_pos ⟨by omega,HW.out⟩]
     refine ⟨{ A with at_:=A.at_+1 },C4,_,rfl,S6.out,?_,by rw [e1];rfl⟩
     rw [e1]
     exact ⟨congrArg (·+1) HI.out.at_,HI.out.from_,HI.out.part,HI.out.skip,by show A.line=_;rw [lfs_step_ne (by rw [HX.out,HC.out];decide)];exact HI.out.line,by have:=HI.out.esc;show A.esc.length+A.from_≤A.at_+1;omega⟩
    ·have HW:=Lib.hid hwh
     clear hwh
     have HPL:Hid (commaP T s=({ s with at_:=s.at_+1,part:=fpart s.part },some (fltAt T s.from_ (s.at_+1)))):=Lib.hid (by
      unfold commaP
      rw [←HI.out.at_,HX.out,if_pos HC.out,HY.out,if_neg (fun hh=>by rw [show whiteB y.toNat=inSet 1 y.toNat from rfl,HW.out] at hh;exact absurd hh.2 (by decide))])
     have STEP:=Lib.hid S6.out
     clear S6 S5 S4 S3 S2 S1 h2' h1'
     have HR:=Lib.hid STEP.out.rep
     have c2:=HR.out.c2
     have c3:=HR.out.c3
     have HGL:=HR.out.lt
     have e1:=HR.out.at_
     have e2:=HR.out.le01
     have e3:=HR.out.le1
     have e4:=HR.out.bl_le
     dsimp only at e1 c2 c3
     obtain ⟨off,hoff⟩:∃ off,A.at_+1-A.from_=off:=⟨_,rfl⟩
     obtain ⟨p1,hp1⟩:∃ p1,C4.r1=p1:=⟨_,rfl⟩
     obtain ⟨p0,hp0⟩:∃ p0,C4.r0=p0:=⟨_,rfl⟩
     have WSUB:IntKind.i64.wrap ((p1:Int)-(p0:Int))=(off:Int):=by rw [IntWalk.i64_in _ (by omega)];omega
     rw [hp1] at c3
     rw [hp0] at c2
     have HOFF:Hid (A.from_+off≤A.at_+1):=Lib.hid (by omega)
     have HOFF2:Hid (A.from_+off=A.at_+1):=Lib.hid (by omega)
     have HLINE:Hid (A.line=1+lfs (T.take (A.at_+1))):=Lib.hid (by rw [lfs_step_ne (by rw [HX.out,HC.out];decide)];exact HI.out.line)
     clear e1 e2 e3 e4 hoff hp1 hp0
     go_wp2_with fail
     refine start_ (n:=13) (S:=fun w'=>Below (w6).heap.size (w6) w') (ds:=[11]) (bA 13 0) (by kernel_rfl) rfl rfl (Below.refl _ _).drew (fun _=>?_)
     refine pure_ (i:=0) (N:=some 32) (v:=?_) (a':=?_) (bA 13 1) rfl rfl (by kernel_rfl) (fun _ _ _ h=>h) (Or.inl ⟨by rfl,?_⟩) ?_ ?_
     rotate_left
     ·intro w';go_simp;with_reducible rfl
     rotate_left
     ·simp only [Act.put,aA,aB,aC,WSUB];rfl
     refine pure_ (i:=1) (N:=some 33) (v:=?_) (a':=?_) (bA 13 3) rfl rfl (by kernel_rfl) (fun _ _ _ h=>h) (Or.inl ⟨by rfl,?_⟩) ?_ ?_
     rotate_left
     ·intro w';go_simp;with_reducible rfl
     rotate_left
     ·simp only [Act.put,aA,aB,aC,WSUB];rfl
     refine pure_ (i:=2) (N:=some 34) (v:=?_) (a':=?_) (bA 13 7) rfl rfl (by kernel_rfl) (fun _ _ _ h=>h) (Or.inl ⟨by rfl,?_⟩) ?_ ?_
     rotate_left
     ·intro w';go_simp;with_reducible rfl
     rotate_left
     ·simp only [Act.put,aA,aB,aC,WSUB];rfl
     refine pure_ (i:=3) (N:=some 35) (v:=?_) (a':=?_) (bA 13 15) rfl rfl (by kernel_rfl) (fun _ _ _ h=>h) (Or.inl ⟨by rfl,?_⟩) ?_ ?_
     rotate_left
     ·intro w';go_simp;with_reducible rfl
     rotate_left
     ·simp only [Act.put,aA,aB,aC,WSUB];rfl
     refine take_ (i:=4) (N:=some 36) (v:=?_) (a':=?_) (bA 13 31) rfl rfl (by kernel_rfl) (fun _ _ _ h=>h) (Or.inl ⟨by rfl,?_⟩) (Below.refl _ _).drew ?_ ?_
     rotate_left
     ·intro w' hS;have d2:=(hS.cell (p:=⟨g,2,none⟩) HGL).trans c2;have d3:=(hS.cell (p:=⟨g,3,none⟩) HGL).trans c3;go_simp;with_reducible rfl
     rotate_left
     ·simp only [Act.put,aA,aB,aC,WSUB];rfl
     refine pure_ (i:=5) (N:=some 37) (v:=?_) (a':=?_) (bA 13 63) rfl rfl (by kernel_rfl) (fun _ _ _ h=>h) (Or.inl ⟨by rfl,?_⟩) ?_ ?_
     rotate_left
     ·intro w';go_simp;with_reducible rfl
     rotate_left
     ·simp only [Act.put,aA,aB,aC,WSUB];rfl
     refine pure_ (i:=6) (N:=some 38) (v:=?_) (a':=?_) (bA 13 127) rfl rfl (by kernel_rfl) (fun _ _ _ h=>h) (Or.inl ⟨by rfl,?_⟩) ?_ ?_
     rotate_left
     ·intro w';go_simp;with_reducible rfl
     rotate_left
     ·simp only [Act.put,aA,aB,aC,WSUB];rfl
     refine pure_ (i:=7) (N:=some 39) (v:=?_) (a':=?_) (bA 13 255) rfl rfl (by kernel_rfl) (fun _ _ _ h=>h) (Or.inl ⟨by rfl,?_⟩) ?_ ?_
     rotate_left
     ·intro w';go_simp;with_reducible rfl
     rotate_left
     ·simp only [Act.put,aA,aB,aC,WSUB];rfl
     refine take_ (i:=8) (N:=some 40) (v:=?_) (a':=?_) (bA 13 511) rfl rfl (by kernel_rfl) (fun _ _ _ h=>h) (Or.inl ⟨by rfl,?_⟩) (Below.refl _ _).drew ?_ ?_
     rotate_left
     ·intro w' hS;have d2:=(hS.cell (p:=⟨g,2,none⟩) HGL).trans c2;have d3:=(hS.cell (p:=⟨g,3,none⟩) HGL).trans c3;go_simp;with_reducible rfl
     rotate_left
     ·simp only [Act.put,aA,aB,aC,WSUB];rfl
     refine pure_ (i:=9) (N:=some 41) (v:=?_) (a':=?_) (bA 13 1023) rfl rfl (by kernel_rfl) (fun _ _ _ h=>h) (Or.inl ⟨by rfl,?_⟩) ?_ ?_
     rotate_left
     ·intro w';go_simp;with_reducible rfl
     rotate_left
     ·simp only [Act.put,aA,aB,aC,WSUB];rfl
     refine one_ (i:=10) (N:=some 42) (bA 13 2047) rfl rfl (by kernel_rfl) (by decide) (fun K hK=>?_)
     refine call_ 51 #[.string _] (by rfl) rfl (by go_simp;rfl) ?_
     refine (errors_new _).mono ?_
     rintro e wn ⟨rfl,hbn,hfre⟩
     have hbn2:Below (w6).heap.size (w6) wn:=(Below.refl _ _).drew.trans hbn
     refine ⟨_,rfl,hK.out _ _ hbn2 (fun _=>?_)⟩
     clear hK K
     have SN:=Lib.hid (HR.out.below hbn2)
     have HQN:Hid (Fre wn B (w6).drew.heap.size):=Lib.hid ⟨by have:=HR.out.base;have:=HGL;show B≤(w6).heap.size;omega,hfre⟩
     clear hfre
     generalize (w6).drew.heap.size=qn at *
     refine last_ (i:=11) (N:=some 43) (bA 13 4095) rfl rfl (by kernel_rfl) (by decide) (fun K hK=>?_)
     refine call_ 50 #[.pointer (some ⟨g,0,none⟩),.int .i64 (off:Int),.iface 167 (.pointer (some ⟨qn,0,none⟩))] (by rfl) rfl (by go_simp) ?_
     refine (syntax_spec off 167 (.pointer (some ⟨qn,0,none⟩)) SN.out.rep HOFF.out).mono ?_
     intro e wf hp
     have hp2:=hp
     obtain ⟨ev,hev0,hfl,stf⟩:=syn_flted SN.out.rep hp HLINE.out HOFF.out HQN.out
     obtain ⟨qe,hev,_⟩:=hp2
     rw [hev0] at hev
     subst hev0
     injection hev with hev
     subst hev
     have STF:=Lib.hid (SN.out.trans stf)
     have HFL:=Lib.hid hfl
     refine ⟨_,rfl,hK.out _ _ ?_⟩
     clear hK K hp hfl stf
     refine pure_ (i:=12) (N:=some 2) (v:=?_) (a':=?_) (bA 13 8191) rfl rfl (by kernel_rfl) (fun _ _ _ h=>h) (Or.inl ⟨by rfl,?_⟩) ?_ ?_
     rotate_left
     ·intro w';go_simp;with_reducible rfl
     rotate_left
     ·simp only [Act.put,aA,aB,aC,WSUB];rfl
     refine done_ (by kernel_rfl) ?_
     go_wp2_with fail
     go_ret
     refine ⟨_,C4,_,rfl,STEP.out.trans STF.out,?_,?_⟩
     ·rw [HPL.out]
      exact ⟨congrArg (·+1) HI.out.at_,HI.out.from_,by show errPart _=fpart _;unfold errPart fpart;rw [←HI.out.part],HI.out.skip,HLINE.out,by have:=HI.out.esc;show A.esc.length+A.from_≤A.at_+1;omega⟩
     ·rw [HPL.out]
      have:=HFL.out
      rw [HOFF2.out] at this
      rw [←HI.out.at_,←HI.out.from_]
      exact this
   ·rw [decide_eq_false q2]
    clear h1 h2
    have HPL:Hid (commaP T s=({ s with at_:=s.at_+1,part:=fpart s.part },some (fltAt T s.from_ (s.at_+1)))):=Lib.hid (by
     unfold commaP
     rw [←HI.out.at_,HX.out,if_pos HC.out,if_neg (fun hh=>by omega)])
    have STEP:=Lib.hid S4.out
    clear S4 S3 S2 S1 h1'
    have HR:=Lib.hid STEP.out.rep
    have c2:=HR.out.c2
    have c3:=HR.out.c3
    have HGL:=HR.out.lt
    have e1:=HR.out.at_
    have e2:=HR.out.le01
    have e3:=HR.out.le1
    have e4:=HR.out.bl_le
    dsimp only at e1 c2 c3
    obtain ⟨off,hoff⟩:∃ off,A.at_+1-A.from_=off:=⟨_,rfl⟩
    obtain ⟨p1,hp1⟩:∃ p1,C4.r1=p1:=⟨_,rfl⟩
    obtain ⟨p0,hp0⟩:∃ p0,C4.r0=p0:=⟨_,rfl⟩
    have WSUB:IntKind.i64.wrap ((p1:Int)-(p0:Int))=(off:Int):=by rw [IntWalk.i64_in _ (by omega)];omega
    rw [hp1] at c3
    rw [hp0] at c2
    have HOFF:Hid (A.from_+off≤A.at_+1):=Lib.hid (by omega)
    have HOFF2:Hid (A.from_+off=A.at_+1):=Lib.hid (by omega)
    have HLINE:Hid (A.line=1+lfs (T.take (A.at_+1))):=Lib.hid (by rw [lfs_step_ne (by rw [HX.out,HC.out];decide)];exact HI.out.line)
    clear e1 e2 e3 e4 hoff hp1 hp0
    go_wp2_with fail
    refine start_ (n:=13) (S:=fun w'=>Below (w4).heap.size (w4) w') (ds:=[11]) (bA 13 0) (by kernel_rfl) rfl rfl (Below.refl _ _).drew (fun _=>?_)
    refine pure_ (i:=0) (N:=some 16) (v:=?_) (a':=?_) (bA 13 1) rfl rfl (by kernel_rfl) (fun _ _ _ h=>h) (Or.inl ⟨by rfl,?_⟩) ?_ ?_
    rotate_left
    ·intro w';go_simp;with_reducible rfl
    rotate_left
    ·simp only [Act.put,aA,aB,aC,WSUB];rfl
    refine pure_ (i:=1) (N:=some 17) (v:=?_) (a':=?_) (bA 13 3) rfl rfl (by kernel_rfl) (fun _ _ _ h=>h) (Or.inl ⟨by rfl,?_⟩) ?_ ?_
    rotate_left
    ·intro w';go_simp;with_reducible rfl
    rotate_left
    ·simp only [Act.put,aA,aB,aC,WSUB];rfl
    refine pure_ (i:=2) (N:=some 18) (v:=?_) (a':=?_) (bA 13 7) rfl rfl (by kernel_rfl) (fun _ _ _ h=>h) (Or.inl ⟨by rfl,?_⟩) ?_ ?_
    rotate_left
    ·intro w';go_simp;with_reducible rfl
    rotate_left
    ·simp only [Act.put,aA,aB,aC,WSUB];rfl
    refine pure_ (i:=3) (N:=some 19) (v:=?_) (a':=?_) (bA 13 15) rfl rfl (by kernel_rfl) (fun _ _ _ h=>h) (Or.inl ⟨by rfl,?_⟩) ?_ ?_
    rotate_left
    ·intro w';go_simp;with_reducible rfl
    rotate_left
    ·simp only [Act.put,aA,aB,aC,WSUB];rfl
    refine take_ (i:=4) (N:=some 20) (v:=?_) (a':=?_) (bA 13 31) rfl rfl (by kernel_rfl) (fun _ _ _ h=>h) (Or.inl ⟨by rfl,?_⟩) (Below.refl _ _).drew ?_ ?_
    rotate_left
    ·intro w' hS;have d2:=(hS.cell (p:=⟨g,2,none⟩) HGL).trans c2;have d3:=(hS.cell (p:=⟨g,3,none⟩) HGL).trans c3;go_simp;with_reducible rfl
    rotate_left
    ·simp only [Act.put,aA,aB,aC,WSUB];rfl
    refine pure_ (i:=5) (N:=some 21) (v:=?_) (a':=?_) (bA 13 63) rfl rfl (by kernel_rfl) (fun _ _ _ h=>h) (Or.inl ⟨by rfl,?_⟩) ?_ ?_
    rotate_left
    ·intro w';go_simp;with_reducible rfl
    rotate_left
    ·simp only [Act.put,aA,aB,aC,WSUB];rfl
    refine pure_ (i:=6) (N:=some 22) (v:=?_) (a':=?_) (bA 13 127) rfl rfl (by kernel_rfl) (fun _ _ _ h=>h) (Or.inl ⟨by rfl,?_⟩) ?_ ?_
    rotate_left
    ·intro w';go_simp;with_reducible rfl
    rotate_left
    ·simp only [Act.put,aA,aB,aC,WSUB];rfl
    refine pure_ (i:=7) (N:=some 23) (v:=?_) (a':=?_) (bA 13 255) rfl rfl (by kernel_rfl) (fun _ _ _ h=>h) (Or.inl ⟨by rfl,?_⟩) ?_ ?_
    rotate_left
    ·intro w';go_simp;with_reducible rfl
    rotate_left
    ·simp only [Act.put,aA,aB,aC,WSUB];rfl
    refine take_ (i:=8) (N:=some 24) (v:=?_) (a':=?_) (bA 13 511) rfl rfl (by kernel_rfl) (fun _ _ _ h=>h) (Or.inl ⟨by rfl,?_⟩) (Below.refl _ _).drew ?_ ?_
    rotate_left
    ·intro w' hS;have d2:=(hS.cell (p:=⟨g,2,none⟩) HGL).trans c2;have d3:=(hS.cell (p:=⟨g,3,none⟩) HGL).trans c3;go_simp;with_reducible rfl
    rotate_left
    ·simp only [Act.put,aA,aB,aC,WSUB];rfl
    refine pure_ (i:=9) (N:=some 25) (v:=?_) (a':=?_) (bA 13 1023) rfl rfl (by kernel_rfl) (fun _ _ _ h=>h) (Or.inl ⟨by rfl,?_⟩) ?_ ?_
    rotate_left
    ·intro w';go_simp;with_reducible rfl
    rotate_left
    ·simp only [Act.put,aA,aB,aC,WSUB];rfl
    refine one_ (i:=10) (N:=some 26) (bA 13 2047) rfl rfl (by kernel_rfl) (by decide) (fun K hK=>?_)
    refine call_ 51 #[.string _] (by rfl) rfl (by go_simp;rfl) ?_
    refine (errors_new _).mono ?_
    rintro e wn ⟨rfl,hbn,hfre⟩
    have hbn2:Below (w4).heap.size (w4) wn:=(Below.refl _ _).drew.trans hbn
    refine ⟨_,rfl,hK.out _ _ hbn2 (fun _=>?_)⟩
    clear hK K
    have SN:=Lib.hid (HR.out.below hbn2)
    have HQN:Hid (Fre wn B (w4).drew.heap.size):=Lib.hid ⟨by have:=HR.out.base;have:=HGL;show B≤(w4).heap.size;omega,hfre⟩
    clear hfre
    generalize (w4).drew.heap.size=qn at *
    refine last_ (i:=11) (N:=some 27) (bA 13 4095) rfl rfl (by kernel_rfl) (by decide) (fun K hK=>?_)
    refine call_ 50 #[.pointer (some ⟨g,0,none⟩),.int .i64 (off:Int),.iface 167 (.pointer (some ⟨qn,0,none⟩))] (by rfl) rfl (by go_simp) ?_
    refine (syntax_spec off 167 (.pointer (some ⟨qn,0,none⟩)) SN.out.rep HOFF.out).mono ?_
    intro e wf hp
    have hp2:=hp
    obtain ⟨ev,hev0,hfl,stf⟩:=syn_flted SN.out.rep hp HLINE.out HOFF.out HQN.out
    obtain ⟨qe,hev,_⟩:=hp2
    rw [hev0] at hev
    subst hev0
    injection hev with hev
    subst hev
    have STF:=Lib.hid (SN.out.trans stf)
    have HFL:=Lib.hid hfl
    refine ⟨_,rfl,hK.out _ _ ?_⟩
    clear hK K hp hfl stf
    refine pure_ (i:=12) (N:=some 2) (v:=?_) (a':=?_) (bA 13 8191) rfl rfl (by kernel_rfl) (fun _ _ _ h=>h) (Or.inl ⟨by rfl,?_⟩) ?_ ?_
    rotate_left
    ·intro w';go_simp;with_reducible rfl
    rotate_left
    ·simp only [Act.put,aA,aB,aC,WSUB];rfl
    refine done_ (by kernel_rfl) ?_
    go_wp2_with fail
    go_ret
    refine ⟨_,C4,_,rfl,STEP.out.trans STF.out,?_,?_⟩
    ·rw [HPL.out]
     exact ⟨congrArg (·+1) HI.out.at_,HI.out.from_,by show errPart _=fpart _;unfold errPart fpart;rw [←HI.out.part],HI.out.skip,HLINE.out,by have:=HI.out.esc;show A.esc.length+A.from_≤A.at_+1;omega⟩
    ·rw [HPL.out]
     have:=HFL.out
     rw [HOFF2.out] at this
     rw [←HI.out.at_,←HI.out.from_]
     exact this
  ·have d1:¬(x.toNat:Int)=44:=fun e=>u8_ne c1 (by show x.toNat=44;omega)
   have e1:commaP T s=(s,none):=by unfold commaP;rw [←HI.out.at_,HX.out,if_neg c1]
   have HP:=Lib.hid e1
   clear e1 c1
   go_wp2_with fail
   go_ret
   exact ⟨A,C1,_,rfl,S2.out,by rw [HP.out];exact HI.out,by rw [HP.out];rfl⟩
 ·rw [decide_eq_false q1]
  clear h1 h2
  have e1:commaP T s=(s,none):=by
   unfold commaP
   rw [←HI.out.at_,List.getD_eq_getElem?_getD,List.getElem?_eq_none (by omega)]
   rfl
  have HP:=Lib.hid e1
  clear e1
  go_wp2_with fail
  go_ret
  exact ⟨A,C1,_,rfl,S1.out,by rw [HP.out];exact HI.out,by rw [HP.out];rfl⟩
end Go.Proofs.YtkfggfjdplnkpaaGreatDoor
end
section
namespace Go.Proofs.YtkfggfjdplnkpaaGreatDoor
open Go.RowKit
theorem syn_at {w w':World} {B g q2 off:Nat} {T:List UInt8} {A:Ab} {C:Cn} {e:Ending} (h:Rep w B g T A C) (hp:SynPost w B g T A C off (.iface 167 (.pointer (some ⟨q2,0,none⟩))) e w')
  (hl:A.line=1+lfs (T.take A.at_)) (ho:A.from_+off≤A.at_) (hq:Fre w B q2) :
  ∃ q,e=.returned (.iface 121 (.pointer (some ⟨q,0,none⟩)))∧Flted w' B (fltAt T A.from_ (A.from_+off)) (.iface 121 (.pointer (some ⟨q,0,none⟩)))∧Step w B g T A C w' { A with part:=errPart A } C:=by
 obtain ⟨ev,rfl,h1,h2⟩:=syn_flted h hp hl ho hq
 have h1':=h1
 obtain ⟨q,_,hev,_⟩:=h1'
 subst hev
 exact ⟨q,rfl,h1,h2⟩
def AdvTo (w:World) (B g:Nat) (T:List UInt8) (C:Cn) (sk:Bool) (k:Nat) (s1:PS) (fo:Option Flt) (e:Ending) (w':World):Prop:=
 ∃ A' C' ev,e=.returned (.tuple #[.bool (decide (fo=none∧s1.part=k)),ev])∧Rep w' B g T A' C'∧Pas g w C w' C'∧Is T A' s1 sk∧FltIs w' B ev fo
def ResV (w:World) (B g:Nat) (A:Ab) (C:Cn) (v ev:Value):Res (List UInt8)→Prop
 | .flt f=>v=.slice none 0 0∧Flted w B f ev
 | .non=>v=.slice none 0 0∧ev=.nilIface
 | .got bs=>Told w g A C v bs∧bs≠[]∧ev=.nilIface
def NamePost (w:World) (B g:Nat) (T:List UInt8) (C:Cn) (sk:Bool) (r:PS × Res (List UInt8)) (e:Ending) (w':World):Prop:=
 ∃ A' C' v ev,e=.returned (.tuple #[v,ev])∧Rep w' B g T A' C'∧Pas g w C w' C'∧Is T A' r.1 sk∧ResV w' B g A' C' v ev r.2
set_option maxHeartbeats 4000000 in
theorem name_of {w:World} {B g:Nat} {T:List UInt8} {C:Cn} {s:PS} {sk:Bool} (hE:∀ w' A' C',Rep w' B g T A' C'→Pas g w C w' C'→Env w' B∧Lib.Utf8Tabs 4 5 w')
  (hadv:Calls Tryz.prog 43 #[.pointer (some ⟨g,0,none⟩),.int .u8 0] w (AdvTo w B g T C sk 0 s none)) :
  Calls Tryz.prog 25 #[.pointer (some ⟨g,0,none⟩)] w (NamePost w B g T C sk (nameP sk T s)):=by
 have HE:=Lib.hid hE
 clear hE
 go_enter Tryz.func25,Tryz.ntmps25
 go_wp2_with fail
 refine hadv.mono ?_
 rintro e w1 ⟨A1,C1,ev,rfl,r1,p1,i1,rfl⟩
 have R1:=Lib.hid r1
 have P1:=Lib.hid p1
 have I1:=Lib.hid i1
 clear r1 p1 i1 hadv
 by_cases hp:s.part=0
 ·rw [show decide ((none:Option Flt)=none∧s.part=0)=true from decide_eq_true ⟨rfl,hp⟩]
  have HP:=Lib.hid hp
  clear hp
  go_wp2_with fail
  refine (reset_spec R1.out).mono ?_
  rintro e w2 ⟨rfl,C2,r2,p2⟩
  have R2:=Lib.hid r2
  have P2:=Lib.hid (P1.out.trans p2)
  clear r2 p2
  go_wp2_with fail
  refine (mk_48 _).mono ?_
  rintro e w3 ⟨a3,rfl,hs3,hb3⟩
  have S3:=Lib.hid (R2.out.below hb3)
  have HS3:=Lib.hid hs3
  clear hb3 hs3
  go_wp2_with fail
  refine (esc_49 _).mono ?_
  rintro e w4 ⟨a4,rfl,h04,hb4,_,hbel4⟩
  have S4:=Lib.hid (S3.out.trans (S3.out.rep.below hbel4))
  have HS4:=Lib.hid (HS3.out.below hbel4 HS3.out.lt)
  have HT4:Hid (TabAt w4 a4 (revK 0)):=Lib.hid (by obtain ⟨cs,q1,q2,q3⟩:=hb4.ex;exact ⟨cs,116,q1,by decide,q3⟩)
  have HE4:=Lib.hid (HE.out w4 _ _ S4.out.rep (P2.out.trans S4.out.pas))
  clear h04 hb4 hbel4 S3 HS3
  have hesc:=Lib.hid (takeEsc_spec (inSet 5) (revK 0) S4.out.rep HE4.out.1 HS4.out HT4.out (by show 0+A1.at_≤A1.at_;omega) I1.out.line (by decide) HE4.out.2)
  go_wp2_with fail
  refine hesc.out.mono ?_
  rintro e w5 ⟨v5,A5,C5,ev5,rfl,s5,b1,b2,b3,b4,b5,told5,hval⟩
  clear hesc
  have hV:tokV (inSet 5) (revK 0) T ⟨A1.at_,A1.at_,A1.part,A1.skip,[],A1.line⟩=tkV sk 0 T s.at_:=by
   unfold tokV tkV tkR tkN tkS setK
   rw [←I1.out.skip,←I1.out.at_]
   rfl
  have hN:(tok (inSet 5) (revK 0) (T.drop A1.at_)).1=tkN 0 T s.at_:=by rw [←I1.out.at_];rfl
  rw [hV] at told5 hval
  have b1:A5.at_=s.at_+tkN 0 T s.at_:=by rw [b1];show A1.at_+(tok (inSet 5) (revK 0) (T.drop A1.at_)).1=_;rw [hN,I1.out.at_]
  have b2:A5.from_=s.at_:=b2.trans I1.out.at_
  have b3:A5.skip=sk:=b3.trans I1.out.skip
  have XB:=Lib.hid (And.intro b1 (And.intro b2 (And.intro b3 (And.intro b4 b5))))
  have S5:=Lib.hid s5
  have TOLD5:=Lib.hid told5
  have P5:=Lib.hid (P2.out.trans (S4.out.pas.trans s5.pas))
  have hz:A1.at_-A1.at_=0:=Nat.sub_self _
  dsimp only
  rw [hz]
  generalize hv:tkV sk 0 T s.at_=v at *
  have HV:=Lib.hid hv
  clear hv hV hN b1 b2 b3 b4 b5 s5 told5 hz
  rcases hval with ⟨hval,hpart,rfl⟩ | ⟨hval,hpart,hfl⟩
  ·have hp0:A5.part=0:=hpart.trans (I1.out.part.trans HP.out)
   have HPART:=Lib.hid hp0
   have HVAL:=Lib.hid hval
   have HLE:Hid (s.at_≤s.at_+tkN 0 T s.at_):=Lib.hid (by omega)
   clear hval hpart hp0
   obtain ⟨va,vc,rfl⟩:=TOLD5.out.len
   have hflt:v=[]∨v.head?=some 35→nameP sk T s=(⟨s.at_+tkN 0 T s.at_,s.at_,4⟩,.flt (fltAt T s.at_ s.at_)):=fun hh=>by
    unfold nameP
    rw [if_pos HP.out,HV.out]
    dsimp only
    rw [if_neg (fun h3=>by rcases hh with hh | hh;exact h3.2.1 hh;exact h3.2.2 hh)]
   have HFLT:=Lib.hid hflt
   clear hflt
   by_cases hv0:v=[]
   ·have HPL:=Lib.hid (HFLT.out (.inl hv0))
    have hl0:v.length=0:=by rw [hv0];rfl
    rw [hl0]
    clear hv0 hl0
    go_wp2_with fail
    refine (ensure_spec 1 (by omega) S5.out.rep (HE4.out.1.pas S4.out.rep S5.out)).mono ?_
    rintro e w6 ⟨rfl,C6,s6,_,_⟩
    have SX:=Lib.hid s6
    have SXP:=Lib.hid s6.pas
    clear s6
    by_cases hq:A5.at_+1≤T.length
    ·rw [decide_eq_true hq]
     go_wp2_with fail
     refine (errors_new _).mono ?_
     rintro e w7 ⟨rfl,hbn,hfre⟩
     have SN:=Lib.hid (SX.out.rep.below hbn)
     have HQN:Hid (Fre w7 B w6.heap.size):=Lib.hid ⟨by have:=SX.out.rep.base;have:=SX.out.rep.lt;show B≤w6.heap.size;omega,hfre⟩
     clear hfre
     generalize w6.heap.size=qn at *
     go_wp2_with fail
     refine (syntax_spec 0 167 (.pointer (some ⟨qn,0,none⟩)) SN.out.rep (by have:=XB.out;have:=HLE.out;omega)).mono ?_
     intro e wf hp
     obtain ⟨qe,rfl,hfl,stf⟩:=syn_at SN.out.rep hp XB.out.2.2.2.1 (by have:=XB.out;have:=HLE.out;omega) HQN.out
     have STF:=Lib.hid stf
     have HFL:=Lib.hid hfl
     clear hp hfl stf hbn
     go_wp2_with fail
     go_ret2
     obtain ⟨b1,b2,b3,b4,b5⟩:=XB.out
     refine ⟨_,_,_,_,rfl,STF.out.rep,((P5.out.trans SXP.out).trans SN.out.pas).trans STF.out.pas,?_,?_⟩
     ·rw [HPL.out]
      exact ⟨b1,b2,by show errPart A5=4;unfold errPart;rw [HPART.out];rfl,b3,b4,b5⟩
     ·rw [HPL.out]
      refine ⟨rfl,?_⟩
      have:=HFL.out
      rw [b2,Nat.add_zero] at this
      exact this
    ·rw [decide_eq_false hq]
     go_wp2_with fail
     refine (errors_new _).mono ?_
     rintro e w7 ⟨rfl,hbn,hfre⟩
     have SN:=Lib.hid (SX.out.rep.below hbn)
     have HQN:Hid (Fre w7 B w6.heap.size):=Lib.hid ⟨by have:=SX.out.rep.base;have:=SX.out.rep.lt;show B≤w6.heap.size;omega,hfre⟩
     clear hfre
     generalize w6.heap.size=qn at *
     go_wp2_with fail
     refine (syntax_spec 0 167 (.pointer (some ⟨qn,0,none⟩)) SN.out.rep (by have:=XB.out;have:=HLE.out;omega)).mono ?_
     intro e wf hp
     obtain ⟨qe,rfl,hfl,stf⟩:=syn_at SN.out.rep hp XB.out.2.2.2.1 (by have:=XB.out;have:=HLE.out;omega) HQN.out
     have STF:=Lib.hid stf
     have HFL:=Lib.hid hfl
     clear hp hfl stf hbn
     go_wp2_with fail
     go_ret2
     obtain ⟨b1,b2,b3,b4,b5⟩:=XB.out
     refine ⟨_,_,_,_,rfl,STF.out.rep,((P5.out.trans SXP.out).trans SN.out.pas).trans STF.out.pas,?_,?_⟩
     ·rw [HPL.out]
      exact ⟨b1,b2,by show errPart A5=4;unfold errPart;rw [HPART.out];rfl,b3,b4,b5⟩
     ·rw [HPL.out]
      refine ⟨rfl,?_⟩
      have:=HFL.out
      rw [b2,Nat.add_zero] at this
      exact this
   ·obtain ⟨vb,vo,vc',hvv,hvlt,hvcells⟩:=TOLD5.out.cells hv0
    injection hvv with r1 r2 r3
    subst r1
    subst r3
    have hlen:0<v.length:=List.length_pos_iff.2 hv0
    obtain ⟨x,hx⟩:∃ x,v[0]?=some x:=⟨v[0],List.getElem?_eq_getElem hlen⟩
    have hc0:=(hvcells 0 hlen).1
    rw [hx,Nat.add_zero] at hc0
    change w5.cell? ⟨vb,vo,none⟩=some (.int .u8 (x.toNat:Int)) at hc0
    have hhead:v.head?=some x:=by rw [List.head?_eq_getElem?];exact hx
    have HV0:=Lib.hid hv0
    have HHEAD:=Lib.hid hhead
    obtain ⟨n,hn⟩:∃ n,v.length=n:=⟨_,rfl⟩
    rw [hn] at hlen ⊢
    have HN:=Lib.hid hn
    have hn1:(0:Int)<(n:Int):=by omega
    have hn2:¬(n:Int)=0:=by omega
    clear hv0 hhead hvcells hvlt r2 hn hx
    by_cases hx35:x=35
    ·have d1:(x.toNat:Int)=35:=by rw [hx35];rfl
     rw [d1] at hc0
     have HPL:=Lib.hid (HFLT.out (.inr (by rw [HHEAD.out,hx35])))
     have SX:=Lib.hid (Step.refl S5.out.rep)
     have SXP:=Lib.hid (Pas.refl g w5 C5)
     clear hx35 d1
     go_wp2_with fail
     refine (errors_new _).mono ?_
     rintro e w7 ⟨rfl,hbn,hfre⟩
     have SN:=Lib.hid (SX.out.rep.below hbn)
     have HQN:Hid (Fre w7 B w5.heap.size):=Lib.hid ⟨by have:=SX.out.rep.base;have:=SX.out.rep.lt;show B≤w5.heap.size;omega,hfre⟩
     clear hfre
     generalize w5.heap.size=qn at *
     go_wp2_with fail
     refine (syntax_spec 0 167 (.pointer (some ⟨qn,0,none⟩)) SN.out.rep (by have:=XB.out;have:=HLE.out;omega)).mono ?_
     intro e wf hp
     obtain ⟨qe,rfl,hfl,stf⟩:=syn_at SN.out.rep hp XB.out.2.2.2.1 (by have:=XB.out;have:=HLE.out;omega) HQN.out
     have STF:=Lib.hid stf
     have HFL:=Lib.hid hfl
     clear hp hfl stf hbn
     go_wp2_with fail
     go_ret2
     obtain ⟨b1,b2,b3,b4,b5⟩:=XB.out
     refine ⟨_,_,_,_,rfl,STF.out.rep,((P5.out.trans SXP.out).trans SN.out.pas).trans STF.out.pas,?_,?_⟩
     ·rw [HPL.out]
      exact ⟨b1,b2,by show errPart A5=4;unfold errPart;rw [HPART.out];rfl,b3,b4,b5⟩
     ·rw [HPL.out]
      refine ⟨rfl,?_⟩
      have:=HFL.out
      rw [b2,Nat.add_zero] at this
      exact this
    ·have d1:¬(x.toNat:Int)=35:=fun e=>u8_ne hx35 (by show x.toNat=35;omega)
     have hx35':=Lib.hid hx35
     obtain ⟨s2,hs2⟩:∃ s2:PS,s2=⟨s.at_+tkN 0 T s.at_,s.at_,0⟩:=⟨_,rfl⟩
     have is5:Is T A5 s2 sk:=by
      obtain ⟨b1,b2,b3,b4,b5⟩:=XB.out
      rw [hs2]
      exact ⟨b1,b2,HPART.out,b3,b4,b5⟩
     have hnm:nameP sk T s=match commaP T s2 with
       | (s3,some f)=>(s3,.flt f)
       | (s3,none)=>({ s3 with part:=1 },.got v):=by
      unfold nameP
      rw [if_pos HP.out,HV.out]
      dsimp only
      rw [if_pos ⟨HVAL.out,HV0.out,by rw [HHEAD.out];intro hh;injection hh with hh;exact hx35 hh⟩,hs2]
      rcases commaP T ⟨s.at_+tkN 0 T s.at_,s.at_,0⟩ with ⟨s3,fo⟩
      cases fo <;> rfl
     have HNM:=Lib.hid hnm
     have HS2:=Lib.hid hs2
     have hcm:=Lib.hid (comma_spec S5.out.rep (HE4.out.1.pas S4.out.rep S5.out) is5)
     clear hx35 is5 hnm hs2
     go_wp2_with fail
     refine hcm.out.mono ?_
     rintro e w6 ⟨A6,C6,ev6,rfl,s6,i6,f6⟩
     have S6:=Lib.hid s6
     have TOLD6:=Lib.hid (TOLD5.out.stay s6.stay s6.pas.only.size)
     clear hcm s6
     revert i6 f6
     generalize hcv:commaP T s2=r
     intro i6 f6
     have HCV:=Lib.hid hcv
     clear hcv
     obtain ⟨s3,fo⟩:=r
     cases fo with
     | none=>
      have hev:ev6=.nilIface:=f6
      subst hev
      have I6:=Lib.hid i6
      have c5:=S6.out.rep.c5
      have f5:=S6.out.rep.fz 5
      clear i6 f6
      go_wp2_with fail
      go_ret2
      have s7:=part_step 1 (by omega) S6.out.rep
      have e1:nameP sk T s=({ s3 with part:=1 },.got v):=by rw [HNM.out,HCV.out]
      refine ⟨_,_,_,_,rfl,s7.rep,(P5.out.trans S6.out.pas).trans s7.pas,?_,?_⟩
      ·rw [e1]
       exact ⟨I6.out.at_,I6.out.from_,rfl,I6.out.skip,I6.out.line,I6.out.esc⟩
      ·rw [e1]
       refine ⟨?_,HV0.out,rfl⟩
       rw [←HN.out]
       exact TOLD6.out.stay s7.stay s7.pas.only.size
     | some f=>
      obtain ⟨q,q2,rfl,hfl2,hfl3⟩:=f6
      have I6:=Lib.hid i6
      have HF:=Lib.hid hfl2
      have HF3:=Lib.hid hfl3
      clear i6 hfl2 hfl3
      go_wp2_with fail
      go_ret2
      have e1:nameP sk T s=(s3,.flt f):=by rw [HNM.out,HCV.out]
      refine ⟨_,_,_,_,rfl,S6.out.rep,P5.out.trans S6.out.pas,?_,?_⟩
      ·rw [e1];exact I6.out
      ·rw [e1];exact ⟨rfl,q,q2,rfl,HF.out,HF3.out⟩
  ·have e1:nameP sk T s=(⟨s.at_+tkN 0 T s.at_,s.at_,4⟩,.flt (fltAt T s.at_ s.at_)):=by
    unfold nameP
    rw [if_pos HP.out,HV.out]
    dsimp only
    rw [if_neg (fun hh=>by rw [hval] at hh;exact absurd hh.1 (by decide))]
   have HPL:=Lib.hid e1
   have hp4:A5.part=4:=by rw [hpart];show errPart _=4;unfold errPart;rw [if_neg];show ¬A1.part=5;rw [I1.out.part,HP.out];decide
   have HP4:=Lib.hid hp4
   obtain ⟨q,q2,rfl,hfl2,hfl3⟩:=hfl
   have HF:=Lib.hid hfl2
   have HF3:=Lib.hid hfl3
   clear e1 hpart hval hfl2 hfl3 hp4
   go_wp2_with fail
   go_ret2
   obtain ⟨b1,b2,b3,b4,b5⟩:=XB.out
   refine ⟨A5,C5,_,_,rfl,S5.out.rep,P5.out,?_,?_⟩
   ·rw [HPL.out]
    exact ⟨b1,b2,HP4.out,b3,b4,b5⟩
   ·rw [HPL.out]
    refine ⟨rfl,q,q2,rfl,?_,HF3.out⟩
    have:=HF.out
    rw [show ∀ x y,fltAt T x y=fltAt T x y from fun _ _=>rfl] at this
    rw [←I1.out.at_]
    exact this
 ·rw [show decide ((none:Option Flt)=none∧s.part=0)=false from decide_eq_false (fun h=>hp h.2)]
  have e1:nameP sk T s=(s,.non):=by unfold nameP;rw [if_neg hp]
  have HP:=Lib.hid e1
  clear hp e1
  go_wp2_with fail
  go_ret2
  exact ⟨A1,C1,_,_,rfl,R1.out,P1.out,by rw [HP.out];exact I1.out,by rw [HP.out];exact ⟨rfl,rfl⟩⟩
end Go.Proofs.YtkfggfjdplnkpaaGreatDoor
end
section
namespace Go.Proofs.YtkfggfjdplnkpaaGreatDoor
open Go.RowKit
theorem tokV_is {k:Nat} {T:List UInt8} {A:Ab} {s:PS} {sk:Bool} (hi:Is T A s sk):tokV (inSet (setK k)) (revK k) T A=tkV sk k T s.at_:=by
 unfold tokV tkV tkR tkN tkS
 rw [←hi.skip,←hi.at_]
def TokIs (w:World) (B g:Nat) (T:List UInt8) (A:Ab) (C:Cn) (s:PS) (sk:Bool) (k:Nat) (e:Ending) (w':World):Prop:=
 ∃ v A' C' ev,e=.returned (.tuple #[v,.int .i64 ((s.at_-s.from_:Nat):Int),ev])∧Step w B g T A C w' A' C'∧Told w' g A' C' v (tkV sk k T s.at_)∧
  (valid (tkV sk k T s.at_)=true∧Is T A' { s with at_:=s.at_+tkN k T s.at_ } sk∧ev=.nilIface∨
   valid (tkV sk k T s.at_)=false∧Is T A' { s with at_:=s.at_+tkN k T s.at_,part:=fpart s.part } sk∧Flted w' B (fltAt T s.from_ s.at_) ev)
theorem esc_is {w w':World} {B g k:Nat} {T:List UInt8} {A:Ab} {C:Cn} {s:PS} {sk:Bool} {e:Ending} (hp:EscPost w B g T A C (inSet (setK k)) (revK k) e w') (hi:Is T A s sk):TokIs w B g T A C s sk k e w':=by
 obtain ⟨v,A',C',ev,rfl,st,b1,b2,b3,b4,b5,told,hval⟩:=hp
 rw [tokV_is hi] at told hval
 have hN:(tok (inSet (setK k)) (revK k) (T.drop A.at_)).1=tkN k T s.at_:=by rw [←hi.at_];rfl
 rw [hN,hi.at_] at b1
 refine ⟨v,A',C',ev,by rw [hi.at_,hi.from_],st,told,?_⟩
 rcases hval with ⟨h1,h2,h3⟩ | ⟨h1,h2,h3⟩
 ·exact .inl ⟨h1,⟨b1,b2.trans hi.from_,h2.trans hi.part,b3.trans hi.skip,b4,b5⟩,h3⟩
 ·refine .inr ⟨h1,⟨b1,b2.trans hi.from_,?_,b3.trans hi.skip,b4,b5⟩,?_⟩
  ·rw [h2]
   show errPart A=fpart s.part
   unfold errPart fpart
   rw [hi.part]
  ·rw [←hi.at_,←hi.from_]
   exact h3
theorem token_spec {w:World} {B g a tb k:Nat} {T:List UInt8} {A:Ab} {C:Cn} {s:PS} {sk:Bool} (h:Rep w B g T A C) (hE:Env w B) (hU:Lib.Utf8Tabs 4 5 w) (hs:SetAt w a (inSet (setK k))) (ht:EscBlk w tb (revK k)) (hi:Is T A s sk)
  (hk:inSet (setK k) 10=false→revK k 10=0) :
  Calls Tryz.prog 47 #[.pointer (some ⟨g,0,none⟩),.pointer (some ⟨a,0,none⟩),.pointer (some ⟨tb,256,none⟩)] w (TokIs w B g T A C s sk k):=by
 have htab:TabAt w tb (revK k):=by obtain ⟨cs,q1,q2,q3⟩:=ht.ex;exact ⟨cs,116,q1,by decide,q3⟩
 exact (takeEsc_spec (inSet (setK k)) (revK k) h hE hs htab hi.esc hi.line hk hU).mono fun e w' hp=>esc_is hp hi
end Go.Proofs.YtkfggfjdplnkpaaGreatDoor
end
section
namespace Go.Proofs.YtkfggfjdplnkpaaGreatDoor
open Go.RowKit
def LowEq (B:Nat) (w w':World):Prop:=∀ k,k<B→w'.heap[k]?=w.heap[k]?
theorem LowEq.trans {B:Nat} {w w1 w2:World} (h:LowEq B w w1) (k:LowEq B w1 w2):LowEq B w w2:=fun i hi=>(k i hi).trans (h i hi)
theorem LowEq.of_below {B n:Nat} {w w':World} (h:Below n w w') (hn:B≤n):LowEq B w w':=fun k hk=>h.block k (Nat.lt_of_lt_of_le hk hn)
theorem LowEq.cell {B:Nat} {w w':World} (h:LowEq B w w') {b o:Nat} (hb:b<B):w'.cell? ⟨b,o,none⟩=w.cell? ⟨b,o,none⟩:=World.cell?_of_block (h b hb)
theorem LowEq.of_pas {w w':World} {B g:Nat} {T:List UInt8} {A:Ab} {C C':Cn} (hr:Rep w B g T A C) (hp:Pas g w C w' C'):LowEq B w w':=fun k hk=>
 hp.only.block k (by have:=hr.base;have:=hr.lt;omega) (hr.low_not_own hk)
structure Init (wI:World) (B:Nat):Prop where
 env:Env wI B
 tab:Lib.Utf8Tabs 4 5 wI
theorem Init.envAt {wI w:World} {B:Nat} (h:Init wI B) (k:LowEq B wI w):Env w B:=by
 obtain ⟨ea,he⟩:=h.env.eof
 exact ⟨⟨ea,(k.cell (by have:=h.env.low;omega)).trans he⟩,h.env.low⟩
theorem Init.tabAt {wI w:World} {B:Nat} (h:Init wI B) (k:LowEq B wI w):Lib.Utf8Tabs 4 5 w:=
 ⟨fun c hc=>(k.cell (by have:=h.env.low;omega)).trans (h.tab.1 c hc),fun i hi=>⟨(k.cell (by have:=h.env.low;omega)).trans (h.tab.2 i hi).1,(k.cell (by have:=h.env.low;omega)).trans (h.tab.2 i hi).2⟩⟩
structure At (wI w0:World) (C0:Cn) (B g:Nat) (T:List UInt8) (sk:Bool) (w:World) (p f k:Nat) (A:Ab) (C:Cn):Prop where
 rep:Rep w B g T A C
 pas:Pas g w0 C0 w C
 is:Is T A ⟨p,f,k⟩ sk
 low:LowEq B wI w
structure Nx (wI w0:World) (C0:Cn) (B g:Nat) (T:List UInt8) (sk:Bool) (w:World) (A:Ab) (C:Cn) (w':World) (p' f' k':Nat) (A':Ab) (C':Cn):Prop where
 to_:At wI w0 C0 B g T sk w' p' f' k' A' C'
 st:Step w B g T A C w' A' C'
section
variable {wI w0 w w':World} {C0 C C':Cn} {B g:Nat} {T:List UInt8} {sk:Bool} {p f k p' f' k':Nat} {A A':Ab}
theorem At.step (h:At wI w0 C0 B g T sk w p f k A C) (st:Step w B g T A C w' A' C') (i:Is T A' ⟨p',f',k'⟩ sk):Nx wI w0 C0 B g T sk w A C w' p' f' k' A' C':=
 ⟨⟨st.rep,h.pas.trans st.pas,i,h.low.trans (LowEq.of_pas h.rep st.pas)⟩,st⟩
theorem At.call (h:At wI w0 C0 B g T sk w p f k A C) (r:Rep w' B g T A' C') (pa:Pas g w C w' C') {sk':Bool} (i:Is T A' ⟨p',f',k'⟩ sk'):At wI w0 C0 B g T sk' w' p' f' k' A' C':=
 ⟨r,h.pas.trans pa,i,h.low.trans (LowEq.of_pas h.rep pa)⟩
theorem At.below (h:At wI w0 C0 B g T sk w p f k A C) (hb:Below w.heap.size w w'):Nx wI w0 C0 B g T sk w A C w' p f k A C:=h.step (h.rep.below hb) h.is
theorem At.drewN (h:At wI w0 C0 B g T sk w p f k A C) (n:Nat):Nx wI w0 C0 B g T sk w A C (w.drewN n) p f k A C:=h.step ((Step.refl h.rep).drewN n) h.is
theorem At.drew (h:At wI w0 C0 B g T sk w p f k A C):Nx wI w0 C0 B g T sk w A C w.drew p f k A C:=h.step (Step.refl h.rep).drew h.is
theorem At.self (h:At wI w0 C0 B g T sk w p f k A C):Nx wI w0 C0 B g T sk w A C w p f k A C:=h.step (Step.refl h.rep) h.is
theorem At.env (h:At wI w0 C0 B g T sk w p f k A C) (hI:Init wI B):Env w B:=hI.envAt h.low
theorem At.tab (h:At wI w0 C0 B g T sk w p f k A C) (hI:Init wI B):Lib.Utf8Tabs 4 5 w:=hI.tabAt h.low
theorem At.at_ (h:At wI w0 C0 B g T sk w p f k A C):A.at_=p:=h.is.at_
theorem At.from_ (h:At wI w0 C0 B g T sk w p f k A C):A.from_=f:=h.is.from_
theorem At.part (h:At wI w0 C0 B g T sk w p f k A C):A.part=k:=h.is.part
theorem At.le (h:At wI w0 C0 B g T sk w p f k A C):f≤p:=by have h1:=h.rep.at_;have h2:=h.rep.le01;have h3:=h.at_;have h4:=h.from_;omega
theorem At.inT (h:At wI w0 C0 B g T sk w p f k A C):p≤T.length:=by have h1:=h.rep.at_;have h2:=h.rep.le01;have h3:=h.at_;have h4:=h.rep.inT;have h5:=h.rep.le1;omega
theorem At.base (h:At wI w0 C0 B g T sk w p f k A C):B≤w.heap.size:=by have:=h.rep.base;have:=h.rep.lt;omega
theorem At.lineLe (h:At wI w0 C0 B g T sk w p f k A C):A.line≤1+A.at_:=by have:=h.is.line;have:=lfs_take_le T A.at_;omega
theorem Nx.told {a:Value} {bs:List UInt8} (h:Nx wI w0 C0 B g T sk w A C w' p' f' k' A' C') (t:Told w g A C a bs):Told w' g A' C' a bs:=t.stay h.st.stay h.st.pas.only.size
theorem Nx.set {a:Nat} {q:Nat→Bool} (h:Nx wI w0 C0 B g T sk w A C w' p' f' k' A' C') (hr:Rep w B g T A C) (t:SetAt w a q):SetAt w' a q:=t.step hr h.st.pas
theorem Is.pastK {j:Nat} (h:Is T A ⟨p,f,k⟩ sk) (hk:inSet j 10=false):Is T { A with at_:=A.at_+(run (inSet j) (T.drop A.at_)).length } ⟨past j T p,f,k⟩ sk:=
 ⟨by show past j T A.at_=past j T p;rw [h.at_],h.from_,h.part,h.skip,by
  show A.line=1+lfs (T.take (past j T A.at_));rw [lfs_past j hk];exact h.line,by
  have:=h.esc;have:=past_ge j T A.at_;show A.esc.length+A.from_≤past j T A.at_;omega⟩
theorem Is.eolK (h:Is T A ⟨p,f,k⟩ sk):Is T { A with at_:=(eol T A.at_).2.1,line:=A.line+(eol T A.at_).2.2 } ⟨(eol T p).2.1,f,k⟩ sk:=by
 refine ⟨by show (eol T A.at_).2.1=(eol T p).2.1;rw [h.at_],h.from_,h.part,h.skip,?_,?_⟩
 ·show A.line+_=1+lfs (T.take (eol T A.at_).2.1)
  rw [lfs_eol,h.line];omega
 ·have:=h.esc
  show A.esc.length+A.from_≤(eol T A.at_).2.1
  by_cases hp:A.at_≤T.length
  ·have:=(eol_le T A.at_ hp).1;omega
  ·unfold eol
   rw [if_neg (by omega)]
   exact this
theorem Is.one (h:Is T A ⟨p,f,k⟩ sk) (hc:T.getD p 0≠10):Is T { A with at_:=A.at_+1 } ⟨p+1,f,k⟩ sk:=by
 have e:A.at_=p:=h.at_
 exact ⟨by show A.at_+1=p+1;rw [e],h.from_,h.part,h.skip,by show A.line=1+lfs (T.take (A.at_+1));rw [lfs_step_ne (by rw [e];exact hc)];exact h.line,by have:=h.esc;show A.esc.length+A.from_≤A.at_+1;omega⟩
theorem Is.prt (h:Is T A ⟨p,f,k⟩ sk) (n:Nat):Is T { A with part:=n } ⟨p,f,n⟩ sk:=⟨h.at_,h.from_,rfl,h.skip,h.line,h.esc⟩
theorem at_ens (hI:Init wI B) (h:At wI w0 C0 B g T sk w p f k A C) (n:Nat) (hn:n≤2000) :
  Calls Tryz.prog 45 #[.pointer (some ⟨g,0,none⟩),.int .i64 (n:Int)] w fun e w'=>e=.returned (.bool (decide (p+n≤T.length)))∧∃ C',Nx wI w0 C0 B g T sk w A C w' p f k A C'∧(p+n≤T.length→C'.r1+n≤C'.bl):=
 (ensure_spec n hn h.rep (h.env hI)).mono fun e w' ⟨he,C',st,h1,_⟩=>⟨by rw [←h.at_];exact he,C',h.step st h.is,fun q=>h1 (by rw [h.at_];exact q)⟩
theorem at_at (h:At wI w0 C0 B g T sk w p f k A C) (i:Nat) (hi:i≤10) (hav:p+i<T.length→C.r1+i<C.bl) :
  Calls Tryz.prog 55 #[.pointer (some ⟨g,0,none⟩),.int .i64 (i:Int)] w fun e w'=>e=.returned (.int .u8 ((T.getD (p+i) 0).toNat:Int))∧Nx wI w0 C0 B g T sk w A C w' p f k A C:=
 (at_spec i hi h.rep (by rw [h.at_];exact hav)).mono fun e w' ⟨he,n,hk⟩=>⟨by rw [←h.at_];exact he,by rw [hk];exact h.drewN n⟩
theorem at_mk {fn:FuncId} {q:Nat→Bool} (hf:MakesSet fn q) (h:At wI w0 C0 B g T sk w p f k A C) :
  Calls Tryz.prog fn #[] w fun e w'=>∃ a,e=.returned (.pointer (some ⟨a,0,none⟩))∧SetAt w' a q∧Nx wI w0 C0 B g T sk w A C w' p f k A C:=
 (hf w).mono fun e w' ⟨a,he,hs,hb⟩=>⟨a,he,hs,h.below hb⟩
theorem at_esc {fn:FuncId} {j:Nat} {t:ByteArray} (hf:MakesEsc fn j t) (h:At wI w0 C0 B g T sk w p f k A C) :
  Calls Tryz.prog fn #[] w fun e w'=>∃ a,e=.returned (.pointer (some ⟨a,0,none⟩))∧EscBlk w' a (revK j)∧w'.cell? ⟨a,512,none⟩=some (.string t)∧Nx wI w0 C0 B g T sk w A C w' p f k A C:=
 (hf w).mono fun e w' ⟨a,he,_,hs,hc,hb⟩=>⟨a,he,hs,hc,h.below hb⟩
theorem at_get {a:Nat} {q:Nat→Bool} (hs:SetAt w a q) (x:UInt8) :
  Calls Tryz.prog 54 #[.pointer (some ⟨a,0,none⟩),.int .u8 (x.toNat:Int)] w fun e w'=>e=.returned (.bool (q x.toNat))∧w=w':=
 (set_get a q (x.toNat:Int) (by omega) (by have:=x.toNat_lt;omega) w hs).mono fun e w' ⟨he,hw⟩=>⟨by rw [he,Int.toNat_natCast],hw⟩
theorem at_take (hI:Init wI B) (h:At wI w0 C0 B g T sk w p f k A C) {a:Nat} (j:Nat) (hk:inSet j 10=false) (hs:SetAt w a (inSet j)) :
  Calls Tryz.prog 56 #[.pointer (some ⟨g,0,none⟩),.pointer (some ⟨a,0,none⟩)] w fun e w'=>∃ va c A' C',e=.returned (.slice va (run (inSet j) (T.drop p)).length c)∧(run (inSet j) (T.drop p)).length≤c∧Nx wI w0 C0 B g T sk w A C w' (past j T p) f k A' C'∧
   Told w' g A' C' (.slice va (run (inSet j) (T.drop p)).length c) (run (inSet j) (T.drop p))∧(past j T p<T.length→C'.r1<C'.bl):=
 (take_spec (inSet j) h.rep (h.env hI) hs).mono fun e w' ⟨v,C',he,st,⟨ht,va,n,c,hv,hn⟩,h1⟩=>by
  subst hv
  rw [h.at_] at ht
  obtain ⟨a2,c2,hv2⟩:=ht.len
  injection hv2 with _ hn2 _
  subst hn2
  refine ⟨va,c,_,C',he,hn,h.step st (h.is.pastK hk),?_,fun hq=>h1 ?_⟩
  ·rw [h.at_];exact ht
  ·rw [h.at_];exact hq
theorem at_tok (hI:Init wI B) (h:At wI w0 C0 B g T sk w p f k A C) {a tb:Nat} (j:Nat) (hs:SetAt w a (inSet (setK j))) (ht:EscBlk w tb (revK j)) (hk:inSet (setK j) 10=false→revK j 10=0) :
  Calls Tryz.prog 47 #[.pointer (some ⟨g,0,none⟩),.pointer (some ⟨a,0,none⟩),.pointer (some ⟨tb,256,none⟩)] w fun e w'=>∃ va c A' C' ev,e=.returned (.tuple #[.slice va (tkV sk j T p).length c,.int .i64 ((p-f:Nat):Int),ev])∧
   Told w' g A' C' (.slice va (tkV sk j T p).length c) (tkV sk j T p)∧
   (valid (tkV sk j T p)=true∧ev=.nilIface∧Nx wI w0 C0 B g T sk w A C w' (p+tkN j T p) f k A' C'∨
    ∃ q,ev=.iface 121 (.pointer (some ⟨q,0,none⟩))∧valid (tkV sk j T p)=false∧Flted w' B (fltAt T f p) (.iface 121 (.pointer (some ⟨q,0,none⟩)))∧Nx wI w0 C0 B g T sk w A C w' (p+tkN j T p) f (fpart k) A' C'):=
 (token_spec h.rep (h.env hI) (h.tab hI) hs ht h.is hk).mono fun e w' ⟨v,A',C',ev,he,st,told,hv⟩=>by
  have told':=told
  obtain ⟨va,c,rfl⟩:=told'.len
  refine ⟨va,c,A',C',ev,he,told,?_⟩
  rcases hv with ⟨h1,h2,h3⟩ | ⟨h1,h2,h3⟩
  ·exact .inl ⟨h1,h3,h.step st h2⟩
  ·have h3':=h3
   obtain ⟨q,_,hq,_⟩:=h3'
   subst hq
   exact .inr ⟨q,rfl,h1,h3,h.step st h2⟩
theorem at_new (h:At wI w0 C0 B g T sk w p f k A C) (t:ByteArray) :
  Calls Tryz.prog 51 #[.string t] w fun e w'=>∃ q,e=.returned (.iface 167 (.pointer (some ⟨q,0,none⟩)))∧Fre w' B q∧Nx wI w0 C0 B g T sk w A C w' p f k A C:=
 (errors_new t).mono fun e w' ⟨he,hb,hf⟩=>⟨_,he,⟨h.base,hf⟩,h.below hb⟩
def SynAt (wI w0:World) (C0:Cn) (B g:Nat) (T:List UInt8) (sk:Bool) (w:World) (p f k:Nat) (A:Ab) (C:Cn) (at_:Nat) (e:Ending) (w':World):Prop:=
 ∃ q A',e=.returned (.iface 121 (.pointer (some ⟨q,0,none⟩)))∧Flted w' B (fltAt T f at_) (.iface 121 (.pointer (some ⟨q,0,none⟩)))∧Nx wI w0 C0 B g T sk w A C w' p f (fpart k) A' C
theorem at_syn (h:At wI w0 C0 B g T sk w p f k A C) (at_:Nat) {off q:Nat} (hp:f+off=at_) (ho:at_≤p) (hq:Fre w B q) :
  Calls Tryz.prog 50 #[.pointer (some ⟨g,0,none⟩),.int .i64 (off:Int),.iface 167 (.pointer (some ⟨q,0,none⟩))] w (SynAt wI w0 C0 B g T sk w p f k A C at_):=by
 have e1:=h.at_
 have e2:=h.from_
 have hoff:A.from_+off≤A.at_:=by omega
 refine (syntax_spec off 167 (.pointer (some ⟨q,0,none⟩)) h.rep hoff).mono ?_
 intro e w' hp2
 obtain ⟨qe,rfl,hfl,st⟩:=syn_at h.rep hp2 h.is.line hoff hq
 refine ⟨qe,_,rfl,?_,h.step st ⟨h.is.at_,h.is.from_,?_,h.is.skip,h.is.line,h.is.esc⟩⟩
 ·rw [e2,hp] at hfl;exact hfl
 ·show errPart A=fpart k
  unfold errPart fpart
  rw [h.part]
theorem commaP_f (T:List UInt8) (p f k:Nat):∃ p' k' fo,commaP T ⟨p,f,k⟩=(⟨p',f,k'⟩,fo):=by
 unfold commaP
 split
 ·split <;> exact ⟨_,_,_,rfl⟩
 ·exact ⟨_,_,_,rfl⟩
theorem at_comma (hI:Init wI B) (h:At wI w0 C0 B g T sk w p f k A C) :
  Calls Tryz.prog 52 #[.pointer (some ⟨g,0,none⟩)] w fun e w'=>∃ p' k' A' C',
   (commaP T ⟨p,f,k⟩=(⟨p',f,k'⟩,none)∧e=.returned .nilIface∧Nx wI w0 C0 B g T sk w A C w' p' f k' A' C'∨
    ∃ fl q,commaP T ⟨p,f,k⟩=(⟨p',f,k'⟩,some fl)∧e=.returned (.iface 121 (.pointer (some ⟨q,0,none⟩)))∧Nx wI w0 C0 B g T sk w A C w' p' f k' A' C'∧Flted w' B fl (.iface 121 (.pointer (some ⟨q,0,none⟩)))):=
 (comma_spec h.rep (h.env hI) h.is).mono fun e w' ⟨A',C',ev,he,st,hi,hf⟩=>by
  obtain ⟨p',k',fo,hc⟩:=commaP_f T p f k
  rw [hc] at hi hf
  refine ⟨p',k',A',C',?_⟩
  cases fo with
  | none=>exact .inl ⟨hc,by rw [he];exact congrArg _ hf,h.step st hi⟩
  | some fl=>
   have hf':Flted w' B fl ev:=hf
   have hf2:=hf'
   obtain ⟨q,_,hq,_⟩:=hf2
   subst hq
   exact .inr ⟨fl,q,hc,he,h.step st hi,hf'⟩
theorem at_eol (hI:Init wI B) (h:At wI w0 C0 B g T sk w p f k A C) :
  Calls Tryz.prog 69 #[.pointer (some ⟨g,0,none⟩)] w fun e w'=>e=.returned (.bool (eol T p).1)∧∃ A' C',Nx wI w0 C0 B g T sk w A C w' (eol T p).2.1 f k A' C':=
 (takeEOL_spec h.rep (h.env hI) h.lineLe).mono fun e w' ⟨he,C',st⟩=>⟨by rw [←h.at_];exact he,_,C',h.step st h.is.eolK⟩
theorem at_adv (h:At wI w0 C0 B g T sk w p f k A C) (hc:T.getD p 0≠10) (hn:C.r1+1≤C.bl) :
  Calls Tryz.prog 59 #[.pointer (some ⟨g,0,none⟩),.int .i64 1] w fun e w'=>e=.returned (.tuple #[])∧∃ A' C',Nx wI w0 C0 B g T sk w A C w' (p+1) f k A' C':=
 (advance_spec 1 h.rep hn).mono fun e w' ⟨he,st⟩=>⟨he,_,_,h.step st (h.is.one hc)⟩
theorem at_part (h:At wI w0 C0 B g T sk w p f k A C) (n:Nat) (hn:n≤5):Nx wI w0 C0 B g T sk w A C (w.setCell ⟨g,5,none⟩ (.int .u8 (n:Int))) p f n { A with part:=n } C:=
 h.step (part_step n hn h.rep) (h.is.prt n)
end
end Go.Proofs.YtkfggfjdplnkpaaGreatDoor
end
