/- A part of the proof that the law FnDecodeValues returns true; its conditions are those of the last part. -/
import Derived.Test.YtkfggfjdplnkpaaGreatDoorVSynC
set_option maxRecDepth 100000
set_option linter.unusedVariables false
set_option linter.unusedSimpArgs false
section
namespace Go.Proofs.YtkfggfjdplnkpaaGreatDoor
open Go.RowKit Go.Proofs.YtkfggfjdplnkpaaGreatDoorW.PrintWords
def NewPost (w:World) (e:Ending) (w':World):Prop:=e=.returned (.iface 167 (.pointer (some ⟨w.heap.size,0,none⟩)))∧Below w.heap.size w w'∧∃ cs,w'.heap[w.heap.size]?=some (.cells cs 169 (0,0))
def Fre (w:World) (B q:Nat):Prop:=B≤q∧∃ cs,w.heap[q]?=some (.cells cs 169 (0,0))
theorem errors_new {w:World} (s:ByteArray):Calls Tryz.prog 51 #[.string s] w (NewPost w):=by
 go_enter Tryz.func51,Tryz.ntmps51
 go_wp2
 go_ret
 exact ⟨rfl,below_alloc (Below.refl _ _) _,_,heap_alloc_new _ _⟩
def eol (T:List UInt8) (p:Nat):Bool × Nat × Nat:=
 if p+1≤T.length then
  if T.getD p 0=10 then (true,p+1,1)
  else if T.getD p 0=13 then
   if p+2≤T.length then if T.getD (p+1) 0=10 then (true,p+2,1) else (false,p,0)
   else (true,p+1,0)
  else (false,p,0)
 else (true,p,0)
def EolPost (w:World) (B g:Nat) (T:List UInt8) (A:Ab) (C:Cn) (e:Ending) (w':World):Prop:=
 e=.returned (.bool (eol T A.at_).1)∧∃ C',Step w B g T A C w' { A with at_:=(eol T A.at_).2.1,line:=A.line+(eol T A.at_).2.2 } C'
theorem line_step {w:World} {B g:Nat} {T:List UInt8} {A:Ab} {C:Cn} (h:Rep w B g T A C) (hl:A.line+1≤1000000000) :
  Step w B g T A C (w.setCell ⟨g,8,none⟩ (.int .i64 ((A.line:Int)+1))) { A with line:=A.line+1 } C:=
 h.setg 8 _ (by simp [dcells]) ⟨rfl,rfl,rfl,rfl,rfl,rfl,rfl,rfl,rfl⟩ h.le01 h.le1 h.at_ hl h.prt h.escL
theorem u8_ne {x y:UInt8} (h:¬x=y):¬x.toNat=y.toNat:=fun e=>h (UInt8.toNat_inj.1 e)
set_option maxHeartbeats 1000000 in
theorem takeEOL_spec {w:World} {B g:Nat} {T:List UInt8} {A:Ab} {C:Cn} (h:Rep w B g T A C) (hE:Env w B) (hl:A.line≤1+A.at_) :
  Calls Tryz.prog 69 #[.pointer (some ⟨g,0,none⟩)] w (EolPost w B g T A C):=by
 have HH:=Lib.hid h
 have HE:=Lib.hid hE
 have hb:A.line+1≤1000000000:=by
  have:=h.big
  have:=h.inT
  have:=h.at_
  have:=h.le1
  have:=h.le01
  omega
 clear h hE
 go_enter Tryz.func69,Tryz.ntmps69
 go_wp2_with fail
 refine (ensure_spec 1 (by omega) HH.out HE.out).mono ?_
 rintro e w1 ⟨rfl,C1,s1,h1,h2⟩
 have S1:=Lib.hid s1
 clear s1
 by_cases q1:A.at_+1≤T.length
 ·rw [decide_eq_true q1]
  have h1':=h1 q1
  clear h1 h2
  go_wp2_with fail
  refine (at_spec 0 (by omega) S1.out.rep (fun _=>by omega)).mono ?_
  rintro e w2 ⟨rfl,k,rfl⟩
  rw [Nat.add_zero]
  generalize hx:T.getD A.at_ 0=x
  have HX:=Lib.hid hx
  clear hx
  by_cases c1:x=10
  ·have d1:(x.toNat:Int)=10:=by rw [c1];rfl
   rw [d1]
   have S2:=Lib.hid (S1.out.drewN k)
   have HF:=Lib.hid c1
   clear c1 d1
   revert S2
   generalize w1.drewN k=w2
   intro S2
   go_wp2_with fail
   refine (advance_spec 1 S2.out.rep (by omega)).mono ?_
   rintro e w3 ⟨rfl,s3⟩
   have S3:=Lib.hid (S2.out.trans s3)
   clear s3
   have c8:=S3.out.rep.c8
   have f8:=S3.out.rep.fz 8
   dsimp only at c8
   have b1:(A.line:Int)≤1000000000:=by omega
   go_wp2
   go_ret
   have e1:eol T A.at_=(true,A.at_+1,1):=by unfold eol;rw [if_pos q1,HX.out,if_pos HF.out]
   refine ⟨by rw [e1];rfl,{ C1 with r1:=C1.r1+1 },?_⟩
   rw [e1]
   exact S3.out.trans (line_step S3.out.rep hb)
  ·have d1:¬(x.toNat:Int)=10:=fun e=>u8_ne c1 (by show x.toNat=10;omega)
   by_cases c2:x=13
   ·have d2:(x.toNat:Int)=13:=by rw [c2];rfl
    rw [d2]
    have S2:=Lib.hid (S1.out.drewN k)
    have HF:=Lib.hid c1
    have HG:=Lib.hid c2
    clear c1 c2 d1 d2
    revert S2
    generalize w1.drewN k=w2
    intro S2
    go_wp2_with fail
    refine (ensure_spec 2 (by omega) S2.out.rep (HE.out.pas HH.out S2.out)).mono ?_
    rintro e w3 ⟨rfl,C2,s3,h1,h2⟩
    have S3:=Lib.hid (S2.out.trans s3)
    clear s3
    by_cases q2:A.at_+2≤T.length
    ·rw [decide_eq_true q2]
     have h2':=h1 q2
     clear h1 h2
     go_wp2_with fail
     refine (at_spec 1 (by omega) S3.out.rep (fun _=>by omega)).mono ?_
     rintro e w4 ⟨rfl,k2,rfl⟩
     generalize hy:T.getD (A.at_+1) 0=y
     have HY:=Lib.hid hy
     clear hy
     by_cases c3:y=10
     ·have d1:(y.toNat:Int)=10:=by rw [c3];rfl
      rw [d1]
      have S4:=Lib.hid (S3.out.drewN k2)
      have HI:=Lib.hid c3
      clear c3 d1
      revert S4
      generalize w3.drewN k2=w4
      intro S4
      go_wp2_with fail
      refine (advance_spec 2 S4.out.rep (by omega)).mono ?_
      rintro e w5 ⟨rfl,s5⟩
      have S5:=Lib.hid (S4.out.trans s5)
      clear s5
      have c8:=S5.out.rep.c8
      have f8:=S5.out.rep.fz 8
      dsimp only at c8
      have b1:(A.line:Int)≤1000000000:=by omega
      go_wp2
      go_ret
      have e1:eol T A.at_=(true,A.at_+2,1):=by unfold eol;rw [if_pos q1,HX.out,if_neg HF.out,if_pos HG.out,if_pos q2,HY.out,if_pos HI.out]
      refine ⟨by rw [e1];rfl,{ C2 with r1:=C2.r1+2 },?_⟩
      rw [e1]
      exact S5.out.trans (line_step S5.out.rep hb)
     ·have d1:¬(y.toNat:Int)=10:=fun e=>u8_ne c3 (by show y.toNat=10;omega)
      have e1:eol T A.at_=(false,A.at_,0):=by unfold eol;rw [if_pos q1,HX.out,if_neg HF.out,if_pos HG.out,if_pos q2,HY.out,if_neg c3]
      have HI:=Lib.hid e1
      clear e1 c3
      go_wp2
      go_ret
      refine ⟨by rw [HI.out];rfl,C2,?_⟩
      rw [HI.out]
      exact S3.out.drewN k2
    ·rw [decide_eq_false q2]
     have h3:C2.r1+1≤C2.bl:=by
      have e1:=S3.out.rep.all (h2 q2)
      have e2:=S3.out.rep.at_
      have e3:=S3.out.rep.le01
      have e4:=S3.out.rep.le1
      skip
      omega
     clear h1 h2
     go_wp2_with fail
     refine (advance_spec 1 S3.out.rep h3).mono ?_
     rintro e w5 ⟨rfl,s5⟩
     have S5:=Lib.hid (S3.out.trans s5)
     clear s5
     go_wp2
     go_ret
     have e1:eol T A.at_=(true,A.at_+1,0):=by unfold eol;rw [if_pos q1,HX.out,if_neg HF.out,if_pos HG.out,if_neg q2]
     refine ⟨by rw [e1];rfl,{ C2 with r1:=C2.r1+1 },?_⟩
     rw [e1]
     exact S5.out
   ·have d2:¬(x.toNat:Int)=13:=fun e=>u8_ne c2 (by show x.toNat=13;omega)
    have e1:eol T A.at_=(false,A.at_,0):=by unfold eol;rw [if_pos q1,HX.out,if_neg c1,if_neg c2]
    have HF:=Lib.hid e1
    clear e1 c1 c2
    go_wp2
    go_ret
    refine ⟨by rw [HF.out];rfl,C1,?_⟩
    rw [HF.out]
    exact S1.out.drewN k
 ·rw [decide_eq_false q1]
  clear h1 h2
  go_wp2
  go_ret
  have e1:eol T A.at_=(true,A.at_,0):=by unfold eol;rw [if_neg q1]
  refine ⟨by rw [e1];rfl,C1,?_⟩
  rw [e1]
  exact S1.out
end Go.Proofs.YtkfggfjdplnkpaaGreatDoor
end
