/- A part of the proof that the law FnDecodeValues returns true; its conditions are those of the last part. -/
import Derived.Test.YtkfggfjdplnkpaaGreatDoorVSynA
import Derived.Test.YtkfggfjdplnkpaaGreatDoorVSynB
set_option maxRecDepth 100000
set_option linter.unusedVariables false
set_option linter.unusedSimpArgs false
section
namespace Go.Proofs.YtkfggfjdplnkpaaGreatDoor
open Go.RowKit Go.Proofs.YtkfggfjdplnkpaaGreatDoorW.PrintWords PFnDecodeScript
theorem syntax_spec {w:World} {B g:Nat} {T:List UInt8} {A:Ab} {C:Cn} (off:Nat) (et:TypeId) (ev:Value) (h:Rep w B g T A C) (ho:A.from_+off≤A.at_) :
  Calls Tryz.prog 50 #[.pointer (some ⟨g,0,none⟩),.int .i64 (off:Int),.iface et ev] w (SynPost w B g T A C off (.iface et ev)):=by
 by_cases hp:A.part=5
 ·skip
  by_cases hn:C.bv.ownBlock=none
  ·have hv:C.bv=.slice none 0 0:=by
    rcases h.form with ⟨q,_⟩ | ⟨b,cap,q,_⟩
    ·exact q
    ·rw [q] at hn;cases hn
   exact syn_n1 off et ev h ho hv hp
  ·obtain ⟨va,vc,hv,hvc,_⟩:=h.bv_slice
   by_cases q1:vc=C.r0
   ·exact syn_z1 off et ev h ho va hn hp (by rw [hv,q1])
   ·by_cases q2:vc=C.r0+off
    ·have q3:0<off:=by omega
     by_cases ht:tailLen ((T.drop A.from_).take off)=off
     ·exact syn_q10 off et ev h ho va hn hp ht q3 (by rw [hv,q2])
     ·by_cases ht1:tailLen ((T.drop A.from_).take off)=0
      ·exact syn_q11 off et ev h ho va hn hp ht ht1 q3 (by rw [hv,q2])
      ·exact syn_q12 off et ev h ho va hn hp ht (by omega) q3 (by rw [hv,q2])
    ·have e1:∀ c,C.bv≠.slice c C.bl C.r0:=fun c e=>by rw [hv] at e;injection e with _ _ e3;exact q1 e3
     have e2:∀ c,C.bv≠.slice c C.bl (C.r0+off):=fun c e=>by rw [hv] at e;injection e with _ _ e3;exact q2 e3
     by_cases ht:tailLen ((T.drop A.from_).take off)=off
     ·exact syn_m10 off et ev h ho hn hp ht e1 e2
     ·exact syn_m11 off et ev h ho hn hp ht e1 e2
 ·skip
  by_cases hn:C.bv.ownBlock=none
  ·have hv:C.bv=.slice none 0 0:=by
    rcases h.form with ⟨q,_⟩ | ⟨b,cap,q,_⟩
    ·exact q
    ·rw [q] at hn;cases hn
   exact syn_n0 off et ev h ho hv hp
  ·obtain ⟨va,vc,hv,hvc,_⟩:=h.bv_slice
   by_cases q1:vc=C.r0
   ·exact syn_z0 off et ev h ho va hn hp (by rw [hv,q1])
   ·by_cases q2:vc=C.r0+off
    ·have q3:0<off:=by omega
     by_cases ht:tailLen ((T.drop A.from_).take off)=off
     ·exact syn_q00 off et ev h ho va hn hp ht q3 (by rw [hv,q2])
     ·by_cases ht1:tailLen ((T.drop A.from_).take off)=0
      ·exact syn_q01 off et ev h ho va hn hp ht ht1 q3 (by rw [hv,q2])
      ·exact syn_q02 off et ev h ho va hn hp ht (by omega) q3 (by rw [hv,q2])
    ·have e1:∀ c,C.bv≠.slice c C.bl C.r0:=fun c e=>by rw [hv] at e;injection e with _ _ e3;exact q1 e3
     have e2:∀ c,C.bv≠.slice c C.bl (C.r0+off):=fun c e=>by rw [hv] at e;injection e with _ _ e3;exact q2 e3
     by_cases ht:tailLen ((T.drop A.from_).take off)=off
     ·exact syn_m00 off et ev h ho hn hp ht e1 e2
     ·exact syn_m01 off et ev h ho hn hp ht e1 e2
end Go.Proofs.YtkfggfjdplnkpaaGreatDoor
end
