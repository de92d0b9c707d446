/- A part of the proof that the law FnDecodeValues returns true; its conditions are those of the last part. -/
import Derived.Test.YtkfggfjdplnkpaaGreatDoorVPFnDecodeScriptx0
set_option maxRecDepth 100000
set_option linter.unusedVariables false
set_option linter.unusedSimpArgs false
section
namespace Go.Proofs.YtkfggfjdplnkpaaGreatDoor
open Go.RowKit Go.Proofs.YtkfggfjdplnkpaaGreatDoorW.PrintWords PFnDecodeScript
set_option maxHeartbeats 1000000 in
theorem syn_m10 {w:World} {B g:Nat} {T:List UInt8} {A:Ab} {C:Cn} (off:Nat) (et:TypeId) (ev:Value) (h:Rep w B g T A C) (ho:A.from_+off≤A.at_) (hbn:C.bv.ownBlock≠none) (hp5:A.part=5) (ht0:tailLen ((T.drop A.from_).take off)=off) (q1:∀ c,C.bv≠.slice c C.bl C.r0) (q2:∀ c,C.bv≠.slice c C.bl (C.r0+off)) :
  Calls Tryz.prog 50 #[.pointer (some ⟨g,0,none⟩),.int .i64 (off:Int),.iface et ev] w (SynPost w B g T A C off (.iface et ev)):=by
 have hbl:=h.bl_le
 have h01:=h.le01
 have hl1:=h.le1
 have hat:=h.at_
 have hin:=h.inT
 have hbg:=h.big
 have c1:=h.c1
 have c2:=h.c2
 have c3:=h.c3
 have c5:=h.c5
 have c8:=h.c8
 have f5:=h.fz 5
 have hpt:=h.prt
 have hln:=h.bigl
 have b1:(C.r0:Int)≤5000:=by omega
 have b2:(off:Int)≤5000:=by omega
 have b3:(C.r1:Int)≤5000:=by omega
 have b4:(C.bl:Int)≤5000:=by omega
 have b5:0≤(C.r0:Int)+(off:Int):=by omega
 have b6:((C.r0:Int)+(off:Int)).toNat=C.r0+off:=by omega
 have b7:C.r0+off≤C.r1:=by omega
 have b8:(C.r0:Int)+(off:Int)≤(C.r1:Int):=by omega
 have b9:(C.r0:Int)≤(C.r0:Int)+(off:Int):=by omega
 have b10:(C.r1:Int)≤(C.bl:Int):=by omega
 have b11:C.r0+off-C.r0=off:=by omega
 have b12:C.r0≤C.r0+off:=by omega
 have b13:(A.line:Int)≤1000000000:=by omega
 have b14:((C.r0:Int)+(off:Int)-(C.r0:Int)).toNat=off:=by omega
 obtain ⟨va,vc,hv,hvc,hvm⟩:=h.bv_slice
 have hva:va≠none:=fun e=>hbn (by rw [hv,e];rfl)
 rw [hv] at c1
 unfold maxLen at hvm
 have b15:(C.r0:Int)+(off:Int)≤(vc:Int):=by omega
 have b16:C.r0+off≤vc:=by omega
 have b17:C.r1≤vc:=by omega
 have b19:off≤vc-C.r0:=by omega
 have b20:C.r1-(C.r0+off)≤vc-(C.r0+off):=by omega
 have b18:(C.r1:Int)≤(vc:Int):=by omega
 have hL1:((T.drop A.from_).take off).length=off:=by rw [List.length_take,List.length_drop];omega
 have hL2:((T.drop (A.from_+off)).take (A.at_-(A.from_+off))).length=C.r1-(C.r0+off):=by rw [List.length_take,List.length_drop];omega
 obtain ⟨bs1,hb1⟩:∃ l,l=(T.drop A.from_).take off:=⟨_,rfl⟩
 obtain ⟨bs2,hb2⟩:∃ l,l=(T.drop (A.from_+off)).take (A.at_-(A.from_+off)):=⟨_,rfl⟩
 rw [←hb1] at hL1
 rw [←hb2] at hL2
 have ht:=tailLen_le bs1
 have hlf:lfs bs2≤1000:=by
  have:lfs bs2≤bs2.length:=List.countP_le_length
  omega
 have HH:=Lib.hid h
 have HB1:=Lib.hid hb1
 have HB2:=Lib.hid hb2
 have HV:=Lib.hid hv
 have HF1:Hid (A.part=5→∀ n c,c=(tailLen bs1:Int)+1→SynPost w B g T A C off (.iface et ev) (.returned (.iface 121 (.pointer (some ⟨w.heap.size,0,none⟩)))) ((w.drewN n).alloc (.cells #[.int .i64 ((A.line:Int)-(lfs bs2:Int)),.int .i64 c,.iface et ev] 124 (0,0)))):=by
  refine Lib.hid fun hp n c hc=>⟨w.heap.size,rfl,Nat.le_refl _,?_,?_⟩
  ·have:=blk_new (w.drewN n) (.cells #[.int .i64 ((A.line:Int)-(lfs bs2:Int)),.int .i64 c,.iface et ev] 124 (0,0))
   rw [hc,HB1.out,HB2.out] at *
   exact this
  ·have:=HH.out.below (w':=(w.drewN n).alloc (.cells #[.int .i64 ((A.line:Int)-(lfs bs2:Int)),.int .i64 c,.iface et ev] 124 (0,0))) (below_alloc (pw_below_drewN (Below.refl _ _) _) _)
   have e:({ A with part:=errPart A }:Ab)=A:=by unfold errPart;rw [if_pos hp,←hp]
   rw [e]
   exact this
 have HF2:Hid (¬A.part=5→∀ n c,c=(tailLen bs1:Int)+1→SynPost w B g T A C off (.iface et ev) (.returned (.iface 121 (.pointer (some ⟨w.heap.size,0,none⟩)))) (((w.drewN n).setCell ⟨g,5,none⟩ (.int .u8 4)).alloc (.cells #[.int .i64 ((A.line:Int)-(lfs bs2:Int)),.int .i64 c,.iface et ev] 124 (0,0)))):=by
  refine Lib.hid fun hp n c hc=>⟨w.heap.size,rfl,Nat.le_refl _,?_,?_⟩
  ·have:=blk_new ((w.drewN n).setCell ⟨g,5,none⟩ (.int .u8 4)) (.cells #[.int .i64 ((A.line:Int)-(lfs bs2:Int)),.int .i64 c,.iface et ev] 124 (0,0))
   rw [show ((w.drewN n).setCell ⟨g,5,none⟩ (.int .u8 4)).heap.size=w.heap.size from by simp] at this
   rw [hc,HB1.out,HB2.out] at *
   exact this
  ·have s1:=(Step.refl HH.out).drewN n
   have s2:=s1.rep.setg (A':={ A with part:=4 }) (C':=C) 5 (.int .u8 4) (by simp [dcells]) ⟨rfl,rfl,rfl,rfl,rfl,rfl,rfl,rfl,rfl⟩ HH.out.le01 HH.out.le1 HH.out.at_ HH.out.bigl (by show 4≤5;omega) HH.out.escL
   have s3:=s2.rep.below (w':=((w.drewN n).setCell ⟨g,5,none⟩ (.int .u8 4)).alloc (.cells #[.int .i64 ((A.line:Int)-(lfs bs2:Int)),.int .i64 c,.iface et ev] 124 (0,0))) (below_alloc (Below.refl _ _) _)
   have e:({ A with part:=errPart A }:Ab)={ A with part:=4 }:=by unfold errPart;rw [if_neg hp]
   rw [e]
   exact (s1.trans s2).trans s3
 cases va with
 | none=>exact absurd rfl hva
 | some ad=>
  have had:ad=⟨ad.block,0,none⟩:=by
   rcases h.form with ⟨q,_⟩ | ⟨b,cap,q,_⟩
   ·rw [hv] at q;cases q
   ·rw [hv] at q;injection q with q1 q2 q3;injection q1 with q1;rw [q1]
  obtain ⟨b,hb⟩:∃ b,ad.block=b:=⟨_,rfl⟩
  rw [hb] at had
  subst had
  clear hb hb1 hb2 hv
  have HK1:Hid (∀ (w1:World) (a1:Nat) (c:Nat),w1.heap=w.heap→(a1=C.r0∨off=0)→(Kd.int .u8).C w1 (some ⟨b,a1,none⟩) (nums bs1).length (nums bs1)):=by
   refine Lib.hid fun w1 a1 c hw1 ha=>?_
   have h':=HH.out.of_heap hw1
   rcases ha with rfl | ha
   ·have:=h'.told (c:=c) HV.out (lo:=C.r0) (k:=off) (Nat.le_refl _) (by omega)
    rw [Nat.sub_self,Nat.add_zero,←HB1.out] at this
    exact (this.kd (by omega)).2
   ·have:=Told.nil (w:=w1) (g:=g) (A:=A) (C:=C) (some ⟨b,a1,none⟩) c
    have e:bs1=[]:=List.eq_nil_of_length_eq_zero (by omega)
    rw [e]
    exact (this.kd (by simp)).2
  have HK2:Hid (∀ (w1:World) (a1:Nat) (c:Nat),w1.heap=w.heap→(a1=C.r0+off∨C.r1-(C.r0+off)=0)→(Kd.int .u8).C w1 (some ⟨b,a1,none⟩) (nums bs2).length (nums bs2)):=by
   refine Lib.hid fun w1 a1 c hw1 ha=>?_
   have h':=HH.out.of_heap hw1
   rcases ha with rfl | ha
   ·have:=h'.told (c:=c) HV.out (lo:=C.r0+off) (k:=C.r1-(C.r0+off)) (by omega) (by omega)
    rw [show C.r0+off-C.r0=off by omega,show C.r1-(C.r0+off)=A.at_-(A.from_+off) by omega,←HB2.out] at this
    exact (this.kd (by omega)).2
   ·have:=Told.nil (w:=w1) (g:=g) (A:=A) (C:=C) (some ⟨b,a1,none⟩) c
    have e:bs2=[]:=List.eq_nil_of_length_eq_zero (by omega)
    rw [e]
    exact (this.kd (by simp)).2
  have HP:=Lib.hid hp5
  clear hp5
  rw [←HB1.out] at ht0
  have q1':¬vc=C.r0:=fun e=>q1 _ (by rw [HV.out,e])
  have q2':¬vc=C.r0+off:=fun e=>q2 _ (by rw [HV.out,e])
  clear q1 q2 hbn
  have d1:¬((off:Int)-1-(tailLen bs1:Int)≥0):=by omega
  clear h ho
  go_enter Tryz.func50,Tryz.ntmps50
  go_wp2
  go_quiet (fail)
  go_wp2_with fail
  refine (last_calls (c0:=vc-C.r0) bs1 (by omega) (by omega) (HK1.out _ _ 0 (by rfl) (.inl rfl)) (by omega)).mono ?_
  rintro _ _ ⟨rfl,k1,rfl⟩
  rw [World.drewN_drewN]
  go_wp2
  go_quiet (fail)
  go_wp2
  go_quiet (exact quiet_add (count_calls (c0:=vc-(C.r0+off)) bs2 (by omega) (by omega) (HK2.out _ _ 0 (by rfl) (.inl rfl)) (by omega)))
  have hp:=HP.out
  rw [hp] at c5
  go_wp2
  go_ret
  exact HF1.out hp _ _ (by omega)
set_option maxHeartbeats 1000000 in
theorem syn_m11 {w:World} {B g:Nat} {T:List UInt8} {A:Ab} {C:Cn} (off:Nat) (et:TypeId) (ev:Value) (h:Rep w B g T A C) (ho:A.from_+off≤A.at_) (hbn:C.bv.ownBlock≠none) (hp5:A.part=5) (ht0:¬tailLen ((T.drop A.from_).take off)=off) (q1:∀ c,C.bv≠.slice c C.bl C.r0) (q2:∀ c,C.bv≠.slice c C.bl (C.r0+off)) :
  Calls Tryz.prog 50 #[.pointer (some ⟨g,0,none⟩),.int .i64 (off:Int),.iface et ev] w (SynPost w B g T A C off (.iface et ev)):=by
 have hbl:=h.bl_le
 have h01:=h.le01
 have hl1:=h.le1
 have hat:=h.at_
 have hin:=h.inT
 have hbg:=h.big
 have c1:=h.c1
 have c2:=h.c2
 have c3:=h.c3
 have c5:=h.c5
 have c8:=h.c8
 have f5:=h.fz 5
 have hpt:=h.prt
 have hln:=h.bigl
 have b1:(C.r0:Int)≤5000:=by omega
 have b2:(off:Int)≤5000:=by omega
 have b3:(C.r1:Int)≤5000:=by omega
 have b4:(C.bl:Int)≤5000:=by omega
 have b5:0≤(C.r0:Int)+(off:Int):=by omega
 have b6:((C.r0:Int)+(off:Int)).toNat=C.r0+off:=by omega
 have b7:C.r0+off≤C.r1:=by omega
 have b8:(C.r0:Int)+(off:Int)≤(C.r1:Int):=by omega
 have b9:(C.r0:Int)≤(C.r0:Int)+(off:Int):=by omega
 have b10:(C.r1:Int)≤(C.bl:Int):=by omega
 have b11:C.r0+off-C.r0=off:=by omega
 have b12:C.r0≤C.r0+off:=by omega
 have b13:(A.line:Int)≤1000000000:=by omega
 have b14:((C.r0:Int)+(off:Int)-(C.r0:Int)).toNat=off:=by omega
 obtain ⟨va,vc,hv,hvc,hvm⟩:=h.bv_slice
 have hva:va≠none:=fun e=>hbn (by rw [hv,e];rfl)
 rw [hv] at c1
 unfold maxLen at hvm
 have b15:(C.r0:Int)+(off:Int)≤(vc:Int):=by omega
 have b16:C.r0+off≤vc:=by omega
 have b17:C.r1≤vc:=by omega
 have b19:off≤vc-C.r0:=by omega
 have b20:C.r1-(C.r0+off)≤vc-(C.r0+off):=by omega
 have b18:(C.r1:Int)≤(vc:Int):=by omega
 have hL1:((T.drop A.from_).take off).length=off:=by rw [List.length_take,List.length_drop];omega
 have hL2:((T.drop (A.from_+off)).take (A.at_-(A.from_+off))).length=C.r1-(C.r0+off):=by rw [List.length_take,List.length_drop];omega
 obtain ⟨bs1,hb1⟩:∃ l,l=(T.drop A.from_).take off:=⟨_,rfl⟩
 obtain ⟨bs2,hb2⟩:∃ l,l=(T.drop (A.from_+off)).take (A.at_-(A.from_+off)):=⟨_,rfl⟩
 rw [←hb1] at hL1
 rw [←hb2] at hL2
 have ht:=tailLen_le bs1
 have hlf:lfs bs2≤1000:=by
  have:lfs bs2≤bs2.length:=List.countP_le_length
  omega
 have HH:=Lib.hid h
 have HB1:=Lib.hid hb1
 have HB2:=Lib.hid hb2
 have HV:=Lib.hid hv
 have HF1:Hid (A.part=5→∀ n c,c=(tailLen bs1:Int)+1→SynPost w B g T A C off (.iface et ev) (.returned (.iface 121 (.pointer (some ⟨w.heap.size,0,none⟩)))) ((w.drewN n).alloc (.cells #[.int .i64 ((A.line:Int)-(lfs bs2:Int)),.int .i64 c,.iface et ev] 124 (0,0)))):=by
  refine Lib.hid fun hp n c hc=>⟨w.heap.size,rfl,Nat.le_refl _,?_,?_⟩
  ·have:=blk_new (w.drewN n) (.cells #[.int .i64 ((A.line:Int)-(lfs bs2:Int)),.int .i64 c,.iface et ev] 124 (0,0))
   rw [hc,HB1.out,HB2.out] at *
   exact this
  ·have:=HH.out.below (w':=(w.drewN n).alloc (.cells #[.int .i64 ((A.line:Int)-(lfs bs2:Int)),.int .i64 c,.iface et ev] 124 (0,0))) (below_alloc (pw_below_drewN (Below.refl _ _) _) _)
   have e:({ A with part:=errPart A }:Ab)=A:=by unfold errPart;rw [if_pos hp,←hp]
   rw [e]
   exact this
 have HF2:Hid (¬A.part=5→∀ n c,c=(tailLen bs1:Int)+1→SynPost w B g T A C off (.iface et ev) (.returned (.iface 121 (.pointer (some ⟨w.heap.size,0,none⟩)))) (((w.drewN n).setCell ⟨g,5,none⟩ (.int .u8 4)).alloc (.cells #[.int .i64 ((A.line:Int)-(lfs bs2:Int)),.int .i64 c,.iface et ev] 124 (0,0)))):=by
  refine Lib.hid fun hp n c hc=>⟨w.heap.size,rfl,Nat.le_refl _,?_,?_⟩
  ·have:=blk_new ((w.drewN n).setCell ⟨g,5,none⟩ (.int .u8 4)) (.cells #[.int .i64 ((A.line:Int)-(lfs bs2:Int)),.int .i64 c,.iface et ev] 124 (0,0))
   rw [show ((w.drewN n).setCell ⟨g,5,none⟩ (.int .u8 4)).heap.size=w.heap.size from by simp] at this
   rw [hc,HB1.out,HB2.out] at *
   exact this
  ·have s1:=(Step.refl HH.out).drewN n
   have s2:=s1.rep.setg (A':={ A with part:=4 }) (C':=C) 5 (.int .u8 4) (by simp [dcells]) ⟨rfl,rfl,rfl,rfl,rfl,rfl,rfl,rfl,rfl⟩ HH.out.le01 HH.out.le1 HH.out.at_ HH.out.bigl (by show 4≤5;omega) HH.out.escL
   have s3:=s2.rep.below (w':=((w.drewN n).setCell ⟨g,5,none⟩ (.int .u8 4)).alloc (.cells #[.int .i64 ((A.line:Int)-(lfs bs2:Int)),.int .i64 c,.iface et ev] 124 (0,0))) (below_alloc (Below.refl _ _) _)
   have e:({ A with part:=errPart A }:Ab)={ A with part:=4 }:=by unfold errPart;rw [if_neg hp]
   rw [e]
   exact (s1.trans s2).trans s3
 cases va with
 | none=>exact absurd rfl hva
 | some ad=>
  have had:ad=⟨ad.block,0,none⟩:=by
   rcases h.form with ⟨q,_⟩ | ⟨b,cap,q,_⟩
   ·rw [hv] at q;cases q
   ·rw [hv] at q;injection q with q1 q2 q3;injection q1 with q1;rw [q1]
  obtain ⟨b,hb⟩:∃ b,ad.block=b:=⟨_,rfl⟩
  rw [hb] at had
  subst had
  clear hb hb1 hb2 hv
  have HK1:Hid (∀ (w1:World) (a1:Nat) (c:Nat),w1.heap=w.heap→(a1=C.r0∨off=0)→(Kd.int .u8).C w1 (some ⟨b,a1,none⟩) (nums bs1).length (nums bs1)):=by
   refine Lib.hid fun w1 a1 c hw1 ha=>?_
   have h':=HH.out.of_heap hw1
   rcases ha with rfl | ha
   ·have:=h'.told (c:=c) HV.out (lo:=C.r0) (k:=off) (Nat.le_refl _) (by omega)
    rw [Nat.sub_self,Nat.add_zero,←HB1.out] at this
    exact (this.kd (by omega)).2
   ·have:=Told.nil (w:=w1) (g:=g) (A:=A) (C:=C) (some ⟨b,a1,none⟩) c
    have e:bs1=[]:=List.eq_nil_of_length_eq_zero (by omega)
    rw [e]
    exact (this.kd (by simp)).2
  have HK2:Hid (∀ (w1:World) (a1:Nat) (c:Nat),w1.heap=w.heap→(a1=C.r0+off∨C.r1-(C.r0+off)=0)→(Kd.int .u8).C w1 (some ⟨b,a1,none⟩) (nums bs2).length (nums bs2)):=by
   refine Lib.hid fun w1 a1 c hw1 ha=>?_
   have h':=HH.out.of_heap hw1
   rcases ha with rfl | ha
   ·have:=h'.told (c:=c) HV.out (lo:=C.r0+off) (k:=C.r1-(C.r0+off)) (by omega) (by omega)
    rw [show C.r0+off-C.r0=off by omega,show C.r1-(C.r0+off)=A.at_-(A.from_+off) by omega,←HB2.out] at this
    exact (this.kd (by omega)).2
   ·have:=Told.nil (w:=w1) (g:=g) (A:=A) (C:=C) (some ⟨b,a1,none⟩) c
    have e:bs2=[]:=List.eq_nil_of_length_eq_zero (by omega)
    rw [e]
    exact (this.kd (by simp)).2
  have HP:=Lib.hid hp5
  clear hp5
  rw [←HB1.out] at ht0
  have q1':¬vc=C.r0:=fun e=>q1 _ (by rw [HV.out,e])
  have q2':¬vc=C.r0+off:=fun e=>q2 _ (by rw [HV.out,e])
  clear q1 q2 hbn
  have d1:(off:Int)-1-(tailLen bs1:Int)≥0:=by omega
  have d2:((off:Int)-1-(tailLen bs1:Int)+1).toNat=off-tailLen bs1:=by omega
  have d3:off-(off-tailLen bs1)=tailLen bs1:=by omega
  have d4:(off:Int)-1-(tailLen bs1:Int)+1≤(off:Int):=by omega
  have d5:0≤(off:Int)-1-(tailLen bs1:Int)+1:=by omega
  have d6:off-tailLen bs1≤off:=by omega
  have d7:(tailLen bs1:Int)≤5000:=by omega
  clear h ho
  go_enter Tryz.func50,Tryz.ntmps50
  go_wp2
  go_quiet (fail)
  go_wp2_with fail
  refine (last_calls (c0:=vc-C.r0) bs1 (by omega) (by omega) (HK1.out _ _ 0 (by rfl) (.inl rfl)) (by omega)).mono ?_
  rintro _ _ ⟨rfl,k1,rfl⟩
  rw [World.drewN_drewN]
  go_wp2
  go_quiet (fail)
  go_wp2
  go_quiet (exact quiet_add (count_calls (c0:=vc-(C.r0+off)) bs2 (by omega) (by omega) (HK2.out _ _ 0 (by rfl) (.inl rfl)) (by omega)))
  have hp:=HP.out
  rw [hp] at c5
  go_wp2
  go_ret
  exact HF1.out hp _ _ (by omega)
set_option maxHeartbeats 1000000 in
theorem syn_q10 {w:World} {B g:Nat} {T:List UInt8} {A:Ab} {C:Cn} (off:Nat) (et:TypeId) (ev:Value) (h:Rep w B g T A C) (ho:A.from_+off≤A.at_) (a:Option Addr) (hbn:C.bv.ownBlock≠none) (hp5:A.part=5) (ht0:tailLen ((T.drop A.from_).take off)=off) (q1:0<off) (q2:C.bv=.slice a C.bl (C.r0+off)) :
  Calls Tryz.prog 50 #[.pointer (some ⟨g,0,none⟩),.int .i64 (off:Int),.iface et ev] w (SynPost w B g T A C off (.iface et ev)):=by
 have hbl:=h.bl_le
 have h01:=h.le01
 have hl1:=h.le1
 have hat:=h.at_
 have hin:=h.inT
 have hbg:=h.big
 have c1:=h.c1
 have c2:=h.c2
 have c3:=h.c3
 have c5:=h.c5
 have c8:=h.c8
 have f5:=h.fz 5
 have hpt:=h.prt
 have hln:=h.bigl
 have b1:(C.r0:Int)≤5000:=by omega
 have b2:(off:Int)≤5000:=by omega
 have b3:(C.r1:Int)≤5000:=by omega
 have b4:(C.bl:Int)≤5000:=by omega
 have b5:0≤(C.r0:Int)+(off:Int):=by omega
 have b6:((C.r0:Int)+(off:Int)).toNat=C.r0+off:=by omega
 have b7:C.r0+off≤C.r1:=by omega
 have b8:(C.r0:Int)+(off:Int)≤(C.r1:Int):=by omega
 have b9:(C.r0:Int)≤(C.r0:Int)+(off:Int):=by omega
 have b10:(C.r1:Int)≤(C.bl:Int):=by omega
 have b11:C.r0+off-C.r0=off:=by omega
 have b12:C.r0≤C.r0+off:=by omega
 have b13:(A.line:Int)≤1000000000:=by omega
 have b14:((C.r0:Int)+(off:Int)-(C.r0:Int)).toNat=off:=by omega
 obtain ⟨va,vc,hv,hvc,hvm⟩:=h.bv_slice
 have hva:va≠none:=fun e=>hbn (by rw [hv,e];rfl)
 rw [hv] at c1
 unfold maxLen at hvm
 have b15:(C.r0:Int)+(off:Int)≤(vc:Int):=by omega
 have b16:C.r0+off≤vc:=by omega
 have b17:C.r1≤vc:=by omega
 have b19:off≤vc-C.r0:=by omega
 have b20:C.r1-(C.r0+off)≤vc-(C.r0+off):=by omega
 have b18:(C.r1:Int)≤(vc:Int):=by omega
 have hL1:((T.drop A.from_).take off).length=off:=by rw [List.length_take,List.length_drop];omega
 have hL2:((T.drop (A.from_+off)).take (A.at_-(A.from_+off))).length=C.r1-(C.r0+off):=by rw [List.length_take,List.length_drop];omega
 obtain ⟨bs1,hb1⟩:∃ l,l=(T.drop A.from_).take off:=⟨_,rfl⟩
 obtain ⟨bs2,hb2⟩:∃ l,l=(T.drop (A.from_+off)).take (A.at_-(A.from_+off)):=⟨_,rfl⟩
 rw [←hb1] at hL1
 rw [←hb2] at hL2
 have ht:=tailLen_le bs1
 have hlf:lfs bs2≤1000:=by
  have:lfs bs2≤bs2.length:=List.countP_le_length
  omega
 have HH:=Lib.hid h
 have HB1:=Lib.hid hb1
 have HB2:=Lib.hid hb2
 have HV:=Lib.hid hv
 have HF1:Hid (A.part=5→∀ n c,c=(tailLen bs1:Int)+1→SynPost w B g T A C off (.iface et ev) (.returned (.iface 121 (.pointer (some ⟨w.heap.size,0,none⟩)))) ((w.drewN n).alloc (.cells #[.int .i64 ((A.line:Int)-(lfs bs2:Int)),.int .i64 c,.iface et ev] 124 (0,0)))):=by
  refine Lib.hid fun hp n c hc=>⟨w.heap.size,rfl,Nat.le_refl _,?_,?_⟩
  ·have:=blk_new (w.drewN n) (.cells #[.int .i64 ((A.line:Int)-(lfs bs2:Int)),.int .i64 c,.iface et ev] 124 (0,0))
   rw [hc,HB1.out,HB2.out] at *
   exact this
  ·have:=HH.out.below (w':=(w.drewN n).alloc (.cells #[.int .i64 ((A.line:Int)-(lfs bs2:Int)),.int .i64 c,.iface et ev] 124 (0,0))) (below_alloc (pw_below_drewN (Below.refl _ _) _) _)
   have e:({ A with part:=errPart A }:Ab)=A:=by unfold errPart;rw [if_pos hp,←hp]
   rw [e]
   exact this
 have HF2:Hid (¬A.part=5→∀ n c,c=(tailLen bs1:Int)+1→SynPost w B g T A C off (.iface et ev) (.returned (.iface 121 (.pointer (some ⟨w.heap.size,0,none⟩)))) (((w.drewN n).setCell ⟨g,5,none⟩ (.int .u8 4)).alloc (.cells #[.int .i64 ((A.line:Int)-(lfs bs2:Int)),.int .i64 c,.iface et ev] 124 (0,0)))):=by
  refine Lib.hid fun hp n c hc=>⟨w.heap.size,rfl,Nat.le_refl _,?_,?_⟩
  ·have:=blk_new ((w.drewN n).setCell ⟨g,5,none⟩ (.int .u8 4)) (.cells #[.int .i64 ((A.line:Int)-(lfs bs2:Int)),.int .i64 c,.iface et ev] 124 (0,0))
   rw [show ((w.drewN n).setCell ⟨g,5,none⟩ (.int .u8 4)).heap.size=w.heap.size from by simp] at this
   rw [hc,HB1.out,HB2.out] at *
   exact this
  ·have s1:=(Step.refl HH.out).drewN n
   have s2:=s1.rep.setg (A':={ A with part:=4 }) (C':=C) 5 (.int .u8 4) (by simp [dcells]) ⟨rfl,rfl,rfl,rfl,rfl,rfl,rfl,rfl,rfl⟩ HH.out.le01 HH.out.le1 HH.out.at_ HH.out.bigl (by show 4≤5;omega) HH.out.escL
   have s3:=s2.rep.below (w':=((w.drewN n).setCell ⟨g,5,none⟩ (.int .u8 4)).alloc (.cells #[.int .i64 ((A.line:Int)-(lfs bs2:Int)),.int .i64 c,.iface et ev] 124 (0,0))) (below_alloc (Below.refl _ _) _)
   have e:({ A with part:=errPart A }:Ab)={ A with part:=4 }:=by unfold errPart;rw [if_neg hp]
   rw [e]
   exact (s1.trans s2).trans s3
 cases va with
 | none=>exact absurd rfl hva
 | some ad=>
  have had:ad=⟨ad.block,0,none⟩:=by
   rcases h.form with ⟨q,_⟩ | ⟨b,cap,q,_⟩
   ·rw [hv] at q;cases q
   ·rw [hv] at q;injection q with q1 q2 q3;injection q1 with q1;rw [q1]
  obtain ⟨b,hb⟩:∃ b,ad.block=b:=⟨_,rfl⟩
  rw [hb] at had
  subst had
  clear hb hb1 hb2 hv
  have HK1:Hid (∀ (w1:World) (a1:Nat) (c:Nat),w1.heap=w.heap→(a1=C.r0∨off=0)→(Kd.int .u8).C w1 (some ⟨b,a1,none⟩) (nums bs1).length (nums bs1)):=by
   refine Lib.hid fun w1 a1 c hw1 ha=>?_
   have h':=HH.out.of_heap hw1
   rcases ha with rfl | ha
   ·have:=h'.told (c:=c) HV.out (lo:=C.r0) (k:=off) (Nat.le_refl _) (by omega)
    rw [Nat.sub_self,Nat.add_zero,←HB1.out] at this
    exact (this.kd (by omega)).2
   ·have:=Told.nil (w:=w1) (g:=g) (A:=A) (C:=C) (some ⟨b,a1,none⟩) c
    have e:bs1=[]:=List.eq_nil_of_length_eq_zero (by omega)
    rw [e]
    exact (this.kd (by simp)).2
  have HK2:Hid (∀ (w1:World) (a1:Nat) (c:Nat),w1.heap=w.heap→(a1=C.r0+off∨C.r1-(C.r0+off)=0)→(Kd.int .u8).C w1 (some ⟨b,a1,none⟩) (nums bs2).length (nums bs2)):=by
   refine Lib.hid fun w1 a1 c hw1 ha=>?_
   have h':=HH.out.of_heap hw1
   rcases ha with rfl | ha
   ·have:=h'.told (c:=c) HV.out (lo:=C.r0+off) (k:=C.r1-(C.r0+off)) (by omega) (by omega)
    rw [show C.r0+off-C.r0=off by omega,show C.r1-(C.r0+off)=A.at_-(A.from_+off) by omega,←HB2.out] at this
    exact (this.kd (by omega)).2
   ·have:=Told.nil (w:=w1) (g:=g) (A:=A) (C:=C) (some ⟨b,a1,none⟩) c
    have e:bs2=[]:=List.eq_nil_of_length_eq_zero (by omega)
    rw [e]
    exact (this.kd (by simp)).2
  have HP:=Lib.hid hp5
  clear hp5
  rw [←HB1.out] at ht0
  have q2':vc=C.r0+off:=by rw [HV.out] at q2;injection q2
  subst q2'
  have q1':¬C.r0+off=C.r0:=by omega
  have q3:C.r1-(C.r0+off)=0:=by omega
  clear q1 q2 hbn
  have d1:¬((off:Int)-1-(tailLen bs1:Int)≥0):=by omega
  clear h ho
  go_enter Tryz.func50,Tryz.ntmps50
  go_wp2
  go_quiet (fail)
  go_wp2_with fail
  refine (last_calls (c0:=_) bs1 (by omega) (by omega) (HK1.out _ _ 0 (by rfl) (.inl rfl)) (by omega)).mono ?_
  rintro _ _ ⟨rfl,k1,rfl⟩
  rw [World.drewN_drewN]
  go_wp2
  go_quiet (fail)
  go_wp2
  go_quiet (exact quiet_add (count_calls (c0:=_) bs2 (by omega) (by omega) (HK2.out _ _ 0 (by rfl) (.inr (by omega))) (by omega)))
  have hp:=HP.out
  rw [hp] at c5
  go_wp2
  go_ret
  exact HF1.out hp _ _ (by omega)
set_option maxHeartbeats 1000000 in
theorem syn_q11 {w:World} {B g:Nat} {T:List UInt8} {A:Ab} {C:Cn} (off:Nat) (et:TypeId) (ev:Value) (h:Rep w B g T A C) (ho:A.from_+off≤A.at_) (a:Option Addr) (hbn:C.bv.ownBlock≠none) (hp5:A.part=5) (ht0:¬tailLen ((T.drop A.from_).take off)=off) (ht1:tailLen ((T.drop A.from_).take off)=0) (q1:0<off) (q2:C.bv=.slice a C.bl (C.r0+off)) :
  Calls Tryz.prog 50 #[.pointer (some ⟨g,0,none⟩),.int .i64 (off:Int),.iface et ev] w (SynPost w B g T A C off (.iface et ev)):=by
 have hbl:=h.bl_le
 have h01:=h.le01
 have hl1:=h.le1
 have hat:=h.at_
 have hin:=h.inT
 have hbg:=h.big
 have c1:=h.c1
 have c2:=h.c2
 have c3:=h.c3
 have c5:=h.c5
 have c8:=h.c8
 have f5:=h.fz 5
 have hpt:=h.prt
 have hln:=h.bigl
 have b1:(C.r0:Int)≤5000:=by omega
 have b2:(off:Int)≤5000:=by omega
 have b3:(C.r1:Int)≤5000:=by omega
 have b4:(C.bl:Int)≤5000:=by omega
 have b5:0≤(C.r0:Int)+(off:Int):=by omega
 have b6:((C.r0:Int)+(off:Int)).toNat=C.r0+off:=by omega
 have b7:C.r0+off≤C.r1:=by omega
 have b8:(C.r0:Int)+(off:Int)≤(C.r1:Int):=by omega
 have b9:(C.r0:Int)≤(C.r0:Int)+(off:Int):=by omega
 have b10:(C.r1:Int)≤(C.bl:Int):=by omega
 have b11:C.r0+off-C.r0=off:=by omega
 have b12:C.r0≤C.r0+off:=by omega
 have b13:(A.line:Int)≤1000000000:=by omega
 have b14:((C.r0:Int)+(off:Int)-(C.r0:Int)).toNat=off:=by omega
 obtain ⟨va,vc,hv,hvc,hvm⟩:=h.bv_slice
 have hva:va≠none:=fun e=>hbn (by rw [hv,e];rfl)
 rw [hv] at c1
 unfold maxLen at hvm
 have b15:(C.r0:Int)+(off:Int)≤(vc:Int):=by omega
 have b16:C.r0+off≤vc:=by omega
 have b17:C.r1≤vc:=by omega
 have b19:off≤vc-C.r0:=by omega
 have b20:C.r1-(C.r0+off)≤vc-(C.r0+off):=by omega
 have b18:(C.r1:Int)≤(vc:Int):=by omega
 have hL1:((T.drop A.from_).take off).length=off:=by rw [List.length_take,List.length_drop];omega
 have hL2:((T.drop (A.from_+off)).take (A.at_-(A.from_+off))).length=C.r1-(C.r0+off):=by rw [List.length_take,List.length_drop];omega
 obtain ⟨bs1,hb1⟩:∃ l,l=(T.drop A.from_).take off:=⟨_,rfl⟩
 obtain ⟨bs2,hb2⟩:∃ l,l=(T.drop (A.from_+off)).take (A.at_-(A.from_+off)):=⟨_,rfl⟩
 rw [←hb1] at hL1
 rw [←hb2] at hL2
 have ht:=tailLen_le bs1
 have hlf:lfs bs2≤1000:=by
  have:lfs bs2≤bs2.length:=List.countP_le_length
  omega
 have HH:=Lib.hid h
 have HB1:=Lib.hid hb1
 have HB2:=Lib.hid hb2
 have HV:=Lib.hid hv
 have HF1:Hid (A.part=5→∀ n c,c=(tailLen bs1:Int)+1→SynPost w B g T A C off (.iface et ev) (.returned (.iface 121 (.pointer (some ⟨w.heap.size,0,none⟩)))) ((w.drewN n).alloc (.cells #[.int .i64 ((A.line:Int)-(lfs bs2:Int)),.int .i64 c,.iface et ev] 124 (0,0)))):=by
  refine Lib.hid fun hp n c hc=>⟨w.heap.size,rfl,Nat.le_refl _,?_,?_⟩
  ·have:=blk_new (w.drewN n) (.cells #[.int .i64 ((A.line:Int)-(lfs bs2:Int)),.int .i64 c,.iface et ev] 124 (0,0))
   rw [hc,HB1.out,HB2.out] at *
   exact this
  ·have:=HH.out.below (w':=(w.drewN n).alloc (.cells #[.int .i64 ((A.line:Int)-(lfs bs2:Int)),.int .i64 c,.iface et ev] 124 (0,0))) (below_alloc (pw_below_drewN (Below.refl _ _) _) _)
   have e:({ A with part:=errPart A }:Ab)=A:=by unfold errPart;rw [if_pos hp,←hp]
   rw [e]
   exact this
 have HF2:Hid (¬A.part=5→∀ n c,c=(tailLen bs1:Int)+1→SynPost w B g T A C off (.iface et ev) (.returned (.iface 121 (.pointer (some ⟨w.heap.size,0,none⟩)))) (((w.drewN n).setCell ⟨g,5,none⟩ (.int .u8 4)).alloc (.cells #[.int .i64 ((A.line:Int)-(lfs bs2:Int)),.int .i64 c,.iface et ev] 124 (0,0)))):=by
  refine Lib.hid fun hp n c hc=>⟨w.heap.size,rfl,Nat.le_refl _,?_,?_⟩
  ·have:=blk_new ((w.drewN n).setCell ⟨g,5,none⟩ (.int .u8 4)) (.cells #[.int .i64 ((A.line:Int)-(lfs bs2:Int)),.int .i64 c,.iface et ev] 124 (0,0))
   rw [show ((w.drewN n).setCell ⟨g,5,none⟩ (.int .u8 4)).heap.size=w.heap.size from by simp] at this
   rw [hc,HB1.out,HB2.out] at *
   exact this
  ·have s1:=(Step.refl HH.out).drewN n
   have s2:=s1.rep.setg (A':={ A with part:=4 }) (C':=C) 5 (.int .u8 4) (by simp [dcells]) ⟨rfl,rfl,rfl,rfl,rfl,rfl,rfl,rfl,rfl⟩ HH.out.le01 HH.out.le1 HH.out.at_ HH.out.bigl (by show 4≤5;omega) HH.out.escL
   have s3:=s2.rep.below (w':=((w.drewN n).setCell ⟨g,5,none⟩ (.int .u8 4)).alloc (.cells #[.int .i64 ((A.line:Int)-(lfs bs2:Int)),.int .i64 c,.iface et ev] 124 (0,0))) (below_alloc (Below.refl _ _) _)
   have e:({ A with part:=errPart A }:Ab)={ A with part:=4 }:=by unfold errPart;rw [if_neg hp]
   rw [e]
   exact (s1.trans s2).trans s3
 cases va with
 | none=>exact absurd rfl hva
 | some ad=>
  have had:ad=⟨ad.block,0,none⟩:=by
   rcases h.form with ⟨q,_⟩ | ⟨b,cap,q,_⟩
   ·rw [hv] at q;cases q
   ·rw [hv] at q;injection q with q1 q2 q3;injection q1 with q1;rw [q1]
  obtain ⟨b,hb⟩:∃ b,ad.block=b:=⟨_,rfl⟩
  rw [hb] at had
  subst had
  clear hb hb1 hb2 hv
  have HK1:Hid (∀ (w1:World) (a1:Nat) (c:Nat),w1.heap=w.heap→(a1=C.r0∨off=0)→(Kd.int .u8).C w1 (some ⟨b,a1,none⟩) (nums bs1).length (nums bs1)):=by
   refine Lib.hid fun w1 a1 c hw1 ha=>?_
   have h':=HH.out.of_heap hw1
   rcases ha with rfl | ha
   ·have:=h'.told (c:=c) HV.out (lo:=C.r0) (k:=off) (Nat.le_refl _) (by omega)
    rw [Nat.sub_self,Nat.add_zero,←HB1.out] at this
    exact (this.kd (by omega)).2
   ·have:=Told.nil (w:=w1) (g:=g) (A:=A) (C:=C) (some ⟨b,a1,none⟩) c
    have e:bs1=[]:=List.eq_nil_of_length_eq_zero (by omega)
    rw [e]
    exact (this.kd (by simp)).2
  have HK2:Hid (∀ (w1:World) (a1:Nat) (c:Nat),w1.heap=w.heap→(a1=C.r0+off∨C.r1-(C.r0+off)=0)→(Kd.int .u8).C w1 (some ⟨b,a1,none⟩) (nums bs2).length (nums bs2)):=by
   refine Lib.hid fun w1 a1 c hw1 ha=>?_
   have h':=HH.out.of_heap hw1
   rcases ha with rfl | ha
   ·have:=h'.told (c:=c) HV.out (lo:=C.r0+off) (k:=C.r1-(C.r0+off)) (by omega) (by omega)
    rw [show C.r0+off-C.r0=off by omega,show C.r1-(C.r0+off)=A.at_-(A.from_+off) by omega,←HB2.out] at this
    exact (this.kd (by omega)).2
   ·have:=Told.nil (w:=w1) (g:=g) (A:=A) (C:=C) (some ⟨b,a1,none⟩) c
    have e:bs2=[]:=List.eq_nil_of_length_eq_zero (by omega)
    rw [e]
    exact (this.kd (by simp)).2
  have HP:=Lib.hid hp5
  clear hp5
  rw [←HB1.out] at ht0
  rw [←HB1.out] at ht1
  have q2':vc=C.r0+off:=by rw [HV.out] at q2;injection q2
  subst q2'
  have q1':¬C.r0+off=C.r0:=by omega
  have q3:C.r1-(C.r0+off)=0:=by omega
  clear q1 q2 hbn
  have d1:0≤(off:Int)-1:=by omega
  have d2:1≤(off:Int):=by omega
  have d3:0<off:=by omega
  clear ht0
  clear h ho
  go_enter Tryz.func50,Tryz.ntmps50
  go_wp2
  go_quiet (fail)
  go_wp2_with fail
  refine (last_calls (c0:=_) bs1 (by omega) (by omega) (HK1.out _ _ 0 (by rfl) (.inl rfl)) (by omega)).mono ?_
  rintro _ _ ⟨rfl,k1,rfl⟩
  rw [World.drewN_drewN]
  go_wp2
  go_quiet (fail)
  go_wp2
  go_quiet (exact quiet_add (count_calls (c0:=_) bs2 (by omega) (by omega) (HK2.out _ _ 0 (by rfl) (.inr (by omega))) (by omega)))
  have hp:=HP.out
  rw [hp] at c5
  go_wp2
  go_ret
  exact HF1.out hp _ _ (by omega)
set_option maxHeartbeats 1000000 in
theorem syn_q12 {w:World} {B g:Nat} {T:List UInt8} {A:Ab} {C:Cn} (off:Nat) (et:TypeId) (ev:Value) (h:Rep w B g T A C) (ho:A.from_+off≤A.at_) (a:Option Addr) (hbn:C.bv.ownBlock≠none) (hp5:A.part=5) (ht0:¬tailLen ((T.drop A.from_).take off)=off) (ht1:0<tailLen ((T.drop A.from_).take off)) (q1:0<off) (q2:C.bv=.slice a C.bl (C.r0+off)) :
  Calls Tryz.prog 50 #[.pointer (some ⟨g,0,none⟩),.int .i64 (off:Int),.iface et ev] w (SynPost w B g T A C off (.iface et ev)):=by
 have hbl:=h.bl_le
 have h01:=h.le01
 have hl1:=h.le1
 have hat:=h.at_
 have hin:=h.inT
 have hbg:=h.big
 have c1:=h.c1
 have c2:=h.c2
 have c3:=h.c3
 have c5:=h.c5
 have c8:=h.c8
 have f5:=h.fz 5
 have hpt:=h.prt
 have hln:=h.bigl
 have b1:(C.r0:Int)≤5000:=by omega
 have b2:(off:Int)≤5000:=by omega
 have b3:(C.r1:Int)≤5000:=by omega
 have b4:(C.bl:Int)≤5000:=by omega
 have b5:0≤(C.r0:Int)+(off:Int):=by omega
 have b6:((C.r0:Int)+(off:Int)).toNat=C.r0+off:=by omega
 have b7:C.r0+off≤C.r1:=by omega
 have b8:(C.r0:Int)+(off:Int)≤(C.r1:Int):=by omega
 have b9:(C.r0:Int)≤(C.r0:Int)+(off:Int):=by omega
 have b10:(C.r1:Int)≤(C.bl:Int):=by omega
 have b11:C.r0+off-C.r0=off:=by omega
 have b12:C.r0≤C.r0+off:=by omega
 have b13:(A.line:Int)≤1000000000:=by omega
 have b14:((C.r0:Int)+(off:Int)-(C.r0:Int)).toNat=off:=by omega
 obtain ⟨va,vc,hv,hvc,hvm⟩:=h.bv_slice
 have hva:va≠none:=fun e=>hbn (by rw [hv,e];rfl)
 rw [hv] at c1
 unfold maxLen at hvm
 have b15:(C.r0:Int)+(off:Int)≤(vc:Int):=by omega
 have b16:C.r0+off≤vc:=by omega
 have b17:C.r1≤vc:=by omega
 have b19:off≤vc-C.r0:=by omega
 have b20:C.r1-(C.r0+off)≤vc-(C.r0+off):=by omega
 have b18:(C.r1:Int)≤(vc:Int):=by omega
 have hL1:((T.drop A.from_).take off).length=off:=by rw [List.length_take,List.length_drop];omega
 have hL2:((T.drop (A.from_+off)).take (A.at_-(A.from_+off))).length=C.r1-(C.r0+off):=by rw [List.length_take,List.length_drop];omega
 obtain ⟨bs1,hb1⟩:∃ l,l=(T.drop A.from_).take off:=⟨_,rfl⟩
 obtain ⟨bs2,hb2⟩:∃ l,l=(T.drop (A.from_+off)).take (A.at_-(A.from_+off)):=⟨_,rfl⟩
 rw [←hb1] at hL1
 rw [←hb2] at hL2
 have ht:=tailLen_le bs1
 have hlf:lfs bs2≤1000:=by
  have:lfs bs2≤bs2.length:=List.countP_le_length
  omega
 have HH:=Lib.hid h
 have HB1:=Lib.hid hb1
 have HB2:=Lib.hid hb2
 have HV:=Lib.hid hv
 have HF1:Hid (A.part=5→∀ n c,c=(tailLen bs1:Int)+1→SynPost w B g T A C off (.iface et ev) (.returned (.iface 121 (.pointer (some ⟨w.heap.size,0,none⟩)))) ((w.drewN n).alloc (.cells #[.int .i64 ((A.line:Int)-(lfs bs2:Int)),.int .i64 c,.iface et ev] 124 (0,0)))):=by
  refine Lib.hid fun hp n c hc=>⟨w.heap.size,rfl,Nat.le_refl _,?_,?_⟩
  ·have:=blk_new (w.drewN n) (.cells #[.int .i64 ((A.line:Int)-(lfs bs2:Int)),.int .i64 c,.iface et ev] 124 (0,0))
   rw [hc,HB1.out,HB2.out] at *
   exact this
  ·have:=HH.out.below (w':=(w.drewN n).alloc (.cells #[.int .i64 ((A.line:Int)-(lfs bs2:Int)),.int .i64 c,.iface et ev] 124 (0,0))) (below_alloc (pw_below_drewN (Below.refl _ _) _) _)
   have e:({ A with part:=errPart A }:Ab)=A:=by unfold errPart;rw [if_pos hp,←hp]
   rw [e]
   exact this
 have HF2:Hid (¬A.part=5→∀ n c,c=(tailLen bs1:Int)+1→SynPost w B g T A C off (.iface et ev) (.returned (.iface 121 (.pointer (some ⟨w.heap.size,0,none⟩)))) (((w.drewN n).setCell ⟨g,5,none⟩ (.int .u8 4)).alloc (.cells #[.int .i64 ((A.line:Int)-(lfs bs2:Int)),.int .i64 c,.iface et ev] 124 (0,0)))):=by
  refine Lib.hid fun hp n c hc=>⟨w.heap.size,rfl,Nat.le_refl _,?_,?_⟩
  ·have:=blk_new ((w.drewN n).setCell ⟨g,5,none⟩ (.int .u8 4)) (.cells #[.int .i64 ((A.line:Int)-(lfs bs2:Int)),.int .i64 c,.iface et ev] 124 (0,0))
   rw [show ((w.drewN n).setCell ⟨g,5,none⟩ (.int .u8 4)).heap.size=w.heap.size from by simp] at this
   rw [hc,HB1.out,HB2.out] at *
   exact this
  ·have s1:=(Step.refl HH.out).drewN n
   have s2:=s1.rep.setg (A':={ A with part:=4 }) (C':=C) 5 (.int .u8 4) (by simp [dcells]) ⟨rfl,rfl,rfl,rfl,rfl,rfl,rfl,rfl,rfl⟩ HH.out.le01 HH.out.le1 HH.out.at_ HH.out.bigl (by show 4≤5;omega) HH.out.escL
   have s3:=s2.rep.below (w':=((w.drewN n).setCell ⟨g,5,none⟩ (.int .u8 4)).alloc (.cells #[.int .i64 ((A.line:Int)-(lfs bs2:Int)),.int .i64 c,.iface et ev] 124 (0,0))) (below_alloc (Below.refl _ _) _)
   have e:({ A with part:=errPart A }:Ab)={ A with part:=4 }:=by unfold errPart;rw [if_neg hp]
   rw [e]
   exact (s1.trans s2).trans s3
 cases va with
 | none=>exact absurd rfl hva
 | some ad=>
  have had:ad=⟨ad.block,0,none⟩:=by
   rcases h.form with ⟨q,_⟩ | ⟨b,cap,q,_⟩
   ·rw [hv] at q;cases q
   ·rw [hv] at q;injection q with q1 q2 q3;injection q1 with q1;rw [q1]
  obtain ⟨b,hb⟩:∃ b,ad.block=b:=⟨_,rfl⟩
  rw [hb] at had
  subst had
  clear hb hb1 hb2 hv
  have HK1:Hid (∀ (w1:World) (a1:Nat) (c:Nat),w1.heap=w.heap→(a1=C.r0∨off=0)→(Kd.int .u8).C w1 (some ⟨b,a1,none⟩) (nums bs1).length (nums bs1)):=by
   refine Lib.hid fun w1 a1 c hw1 ha=>?_
   have h':=HH.out.of_heap hw1
   rcases ha with rfl | ha
   ·have:=h'.told (c:=c) HV.out (lo:=C.r0) (k:=off) (Nat.le_refl _) (by omega)
    rw [Nat.sub_self,Nat.add_zero,←HB1.out] at this
    exact (this.kd (by omega)).2
   ·have:=Told.nil (w:=w1) (g:=g) (A:=A) (C:=C) (some ⟨b,a1,none⟩) c
    have e:bs1=[]:=List.eq_nil_of_length_eq_zero (by omega)
    rw [e]
    exact (this.kd (by simp)).2
  have HK2:Hid (∀ (w1:World) (a1:Nat) (c:Nat),w1.heap=w.heap→(a1=C.r0+off∨C.r1-(C.r0+off)=0)→(Kd.int .u8).C w1 (some ⟨b,a1,none⟩) (nums bs2).length (nums bs2)):=by
   refine Lib.hid fun w1 a1 c hw1 ha=>?_
   have h':=HH.out.of_heap hw1
   rcases ha with rfl | ha
   ·have:=h'.told (c:=c) HV.out (lo:=C.r0+off) (k:=C.r1-(C.r0+off)) (by omega) (by omega)
    rw [show C.r0+off-C.r0=off by omega,show C.r1-(C.r0+off)=A.at_-(A.from_+off) by omega,←HB2.out] at this
    exact (this.kd (by omega)).2
   ·have:=Told.nil (w:=w1) (g:=g) (A:=A) (C:=C) (some ⟨b,a1,none⟩) c
    have e:bs2=[]:=List.eq_nil_of_length_eq_zero (by omega)
    rw [e]
    exact (this.kd (by simp)).2
  have HP:=Lib.hid hp5
  clear hp5
  rw [←HB1.out] at ht0
  rw [←HB1.out] at ht1
  have q2':vc=C.r0+off:=by rw [HV.out] at q2;injection q2
  subst q2'
  have q1':¬C.r0+off=C.r0:=by omega
  have q3:C.r1-(C.r0+off)=0:=by omega
  clear q1 q2 hbn
  have d1:(off:Int)-1-(tailLen bs1:Int)≥0:=by omega
  have d2:((off:Int)-1-(tailLen bs1:Int)+1).toNat=off-tailLen bs1:=by omega
  have d3:off-(off-tailLen bs1)=tailLen bs1:=by omega
  have d4:(off:Int)-1-(tailLen bs1:Int)+1≤(off:Int):=by omega
  have d5:0≤(off:Int)-1-(tailLen bs1:Int)+1:=by omega
  have d6:off-tailLen bs1≤off:=by omega
  have d7:(tailLen bs1:Int)≤5000:=by omega
  have d8:¬off=off-tailLen bs1:=by omega
  clear h ho
  go_enter Tryz.func50,Tryz.ntmps50
  go_wp2
  go_quiet (fail)
  go_wp2_with fail
  refine (last_calls (c0:=_) bs1 (by omega) (by omega) (HK1.out _ _ 0 (by rfl) (.inl rfl)) (by omega)).mono ?_
  rintro _ _ ⟨rfl,k1,rfl⟩
  rw [World.drewN_drewN]
  go_wp2
  go_quiet (fail)
  go_wp2
  go_quiet (exact quiet_add (count_calls (c0:=_) bs2 (by omega) (by omega) (HK2.out _ _ 0 (by rfl) (.inr (by omega))) (by omega)))
  have hp:=HP.out
  rw [hp] at c5
  go_wp2
  go_ret
  exact HF1.out hp _ _ (by omega)
set_option maxHeartbeats 1000000 in
theorem syn_z1 {w:World} {B g:Nat} {T:List UInt8} {A:Ab} {C:Cn} (off:Nat) (et:TypeId) (ev:Value) (h:Rep w B g T A C) (ho:A.from_+off≤A.at_) (a:Option Addr) (hbn:C.bv.ownBlock≠none) (hp5:A.part=5) (q2:C.bv=.slice a C.bl C.r0) :
  Calls Tryz.prog 50 #[.pointer (some ⟨g,0,none⟩),.int .i64 (off:Int),.iface et ev] w (SynPost w B g T A C off (.iface et ev)):=by
 have hbl:=h.bl_le
 have h01:=h.le01
 have hl1:=h.le1
 have hat:=h.at_
 have hin:=h.inT
 have hbg:=h.big
 have c1:=h.c1
 have c2:=h.c2
 have c3:=h.c3
 have c5:=h.c5
 have c8:=h.c8
 have f5:=h.fz 5
 have hpt:=h.prt
 have hln:=h.bigl
 have b1:(C.r0:Int)≤5000:=by omega
 have b2:(off:Int)≤5000:=by omega
 have b3:(C.r1:Int)≤5000:=by omega
 have b4:(C.bl:Int)≤5000:=by omega
 have b5:0≤(C.r0:Int)+(off:Int):=by omega
 have b6:((C.r0:Int)+(off:Int)).toNat=C.r0+off:=by omega
 have b7:C.r0+off≤C.r1:=by omega
 have b8:(C.r0:Int)+(off:Int)≤(C.r1:Int):=by omega
 have b9:(C.r0:Int)≤(C.r0:Int)+(off:Int):=by omega
 have b10:(C.r1:Int)≤(C.bl:Int):=by omega
 have b11:C.r0+off-C.r0=off:=by omega
 have b12:C.r0≤C.r0+off:=by omega
 have b13:(A.line:Int)≤1000000000:=by omega
 have b14:((C.r0:Int)+(off:Int)-(C.r0:Int)).toNat=off:=by omega
 obtain ⟨va,vc,hv,hvc,hvm⟩:=h.bv_slice
 have hva:va≠none:=fun e=>hbn (by rw [hv,e];rfl)
 rw [hv] at c1
 unfold maxLen at hvm
 have b15:(C.r0:Int)+(off:Int)≤(vc:Int):=by omega
 have b16:C.r0+off≤vc:=by omega
 have b17:C.r1≤vc:=by omega
 have b19:off≤vc-C.r0:=by omega
 have b20:C.r1-(C.r0+off)≤vc-(C.r0+off):=by omega
 have b18:(C.r1:Int)≤(vc:Int):=by omega
 have hL1:((T.drop A.from_).take off).length=off:=by rw [List.length_take,List.length_drop];omega
 have hL2:((T.drop (A.from_+off)).take (A.at_-(A.from_+off))).length=C.r1-(C.r0+off):=by rw [List.length_take,List.length_drop];omega
 obtain ⟨bs1,hb1⟩:∃ l,l=(T.drop A.from_).take off:=⟨_,rfl⟩
 obtain ⟨bs2,hb2⟩:∃ l,l=(T.drop (A.from_+off)).take (A.at_-(A.from_+off)):=⟨_,rfl⟩
 rw [←hb1] at hL1
 rw [←hb2] at hL2
 have ht:=tailLen_le bs1
 have hlf:lfs bs2≤1000:=by
  have:lfs bs2≤bs2.length:=List.countP_le_length
  omega
 have HH:=Lib.hid h
 have HB1:=Lib.hid hb1
 have HB2:=Lib.hid hb2
 have HV:=Lib.hid hv
 have HF1:Hid (A.part=5→∀ n c,c=(tailLen bs1:Int)+1→SynPost w B g T A C off (.iface et ev) (.returned (.iface 121 (.pointer (some ⟨w.heap.size,0,none⟩)))) ((w.drewN n).alloc (.cells #[.int .i64 ((A.line:Int)-(lfs bs2:Int)),.int .i64 c,.iface et ev] 124 (0,0)))):=by
  refine Lib.hid fun hp n c hc=>⟨w.heap.size,rfl,Nat.le_refl _,?_,?_⟩
  ·have:=blk_new (w.drewN n) (.cells #[.int .i64 ((A.line:Int)-(lfs bs2:Int)),.int .i64 c,.iface et ev] 124 (0,0))
   rw [hc,HB1.out,HB2.out] at *
   exact this
  ·have:=HH.out.below (w':=(w.drewN n).alloc (.cells #[.int .i64 ((A.line:Int)-(lfs bs2:Int)),.int .i64 c,.iface et ev] 124 (0,0))) (below_alloc (pw_below_drewN (Below.refl _ _) _) _)
   have e:({ A with part:=errPart A }:Ab)=A:=by unfold errPart;rw [if_pos hp,←hp]
   rw [e]
   exact this
 have HF2:Hid (¬A.part=5→∀ n c,c=(tailLen bs1:Int)+1→SynPost w B g T A C off (.iface et ev) (.returned (.iface 121 (.pointer (some ⟨w.heap.size,0,none⟩)))) (((w.drewN n).setCell ⟨g,5,none⟩ (.int .u8 4)).alloc (.cells #[.int .i64 ((A.line:Int)-(lfs bs2:Int)),.int .i64 c,.iface et ev] 124 (0,0)))):=by
  refine Lib.hid fun hp n c hc=>⟨w.heap.size,rfl,Nat.le_refl _,?_,?_⟩
  ·have:=blk_new ((w.drewN n).setCell ⟨g,5,none⟩ (.int .u8 4)) (.cells #[.int .i64 ((A.line:Int)-(lfs bs2:Int)),.int .i64 c,.iface et ev] 124 (0,0))
   rw [show ((w.drewN n).setCell ⟨g,5,none⟩ (.int .u8 4)).heap.size=w.heap.size from by simp] at this
   rw [hc,HB1.out,HB2.out] at *
   exact this
  ·have s1:=(Step.refl HH.out).drewN n
   have s2:=s1.rep.setg (A':={ A with part:=4 }) (C':=C) 5 (.int .u8 4) (by simp [dcells]) ⟨rfl,rfl,rfl,rfl,rfl,rfl,rfl,rfl,rfl⟩ HH.out.le01 HH.out.le1 HH.out.at_ HH.out.bigl (by show 4≤5;omega) HH.out.escL
   have s3:=s2.rep.below (w':=((w.drewN n).setCell ⟨g,5,none⟩ (.int .u8 4)).alloc (.cells #[.int .i64 ((A.line:Int)-(lfs bs2:Int)),.int .i64 c,.iface et ev] 124 (0,0))) (below_alloc (Below.refl _ _) _)
   have e:({ A with part:=errPart A }:Ab)={ A with part:=4 }:=by unfold errPart;rw [if_neg hp]
   rw [e]
   exact (s1.trans s2).trans s3
 cases va with
 | none=>exact absurd rfl hva
 | some ad=>
  have had:ad=⟨ad.block,0,none⟩:=by
   rcases h.form with ⟨q,_⟩ | ⟨b,cap,q,_⟩
   ·rw [hv] at q;cases q
   ·rw [hv] at q;injection q with q1 q2 q3;injection q1 with q1;rw [q1]
  obtain ⟨b,hb⟩:∃ b,ad.block=b:=⟨_,rfl⟩
  rw [hb] at had
  subst had
  clear hb hb1 hb2 hv
  have HK1:Hid (∀ (w1:World) (a1:Nat) (c:Nat),w1.heap=w.heap→(a1=C.r0∨off=0)→(Kd.int .u8).C w1 (some ⟨b,a1,none⟩) (nums bs1).length (nums bs1)):=by
   refine Lib.hid fun w1 a1 c hw1 ha=>?_
   have h':=HH.out.of_heap hw1
   rcases ha with rfl | ha
   ·have:=h'.told (c:=c) HV.out (lo:=C.r0) (k:=off) (Nat.le_refl _) (by omega)
    rw [Nat.sub_self,Nat.add_zero,←HB1.out] at this
    exact (this.kd (by omega)).2
   ·have:=Told.nil (w:=w1) (g:=g) (A:=A) (C:=C) (some ⟨b,a1,none⟩) c
    have e:bs1=[]:=List.eq_nil_of_length_eq_zero (by omega)
    rw [e]
    exact (this.kd (by simp)).2
  have HK2:Hid (∀ (w1:World) (a1:Nat) (c:Nat),w1.heap=w.heap→(a1=C.r0+off∨C.r1-(C.r0+off)=0)→(Kd.int .u8).C w1 (some ⟨b,a1,none⟩) (nums bs2).length (nums bs2)):=by
   refine Lib.hid fun w1 a1 c hw1 ha=>?_
   have h':=HH.out.of_heap hw1
   rcases ha with rfl | ha
   ·have:=h'.told (c:=c) HV.out (lo:=C.r0+off) (k:=C.r1-(C.r0+off)) (by omega) (by omega)
    rw [show C.r0+off-C.r0=off by omega,show C.r1-(C.r0+off)=A.at_-(A.from_+off) by omega,←HB2.out] at this
    exact (this.kd (by omega)).2
   ·have:=Told.nil (w:=w1) (g:=g) (A:=A) (C:=C) (some ⟨b,a1,none⟩) c
    have e:bs2=[]:=List.eq_nil_of_length_eq_zero (by omega)
    rw [e]
    exact (this.kd (by simp)).2
  have HP:=Lib.hid hp5
  clear hp5
  have q2':vc=C.r0:=by rw [HV.out] at q2;injection q2
  have hz:off=0:=by omega
  have ht0:tailLen bs1=0:=by omega
  have q3:C.r1-C.r0=0:=by omega
  subst q2'
  subst hz
  clear q2 hbn b5 b6 b9 b11 b12 b14
  have d1:¬((0:Int)-1-(tailLen bs1:Int)≥0):=by omega
  clear h ho
  go_enter Tryz.func50,Tryz.ntmps50
  go_wp2
  go_quiet (fail)
  go_wp2_with fail
  refine (last_calls (c0:=_) bs1 (by omega) (by omega) (HK1.out _ _ 0 (by rfl) (by simp)) (by omega)).mono ?_
  rintro _ _ ⟨rfl,k1,rfl⟩
  rw [World.drewN_drewN]
  go_wp2
  go_quiet (fail)
  go_wp2
  go_quiet (exact quiet_add (count_calls (c0:=_) bs2 (by omega) (by omega) (HK2.out _ _ 0 (by rfl) (.inr (by omega))) (by omega)))
  have hp:=HP.out
  rw [hp] at c5
  go_wp2
  go_ret
  exact HF1.out hp _ _ (by omega)
set_option maxHeartbeats 1000000 in
theorem syn_n1 {w:World} {B g:Nat} {T:List UInt8} {A:Ab} {C:Cn} (off:Nat) (et:TypeId) (ev:Value) (h:Rep w B g T A C) (ho:A.from_+off≤A.at_) (hbn:C.bv=.slice none 0 0) (hp5:A.part=5) :
  Calls Tryz.prog 50 #[.pointer (some ⟨g,0,none⟩),.int .i64 (off:Int),.iface et ev] w (SynPost w B g T A C off (.iface et ev)):=by
 have hbl:=h.bl_le
 have h01:=h.le01
 have hl1:=h.le1
 have hat:=h.at_
 have hin:=h.inT
 have hbg:=h.big
 have c1:=h.c1
 have c2:=h.c2
 have c3:=h.c3
 have c5:=h.c5
 have c8:=h.c8
 have f5:=h.fz 5
 have hpt:=h.prt
 have hln:=h.bigl
 have b1:(C.r0:Int)≤5000:=by omega
 have b2:(off:Int)≤5000:=by omega
 have b3:(C.r1:Int)≤5000:=by omega
 have b4:(C.bl:Int)≤5000:=by omega
 have b5:0≤(C.r0:Int)+(off:Int):=by omega
 have b6:((C.r0:Int)+(off:Int)).toNat=C.r0+off:=by omega
 have b7:C.r0+off≤C.r1:=by omega
 have b8:(C.r0:Int)+(off:Int)≤(C.r1:Int):=by omega
 have b9:(C.r0:Int)≤(C.r0:Int)+(off:Int):=by omega
 have b10:(C.r1:Int)≤(C.bl:Int):=by omega
 have b11:C.r0+off-C.r0=off:=by omega
 have b12:C.r0≤C.r0+off:=by omega
 have b13:(A.line:Int)≤1000000000:=by omega
 have b14:((C.r0:Int)+(off:Int)-(C.r0:Int)).toNat=off:=by omega
 obtain ⟨va,vc,hv,hvc,hvm⟩:=h.bv_slice
 rw [hv] at c1
 unfold maxLen at hvm
 have b15:(C.r0:Int)+(off:Int)≤(vc:Int):=by omega
 have b16:C.r0+off≤vc:=by omega
 have b17:C.r1≤vc:=by omega
 have b19:off≤vc-C.r0:=by omega
 have b20:C.r1-(C.r0+off)≤vc-(C.r0+off):=by omega
 have b18:(C.r1:Int)≤(vc:Int):=by omega
 have hL1:((T.drop A.from_).take off).length=off:=by rw [List.length_take,List.length_drop];omega
 have hL2:((T.drop (A.from_+off)).take (A.at_-(A.from_+off))).length=C.r1-(C.r0+off):=by rw [List.length_take,List.length_drop];omega
 obtain ⟨bs1,hb1⟩:∃ l,l=(T.drop A.from_).take off:=⟨_,rfl⟩
 obtain ⟨bs2,hb2⟩:∃ l,l=(T.drop (A.from_+off)).take (A.at_-(A.from_+off)):=⟨_,rfl⟩
 rw [←hb1] at hL1
 rw [←hb2] at hL2
 have ht:=tailLen_le bs1
 have hlf:lfs bs2≤1000:=by
  have:lfs bs2≤bs2.length:=List.countP_le_length
  omega
 have HH:=Lib.hid h
 have HB1:=Lib.hid hb1
 have HB2:=Lib.hid hb2
 have HV:=Lib.hid hv
 have HF1:Hid (A.part=5→∀ n c,c=(tailLen bs1:Int)+1→SynPost w B g T A C off (.iface et ev) (.returned (.iface 121 (.pointer (some ⟨w.heap.size,0,none⟩)))) ((w.drewN n).alloc (.cells #[.int .i64 ((A.line:Int)-(lfs bs2:Int)),.int .i64 c,.iface et ev] 124 (0,0)))):=by
  refine Lib.hid fun hp n c hc=>⟨w.heap.size,rfl,Nat.le_refl _,?_,?_⟩
  ·have:=blk_new (w.drewN n) (.cells #[.int .i64 ((A.line:Int)-(lfs bs2:Int)),.int .i64 c,.iface et ev] 124 (0,0))
   rw [hc,HB1.out,HB2.out] at *
   exact this
  ·have:=HH.out.below (w':=(w.drewN n).alloc (.cells #[.int .i64 ((A.line:Int)-(lfs bs2:Int)),.int .i64 c,.iface et ev] 124 (0,0))) (below_alloc (pw_below_drewN (Below.refl _ _) _) _)
   have e:({ A with part:=errPart A }:Ab)=A:=by unfold errPart;rw [if_pos hp,←hp]
   rw [e]
   exact this
 have HF2:Hid (¬A.part=5→∀ n c,c=(tailLen bs1:Int)+1→SynPost w B g T A C off (.iface et ev) (.returned (.iface 121 (.pointer (some ⟨w.heap.size,0,none⟩)))) (((w.drewN n).setCell ⟨g,5,none⟩ (.int .u8 4)).alloc (.cells #[.int .i64 ((A.line:Int)-(lfs bs2:Int)),.int .i64 c,.iface et ev] 124 (0,0)))):=by
  refine Lib.hid fun hp n c hc=>⟨w.heap.size,rfl,Nat.le_refl _,?_,?_⟩
  ·have:=blk_new ((w.drewN n).setCell ⟨g,5,none⟩ (.int .u8 4)) (.cells #[.int .i64 ((A.line:Int)-(lfs bs2:Int)),.int .i64 c,.iface et ev] 124 (0,0))
   rw [show ((w.drewN n).setCell ⟨g,5,none⟩ (.int .u8 4)).heap.size=w.heap.size from by simp] at this
   rw [hc,HB1.out,HB2.out] at *
   exact this
  ·have s1:=(Step.refl HH.out).drewN n
   have s2:=s1.rep.setg (A':={ A with part:=4 }) (C':=C) 5 (.int .u8 4) (by simp [dcells]) ⟨rfl,rfl,rfl,rfl,rfl,rfl,rfl,rfl,rfl⟩ HH.out.le01 HH.out.le1 HH.out.at_ HH.out.bigl (by show 4≤5;omega) HH.out.escL
   have s3:=s2.rep.below (w':=((w.drewN n).setCell ⟨g,5,none⟩ (.int .u8 4)).alloc (.cells #[.int .i64 ((A.line:Int)-(lfs bs2:Int)),.int .i64 c,.iface et ev] 124 (0,0))) (below_alloc (Below.refl _ _) _)
   have e:({ A with part:=errPart A }:Ab)={ A with part:=4 }:=by unfold errPart;rw [if_neg hp]
   rw [e]
   exact (s1.trans s2).trans s3
 have hv0:=hv
 rw [hbn] at hv0
 injection hv0 with n1 n2 n3
 subst n1
 subst n3
 have n4:C.r1=0:=by omega
 have n5:C.r0=0:=by omega
 have hz:off=0:=by omega
 rw [←n2] at c1
 rw [n5] at c2
 rw [n4] at c3
 subst hz
 have ht0:tailLen bs1=0:=by omega
 have hl1':bs1.length=0:=by omega
 have hl2':bs2.length=0:=by omega
 have HK:Hid (∀ (w1:World) (l:List UInt8),l.length=0→(Kd.int .u8).C w1 none (nums l).length (nums l)):=Lib.hid fun w1 l hl=>by
  obtain rfl:l=[]:=List.eq_nil_of_length_eq_zero hl
  exact ((Told.nil (w:=w1) (g:=g) (A:=A) (C:=C) none 0).kd (by simp)).2
 have HP:=Lib.hid hp5
 clear hp5 hb1 hb2 hv hbn n2 b1 b2 b3 b4 b5 b6 b7 b8 b9 b10 b11 b12 b14 b15 b16 b17 b18 b19 b20 hl1 h01 hat hin hbl hvc hvm
 clear h ho
 go_enter Tryz.func50,Tryz.ntmps50
 go_wp2
 go_quiet (fail)
 go_wp2_with fail
 refine (last_calls (c0:=0) bs1 (by omega) (by omega) (HK.out _ _ hl1') (by omega)).mono ?_
 rintro _ _ ⟨rfl,k1,rfl⟩
 rw [World.drewN_drewN]
 go_wp2
 go_quiet (fail)
 go_wp2
 go_quiet (exact quiet_add (count_calls (c0:=0) bs2 (by omega) (by omega) (HK.out _ _ hl2') (by omega)))
 have hp:=HP.out
 rw [hp] at c5
 go_wp2
 go_ret
 exact HF1.out hp _ _ (by omega)
end Go.Proofs.YtkfggfjdplnkpaaGreatDoor
end
