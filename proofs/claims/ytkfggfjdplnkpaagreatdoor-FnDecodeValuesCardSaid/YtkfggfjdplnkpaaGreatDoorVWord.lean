/- A part of the proof that the law FnDecodeValues returns true; its conditions are those of the last part. -/
import Derived.Test.YtkfggfjdplnkpaaGreatDoorVSets
import Derived.Shelf.Unicode.DecodeSlow
import Derived.Shelf.Unicode.DecodeAny
import Derived.Lib.Walk
import Derived.Lib.Endian
import Derived.Lib.EndianBits
import Derived.Lib.ValidAsc
import Derived.RegionTactic
import Derived.Deep.Draws
import Derived.Laws.BitsAllLaws
import Derived.Deep.CutBlock
import Derived.Deep.DeepCutAuto
import Derived.Lib.Hide
import Derived.Deep.RegionWith
set_option maxRecDepth 100000
set_option linter.unusedVariables false
set_option linter.unusedSimpArgs false
section
namespace Go.Proofs.YtkfggfjdplnkpaaGreatDoor
open Go.RowKit
def CB (w:World) (b o:Nat) (t:ByteArray):Prop:=∀ j,j<t.size→w.cell? ⟨b,o+j,none⟩=some (.int .u8 ((t.get! j).toNat:Int))
theorem CB.ext {w:World} {b o:Nat} {t:ByteArray} (h:CB w b o t) (k:Nat):CB w b (o+k) (t.extract k t.size):=by
 intro j hj
 rw [Lib.ext_size] at hj
 have:=h (k+j) (by omega)
 rw [show o+k+j=o+(k+j) by omega,this]
 congr 4
 rw [←Lib.getD_get!',←Lib.getD_get!',Lib.ext_list,List.getD_eq_getElem?_getD,List.getD_eq_getElem?_getD,List.getElem?_drop]
theorem CB.below {w w':World} {N b o:Nat} {t:ByteArray} (h:CB w b o t) (hb:Below N w w') (hlt:b<N):CB w' b o t:=
 fun j hj=>(World.cell?_of_block (w:=w) (hb.block b hlt)).trans (h j hj)
set_option maxHeartbeats 8000000 in
theorem word_spec (s:ByteArray) (b o c:Nat) (w:World) (hs:8≤s.size) (hc:CB w b o s) :
  Calls Tryz.prog 129 #[.slice (some ⟨b,o,none⟩) s.size c] w fun e w'=>e=.returned (.int .u64 (Lib.leNat [s.get! 0,s.get! 1,s.get! 2,s.get! 3,s.get! 4,s.get! 5,s.get! 6,s.get! 7]))∧∃ q,w'=w.drewN q:=by
 obtain ⟨n,hn⟩:∃ n,s.size=n:=⟨_,rfl⟩
 have c0:=hc 0 (by omega)
 have c1:=hc 1 (by omega)
 have c2:=hc 2 (by omega)
 have c3:=hc 3 (by omega)
 have c4:=hc 4 (by omega)
 have c5:=hc 5 (by omega)
 have c6:=hc 6 (by omega)
 have c7:=hc 7 (by omega)
 rw [Nat.add_zero] at c0
 generalize s.get! 0=x0 at *
 generalize s.get! 1=x1 at *
 generalize s.get! 2=x2 at *
 generalize s.get! 3=x3 at *
 generalize s.get! 4=x4 at *
 generalize s.get! 5=x5 at *
 generalize s.get! 6=x6 at *
 generalize s.get! 7=x7 at *
 have h0:x0.toNat<256:=x0.toNat_lt
 have h1:x1.toNat<256:=x1.toNat_lt
 have h2:x2.toNat<256:=x2.toNat_lt
 have h3:x3.toNat<256:=x3.toNat_lt
 have h4:x4.toNat<256:=x4.toNat_lt
 have h5:x5.toNat<256:=x5.toNat_lt
 have h6:x6.toNat<256:=x6.toNat_lt
 have h7:x7.toNat<256:=x7.toNat_lt
 have hv:((Lib.leNat [x0,x1,x2,x3,x4,x5,x6,x7]:Nat):Int)=(x0.toNat:Int)+(x1.toNat:Int)*256+(x2.toNat:Int)*65536+(x3.toNat:Int)*16777216+(x4.toNat:Int)*4294967296+(x5.toNat:Int)*1099511627776+(x6.toNat:Int)*281474976710656+(x7.toNat:Int)*72057594037927936:=by
  simp only [Lib.leNat]
  push_cast
  omega
 clear hc
 rw [hn] at hs ⊢
 have q0:(0:Int)<(n:Int):=by omega
 have p0:0<n:=by omega
 have q1:(1:Int)<(n:Int):=by omega
 have p1:1<n:=by omega
 have q2:(2:Int)<(n:Int):=by omega
 have p2:2<n:=by omega
 have q3:(3:Int)<(n:Int):=by omega
 have p3:3<n:=by omega
 have q4:(4:Int)<(n:Int):=by omega
 have p4:4<n:=by omega
 have q5:(5:Int)<(n:Int):=by omega
 have p5:5<n:=by omega
 have q6:(6:Int)<(n:Int):=by omega
 have p6:6<n:=by omega
 have q7:(7:Int)<(n:Int):=by omega
 have p7:7<n:=by omega
 clear hs hn
 go_enter Tryz.func129,Tryz.ntmps129
 go_wp2
 go_quiet (fail)
 go_wp2
 go_ret
 refine ⟨?_,_,rfl⟩
 simp (disch:=omega) only [u64_wrap_id,u64_or8,u64_or16,u64_or24,u64_or32,u64_or40,u64_or48,u64_or56]
 rw [hv]
 rfl
end Go.Proofs.YtkfggfjdplnkpaaGreatDoor
end
section
namespace Go.Proofs.YtkfggfjdplnkpaaGreatDoor
open Go.RowKit
theorem and7':∀ X:Fin 256,bits .and .u8 ((X.val:Nat):Int) 7=((X.val % 8:Nat):Int):=by decide
theorem below_dn {B:Nat} {a w:World} (h:Below B a w):∀ q,Below B a (w.drewN q)
 | 0=>h
 | q+1=>(below_dn h q).drew
theorem quiet_add' {f:FuncId} {args:Array Value} {w:World} {a n:Nat} {v:Value}
  (h:Calls Tryz.prog f args (w.drewN (a+n)) fun e w'=>e=.returned v∧∃ m,w'=(w.drewN (a+n)).drewN m):Calls Tryz.prog f args (w.drewN (a+n)) fun e w''=>e=.returned v∧∃ m,w''=w.drewN (a+m):=
 h.mono fun _ _ ⟨he,m,hm⟩=>⟨he,n+m,by rw [hm,World.drewN_drewN,Nat.add_assoc]⟩
theorem CB.of_heap {w w':World} {b o:Nat} {t:ByteArray} (h:CB w b o t) (e:w'.heap=w.heap):CB w' b o t:=
 fun j hj=>(World.cell?_of_block (w:=w) (by rw [e])).trans (h j hj)
def SL (N:Nat) (w:World) (a:Option Addr) (t:ByteArray):Prop:=0<t.size→∃ b o,a=some ⟨b,o,none⟩∧b<N∧CB w b o t
theorem SL.nil {N:Nat} {w:World} {a:Option Addr} {t:ByteArray} (h:t.size=0):SL N w a t:=fun h'=>by omega
def VRel (N:Nat) (w:World) (ANS:Bool) (s0:Value) (t:ByteArray):Prop:=
 ∃ a c,s0=.slice a t.size c∧t.size≤c∧SL N w a t∧Lib.validD t.data.toList=ANS∧t.size≤100000
set_option maxHeartbeats 16000000 in
theorem valid_bytes (s:ByteArray) (a:Option Addr) (c:Nat) (w:World) (hs:s.size≤100000) (hc:s.size≤c) (hsl:SL w.heap.size w a s) (hT:Lib.Utf8Tabs 4 5 w) :
  Calls Tryz.prog 95 #[.slice a s.size c] w fun e w'=>e=.returned (.bool (Lib.validD s.data.toList))∧Below w.heap.size w w':=by
 obtain ⟨ANS,hANS⟩:∃ ANS,Lib.validD s.data.toList=ANS:=⟨_,rfl⟩
 rw [hANS]
 obtain ⟨ns,hns⟩:∃ ns,s.size=ns:=⟨_,rfl⟩
 have hcz:(ns:Int)≤(c:Int):=by omega
 have hcn:ns≤c:=by omega
 have HT:=Lib.hid hT
 have HSL:=Lib.hid hsl
 have HANS:=Lib.hid hANS
 have HS:=Lib.hid hs
 have HNS:=Lib.hid hns
 rw [hns]
 clear hT hsl hANS hs hc hns
 go_enter Tryz.func95,Tryz.ntmps95
 go_wp2
 go_loopg [0] (ns+1) (fun gk s0 wx=>Below w.heap.size w wx∧∃ t,VRel w.heap.size w ANS s0 t∧t.size<gk)
 case atStart=>exact ⟨Below.refl _ _,s,⟨a,ns,by rw [HNS.out],by have:=HNS.out;omega,HSL.out,HANS.out,HS.out⟩,by have:=HNS.out;omega⟩
 case round=>
  obtain ⟨hbw,t,⟨a,c,rfl,htc,hsl,hv,hts⟩,hg⟩:=hrel
  have hTr:=Go.Proofs.Utf8Tabs_below HT.out hbw
  by_cases h0:0<t.size
  ·obtain ⟨g',rfl⟩:∃ g',gk=g'+1:=⟨gk-1,by omega⟩
   obtain ⟨b,o,rfl,hblt,hcb⟩:=hsl h0
   have h0z:(0:Int)<(t.size:Int):=by omega
   have hcr:=hcb.below hbw hblt
   have hs0:=hcr 0 h0
   rw [Nat.add_zero] at hs0
   obtain ⟨x0,hx0⟩:∃ x0,t.get! 0=x0:=⟨_,rfl⟩
   rw [hx0] at hs0
   have hx0lt:x0.toNat<256:=x0.toNat_lt
   by_cases hasc:x0.toNat<128
   ·have hascz:(x0.toNat:Int)<128:=by omega
    have a1:Lib.Asc t 1:=Lib.asc_one t h0 (by rw [hx0];exact hasc)
    obtain ⟨t1,ht1⟩:∃ t1,t.extract 1 t.size=t1:=⟨_,rfl⟩
    have z1:t1.size+1=t.size:=by rw [←ht1,Lib.ext_size];omega
    have v1:Lib.validD t1.data.toList=ANS:=by rw [←ht1,Lib.valid_skip t 1 a1];exact hv
    have hcb1:CB w b (o+1) t1:=ht1▸hcb.ext 1
    obtain ⟨n,hn⟩:∃ n,t.size=n:=⟨_,rfl⟩
    obtain ⟨n1,hn1⟩:∃ n1,t1.size=n1:=⟨_,rfl⟩
    rw [hn] at h0 h0z htc hts z1 hg ⊢
    rw [hn1] at z1
    have y1:n-1=n1:=by omega
    have y2:(1:Int)≤(n:Int):=by omega
    have y3:1≤n:=by omega
    have y4:(1:Int)≤(c:Int):=by omega
    clear hTr hv a1 ht1 hcr hsl
    have HCB:=Lib.hid hcb
    clear hcb
    by_cases c8:8<n1
    ·have c8z:(8:Int)<(n1:Int):=by omega
     have hc1:¬c=1:=by omega
     obtain ⟨c1,hc1'⟩:∃ c1,c-1=c1:=⟨_,rfl⟩
     obtain ⟨o1,ho1⟩:∃ o1,o+1=o1:=⟨_,rfl⟩
     rw [ho1] at hcb1
     obtain ⟨A1,hA1⟩:∃ A1,Lib.leNat [t1.get! 0,t1.get! 1,t1.get! 2,t1.get! 3,t1.get! 4,t1.get! 5,t1.get! 6,t1.get! 7]=A1:=⟨_,rfl⟩
     have lA1:A1<18446744073709551616:=hA1▸Lib.word_lt t1
     have cW1:Hid (Calls Tryz.prog 129 #[.slice (some ⟨b,o1,none⟩) n1 c1] wr fun e w'=>e=.returned (.int .u64 A1)∧∃ q,w'=wr.drewN q):=Lib.hid (by rw [←hA1,←hn1];exact word_spec t1 b o1 c1 wr (by omega) (hcb1.below hbw hblt))
     have kA1:=Lib.word_asc t1 (by omega)
     rw [hA1] at kA1
     have hand1:bits .and .u64 (A1:Int) 9259542123273814144=((A1 &&& 9259542123273814144:Nat):Int):=u64_and_nat A1 9259542123273814144 lA1 (by omega)
     obtain ⟨Z1,hZ1⟩:∃ Z1,A1 &&& 9259542123273814144=Z1:=⟨_,rfl⟩
     rw [hZ1] at hand1 kA1
     by_cases hz1:Z1=0
     ·have hz1b:((Z1:Int)==0)=true:=by simp [hz1]
      have a8:Lib.Asc t1 8:=kA1.1 hz1
      obtain ⟨t2,ht2⟩:∃ t2,t1.extract 8 t1.size=t2:=⟨_,rfl⟩
      have z2:t2.size+8=n1:=by rw [←ht2,Lib.ext_size];omega
      have v2:Lib.validD t2.data.toList=ANS:=by rw [←ht2,Lib.valid_skip t1 8 a8];exact v1
      have hcb2:CB w b (o1+8) t2:=ht2▸hcb1.ext 8
      obtain ⟨n2,hn2⟩:∃ n2,t2.size=n2:=⟨_,rfl⟩
      obtain ⟨o2,ho2⟩:∃ o2,o1+8=o2:=⟨_,rfl⟩
      obtain ⟨c2,hc2'⟩:∃ c2,c1-8=c2:=⟨_,rfl⟩
      rw [ho2] at hcb2
      rw [hn2] at z2
      have hc2:¬c1=8:=by omega
      have y5:n1-8=n2:=by omega
      have y6:(8:Int)≤(n1:Int):=by omega
      have y7:(8:Int)≤(c1:Int):=by omega
      have hnc2:n2≤c2:=by omega
      clear kA1 a8 v1 hcb1 ht2
      go_wp2_with (go_at_call 129;go_must (refine cW1.out.mono ?_;rintro e W1 ⟨rfl,q1,rfl⟩))
      have hb1:Below w.heap.size w (wr.drewN q1):=below_dn hbw q1
      generalize wr.drewN q1=wq at hb1 ⊢
      clear cW1 hbw hc1 hc1' ho1 y1 y2 y3 y4 hc2 hc2' ho2 y5 y6 y7 hs0
      by_cases c16:16<n2
      ·have c16z:(16:Int)<(n2:Int):=by omega
       have s8z:(8:Int)≤(n2:Int):=by omega
       have s8n:8≤n2:=by omega
       obtain ⟨t2b,ht2b⟩:∃ t2b,t2.extract 8 t2.size=t2b:=⟨_,rfl⟩
       have z2b:t2b.size+8=n2:=by rw [←ht2b,Lib.ext_size];omega
       have hcb2b:CB w b (o2+8) t2b:=ht2b▸hcb2.ext 8
       obtain ⟨A2,hA2⟩:∃ A2,Lib.leNat [t2.get! 0,t2.get! 1,t2.get! 2,t2.get! 3,t2.get! 4,t2.get! 5,t2.get! 6,t2.get! 7]=A2:=⟨_,rfl⟩
       have lA2:A2<18446744073709551616:=hA2▸Lib.word_lt t2
       have cW2:Hid (∀ W,W.heap=wq.heap→Calls Tryz.prog 129 #[.slice (some ⟨b,o2,none⟩) n2 c2] W fun e w'=>e=.returned (.int .u64 A2)∧∃ q,w'=W.drewN q):=Lib.hid (fun W hW=>by rw [←hA2,←hn2];exact word_spec t2 b o2 c2 W (by omega) ((hcb2.below hb1 hblt).of_heap hW))
       have kA2:=Lib.word_asc t2 (by omega)
       rw [hA2] at kA2
       obtain ⟨A3,hA3⟩:∃ A3,Lib.leNat [t2b.get! 0,t2b.get! 1,t2b.get! 2,t2b.get! 3,t2b.get! 4,t2b.get! 5,t2b.get! 6,t2b.get! 7]=A3:=⟨_,rfl⟩
       have lA3:A3<18446744073709551616:=hA3▸Lib.word_lt t2b
       obtain ⟨n2b,hn2b⟩:∃ n2b,t2b.size=n2b:=⟨_,rfl⟩
       rw [hn2b] at z2b
       obtain ⟨o2b,ho2b⟩:∃ o2b,o2+8=o2b:=⟨_,rfl⟩
       obtain ⟨c2b,hc2b⟩:∃ c2b,c2-8=c2b:=⟨_,rfl⟩
       rw [ho2b] at hcb2b
       have u1:¬c2=8:=by omega
       have u2:n2-8=n2b:=by omega
       have cW3:Hid (∀ W,W.heap=wq.heap→Calls Tryz.prog 129 #[.slice (some ⟨b,o2b,none⟩) n2b c2b] W fun e w'=>e=.returned (.int .u64 A3)∧∃ q,w'=W.drewN q):=Lib.hid (fun W hW=>by rw [←hA3,←hn2b];exact word_spec t2b b o2b c2b W (by omega) ((hcb2b.below hb1 hblt).of_heap hW))
       have kA3:=Lib.word_asc t2b (by omega)
       rw [hA3] at kA3
       have hor2:bits .or .u64 (A2:Int) (A3:Int)=((A2 ||| A3:Nat):Int):=u64_or_nat A2 A3 lA2 lA3
       have lor2:A2 ||| A3<18446744073709551616:=Nat.or_lt_two_pow (n:=64) lA2 lA3
       have hand2:bits .and .u64 ((A2 ||| A3:Nat):Int) 9259542123273814144=(((A2 ||| A3) &&& 9259542123273814144:Nat):Int):=u64_and_nat _ 9259542123273814144 lor2 (by omega)
       have k2:(A2 ||| A3) &&& 9259542123273814144=0→Lib.Asc t2 16:=fun h0'=>by
        obtain ⟨e1,e2⟩:=(Lib.or_mask A2 A3 _).1 h0'
        exact Lib.asc_add t2 8 8 (kA2.1 e1) (by rw [ht2b];exact kA3.1 e2)
       obtain ⟨O2,hO2⟩:∃ O2,A2 ||| A3=O2:=⟨_,rfl⟩
       rw [hO2] at hor2 hand2 k2
       obtain ⟨Z2,hZ2⟩:∃ Z2,O2 &&& 9259542123273814144=Z2:=⟨_,rfl⟩
       rw [hZ2] at hand2 k2
       clear kA2 kA3 lor2 hO2 hZ2
       by_cases hz2:Z2=0
       ·have hz2b:((Z2:Int)==0)=true:=by simp [hz2]
        have a16:=k2 hz2
        obtain ⟨t3,ht3⟩:∃ t3,t2.extract 16 t2.size=t3:=⟨_,rfl⟩
        have z3:t3.size+16=n2:=by rw [←ht3,Lib.ext_size];omega
        have v3:Lib.validD t3.data.toList=ANS:=by rw [←ht3,Lib.valid_skip t2 16 a16];exact v2
        have hcb3:CB w b (o2+16) t3:=ht3▸hcb2.ext 16
        obtain ⟨n3,hn3⟩:∃ n3,t3.size=n3:=⟨_,rfl⟩
        obtain ⟨o3,ho3⟩:∃ o3,o2+16=o3:=⟨_,rfl⟩
        obtain ⟨c3,hc3'⟩:∃ c3,c2-16=c3:=⟨_,rfl⟩
        rw [ho3] at hcb3
        rw [hn3] at z3
        have u3:¬c2=16:=by omega
        have u4:n2-16=n3:=by omega
        have u5:(16:Int)≤(n2:Int):=by omega
        have u6:16≤n2:=by omega
        have u7:(16:Int)≤(c2:Int):=by omega
        have u8:(8:Int)≤(c2:Int):=by omega
        have X3:=Lib.hid hn3
        have XC3:Hid (n3≤c3):=Lib.hid (by omega)
        have XN3:Hid (n3+16≤n2):=Lib.hid (by omega)
        clear k2 a16 v2 ht2b ht3 hn3
        go_quiet (first | (go_at_call_of 129 o2;first | exact Calls.quiet_of (cW2.out _ (by rfl)) | exact quiet_add' (cW2.out _ (by rfl))) | (go_at_call_of 129 o2b;first | exact Calls.quiet_of (cW3.out _ (by rfl)) | exact quiet_add' (cW3.out _ (by rfl))))
        have hb2:Below w.heap.size w (wq.drewN nq):=below_dn hb1 nq
        generalize wq.drewN nq=wq2 at hb2 ⊢
        clear cW2 cW3 hb1
        go_wp2
        clear hor2 hand2 hz2b u1 u2 u3 u4 u5 u6 u7 u8
        go_loopg [0] (n3+1) (fun g2 s0 wx=>Below w.heap.size w wx∧∃ u,VRel w.heap.size w ANS s0 u∧u.size<g2∧u.size≤n3)
        case atStart=>exact ⟨hb2,t3,⟨some ⟨b,o3,none⟩,c3,by rw [X3.out],by rw [X3.out];exact XC3.out,fun _=>⟨b,o3,rfl,hblt,hcb3⟩,v3,by rw [X3.out];omega⟩,by rw [X3.out];omega,by rw [X3.out];omega⟩
        case round=>
         clear hcb3 v3 X3 XC3
         obtain ⟨hbu,u,⟨ua,uc,rfl,uuc,usl,uv,uts⟩,hgu,hut⟩:=hrel
         by_cases c32:32<u.size
         ·obtain ⟨g3,rfl⟩:∃ g3,gk=g3+1:=⟨gk-1,by omega⟩
          obtain ⟨ub0,uo,rfl,ublt,ucb⟩:=usl (by omega)
          obtain ⟨un,hun⟩:∃ un,u.size=un:=⟨_,rfl⟩
          rw [hun] at c32 uuc uts hgu hut ⊢
          have ucr:=ucb.below hbu ublt
          have c32z:(32:Int)<(un:Int):=by omega
          obtain ⟨B0,hB0⟩:∃ B0,Lib.leNat [u.get! 0,u.get! 1,u.get! 2,u.get! 3,u.get! 4,u.get! 5,u.get! 6,u.get! 7]=B0:=⟨_,rfl⟩
          have lB0:B0<18446744073709551616:=hB0▸Lib.word_lt u
          have cB0:Hid (∀ W,W.heap=wr.heap→Calls Tryz.prog 129 #[.slice (some ⟨ub0,uo,none⟩) un uc] W fun e w'=>e=.returned (.int .u64 B0)∧∃ q,w'=W.drewN q):=Lib.hid (fun W hW=>by rw [←hB0,←hun];exact word_spec u ub0 uo uc W (by omega) (ucr.of_heap hW))
          have kB0:=Lib.word_asc u (by omega)
          rw [hB0] at kB0
          obtain ⟨u1,hu1⟩:∃ v,u.extract 8 u.size=v:=⟨_,rfl⟩
          have zu1:u1.size+8=un:=by rw [←hu1,Lib.ext_size];omega
          have hcu1:CB wr ub0 (uo+8) u1:=hu1▸ucr.ext 8
          obtain ⟨un1,hun1⟩:∃ v,un-8=v:=⟨_,rfl⟩
          obtain ⟨uo1,huo1⟩:∃ v,uo+8=v:=⟨_,rfl⟩
          obtain ⟨uc1,huc1⟩:∃ v,uc-8=v:=⟨_,rfl⟩
          rw [huo1] at hcu1
          obtain ⟨B1,hB1⟩:∃ v,Lib.leNat [u1.get! 0,u1.get! 1,u1.get! 2,u1.get! 3,u1.get! 4,u1.get! 5,u1.get! 6,u1.get! 7]=v:=⟨_,rfl⟩
          have lB1:B1<18446744073709551616:=hB1▸Lib.word_lt u1
          have cB1:Hid (∀ W,W.heap=wr.heap→Calls Tryz.prog 129 #[.slice (some ⟨ub0,uo1,none⟩) un1 uc1] W fun e w'=>e=.returned (.int .u64 B1)∧∃ q,w'=W.drewN q):=Lib.hid (fun W hW=>by rw [←hB1,show un1=u1.size by omega];exact word_spec u1 ub0 uo1 uc1 W (by omega) (hcu1.of_heap hW))
          have kB1:=Lib.word_asc u1 (by omega)
          rw [hB1] at kB1
          have g10:¬uc=8:=by omega
          have g11:(8:Int)≤(un:Int):=by omega
          have g12:8≤un:=by omega
          have g13:(8:Int)≤(uc:Int):=by omega
          obtain ⟨u2,hu2⟩:∃ v,u.extract 16 u.size=v:=⟨_,rfl⟩
          have zu2:u2.size+16=un:=by rw [←hu2,Lib.ext_size];omega
          have hcu2:CB wr ub0 (uo+16) u2:=hu2▸ucr.ext 16
          obtain ⟨un2,hun2⟩:∃ v,un-16=v:=⟨_,rfl⟩
          obtain ⟨uo2,huo2⟩:∃ v,uo+16=v:=⟨_,rfl⟩
          obtain ⟨uc2,huc2⟩:∃ v,uc-16=v:=⟨_,rfl⟩
          rw [huo2] at hcu2
          obtain ⟨B2,hB2⟩:∃ v,Lib.leNat [u2.get! 0,u2.get! 1,u2.get! 2,u2.get! 3,u2.get! 4,u2.get! 5,u2.get! 6,u2.get! 7]=v:=⟨_,rfl⟩
          have lB2:B2<18446744073709551616:=hB2▸Lib.word_lt u2
          have cB2:Hid (∀ W,W.heap=wr.heap→Calls Tryz.prog 129 #[.slice (some ⟨ub0,uo2,none⟩) un2 uc2] W fun e w'=>e=.returned (.int .u64 B2)∧∃ q,w'=W.drewN q):=Lib.hid (fun W hW=>by rw [←hB2,show un2=u2.size by omega];exact word_spec u2 ub0 uo2 uc2 W (by omega) (hcu2.of_heap hW))
          have kB2:=Lib.word_asc u2 (by omega)
          rw [hB2] at kB2
          have g20:¬uc=16:=by omega
          have g21:(16:Int)≤(un:Int):=by omega
          have g22:16≤un:=by omega
          have g23:(16:Int)≤(uc:Int):=by omega
          obtain ⟨u3,hu3⟩:∃ v,u.extract 24 u.size=v:=⟨_,rfl⟩
          have zu3:u3.size+24=un:=by rw [←hu3,Lib.ext_size];omega
          have hcu3:CB wr ub0 (uo+24) u3:=hu3▸ucr.ext 24
          obtain ⟨un3,hun3⟩:∃ v,un-24=v:=⟨_,rfl⟩
          obtain ⟨uo3,huo3⟩:∃ v,uo+24=v:=⟨_,rfl⟩
          obtain ⟨uc3,huc3⟩:∃ v,uc-24=v:=⟨_,rfl⟩
          rw [huo3] at hcu3
          obtain ⟨B3,hB3⟩:∃ v,Lib.leNat [u3.get! 0,u3.get! 1,u3.get! 2,u3.get! 3,u3.get! 4,u3.get! 5,u3.get! 6,u3.get! 7]=v:=⟨_,rfl⟩
          have lB3:B3<18446744073709551616:=hB3▸Lib.word_lt u3
          have cB3:Hid (∀ W,W.heap=wr.heap→Calls Tryz.prog 129 #[.slice (some ⟨ub0,uo3,none⟩) un3 uc3] W fun e w'=>e=.returned (.int .u64 B3)∧∃ q,w'=W.drewN q):=Lib.hid (fun W hW=>by rw [←hB3,show un3=u3.size by omega];exact word_spec u3 ub0 uo3 uc3 W (by omega) (hcu3.of_heap hW))
          have kB3:=Lib.word_asc u3 (by omega)
          rw [hB3] at kB3
          have g30:¬uc=24:=by omega
          have g31:(24:Int)≤(un:Int):=by omega
          have g32:24≤un:=by omega
          have g33:(24:Int)≤(uc:Int):=by omega
          have ho1:bits .or .u64 (B0:Int) (B1:Int)=((B0 ||| B1:Nat):Int):=u64_or_nat B0 B1 lB0 lB1
          have ho2:bits .or .u64 (B2:Int) (B3:Int)=((B2 ||| B3:Nat):Int):=u64_or_nat B2 B3 lB2 lB3
          have lo1:B0 ||| B1<18446744073709551616:=Nat.or_lt_two_pow (n:=64) lB0 lB1
          have lo2:B2 ||| B3<18446744073709551616:=Nat.or_lt_two_pow (n:=64) lB2 lB3
          have ho3:bits .or .u64 ((B0 ||| B1:Nat):Int) ((B2 ||| B3:Nat):Int)=(((B0 ||| B1) ||| (B2 ||| B3):Nat):Int):=u64_or_nat _ _ lo1 lo2
          have lo3:(B0 ||| B1) ||| (B2 ||| B3)<18446744073709551616:=Nat.or_lt_two_pow (n:=64) lo1 lo2
          have hand3:bits .and .u64 (((B0 ||| B1) ||| (B2 ||| B3):Nat):Int) 9259542123273814144=((((B0 ||| B1) ||| (B2 ||| B3)) &&& 9259542123273814144:Nat):Int):=u64_and_nat _ 9259542123273814144 lo3 (by omega)
          have k3:((B0 ||| B1) ||| (B2 ||| B3)) &&& 9259542123273814144=0→Lib.Asc u 32:=fun h0'=>by
           obtain ⟨e01,e23⟩:=(Lib.or_mask _ _ _).1 h0'
           obtain ⟨e0,e1⟩:=(Lib.or_mask _ _ _).1 e01
           obtain ⟨e2,e3⟩:=(Lib.or_mask _ _ _).1 e23
           have s16:Lib.Asc u 16:=Lib.asc_add u 8 8 (kB0.1 e0) (by rw [hu1];exact kB1.1 e1)
           have s24:Lib.Asc u 24:=Lib.asc_add u 16 8 s16 (by rw [hu2];exact kB2.1 e2)
           exact Lib.asc_add u 24 8 s24 (by rw [hu3];exact kB3.1 e3)
          obtain ⟨P1,hP1⟩:∃ P1,B0 ||| B1=P1:=⟨_,rfl⟩
          obtain ⟨P2,hP2⟩:∃ P2,B2 ||| B3=P2:=⟨_,rfl⟩
          rw [hP1,hP2] at ho3 hand3 k3
          rw [hP1] at ho1
          rw [hP2] at ho2
          obtain ⟨P3,hP3⟩:∃ P3,P1 ||| P2=P3:=⟨_,rfl⟩
          rw [hP3] at ho3 hand3 k3
          obtain ⟨Z3,hZ3⟩:∃ Z3,P3 &&& 9259542123273814144=Z3:=⟨_,rfl⟩
          rw [hZ3] at hand3 k3
          clear kB0 kB1 kB2 kB3 lo1 lo2 lo3 hP1 hP2 hP3 hZ3 hu1 hu2 hu3 hcu1 hcu2 hcu3 ucr
          by_cases hz3:Z3=0
          ·as_aux_lemma=>
            have hz3b:((Z3:Int)==0)=true:=by simp [hz3]
            have a32:=k3 hz3
            obtain ⟨u4,hu4⟩:∃ u4,u.extract 32 u.size=u4:=⟨_,rfl⟩
            have zu4:u4.size+32=un:=by rw [←hu4,Lib.ext_size];omega
            have vu4:Lib.validD u4.data.toList=ANS:=by rw [←hu4,Lib.valid_skip u 32 a32];exact uv
            have hcu4:CB w ub0 (uo+32) u4:=hu4▸ucb.ext 32
            have XU4:Hid (SL w.heap.size w (some ⟨ub0,uo+32,none⟩) u4):=Lib.hid (fun _=>⟨ub0,_,rfl,ublt,hcu4⟩)
            have r1:¬uc=32:=by omega
            have r2:(32:Int)≤(un:Int):=by omega
            have r3:32≤un:=by omega
            have r4:(32:Int)≤(uc:Int):=by omega
            have hne:un-32=u4.size:=by omega
            have XNE:=Lib.hid hne
            clear hcu4 hu4 a32 k3 hne
            go_wp2_with fail
            go_quiet (first | (go_at_call_of 129 uo1;first | exact Calls.quiet_of (cB1.out _ (by rfl)) | exact quiet_add' (cB1.out _ (by rfl))) | (go_at_call_of 129 uo2;first | exact Calls.quiet_of (cB2.out _ (by rfl)) | exact quiet_add' (cB2.out _ (by rfl))) | (go_at_call_of 129 uo3;first | exact Calls.quiet_of (cB3.out _ (by rfl)) | exact quiet_add' (cB3.out _ (by rfl))) | (go_at_call_of 129 uo;first | exact Calls.quiet_of (cB0.out _ (by rfl)) | exact quiet_add' (cB0.out _ (by rfl))))
            go_wp2
            go_roundg g3
            case measure=>omega
            case rel=>exact ⟨below_dn hbu nq,u4,⟨some ⟨ub0,uo+32,none⟩,uc-32,by rw [XNE.out],by omega,XU4.out,vu4,by omega⟩,by omega,by omega⟩
          ·as_aux_lemma=>
            have hz3b:((Z3:Int)==0)=false:=by simp;omega
            clear k3
            go_wp2_with fail
            go_quiet (first | (go_at_call_of 129 uo1;first | exact Calls.quiet_of (cB1.out _ (by rfl)) | exact quiet_add' (cB1.out _ (by rfl))) | (go_at_call_of 129 uo2;first | exact Calls.quiet_of (cB2.out _ (by rfl)) | exact quiet_add' (cB2.out _ (by rfl))) | (go_at_call_of 129 uo3;first | exact Calls.quiet_of (cB3.out _ (by rfl)) | exact quiet_add' (cB3.out _ (by rfl))) | (go_at_call_of 129 uo;first | exact Calls.quiet_of (cB0.out _ (by rfl)) | exact quiet_add' (cB0.out _ (by rfl))))
            go_wp2
            go_roundg g'
            case measure=>omega
            case rel=>exact ⟨below_dn hbu nq,u,⟨_,_,by rw [hun],by omega,fun _=>⟨ub0,uo,rfl,ublt,ucb⟩,uv,by omega⟩,by omega⟩
         ·as_aux_lemma=>
           have c32z:¬((32:Int)<(u.size:Int)):=by omega
           have c32b:decide ((32:Int)<(u.size:Int))=false:=decide_eq_false c32z
           have USL:=Lib.hid usl
           clear usl
           go_wp2_with fail
           go_quiet (fail)
           go_wp2
           go_roundg g'
           case measure=>omega
           case rel=>exact ⟨below_dn hbu nq,u,⟨_,_,rfl,uuc,USL.out,uv,uts⟩,by omega⟩
       ·as_aux_lemma=>
         have hz2b:((Z2:Int)==0)=false:=by simp;omega
         have u8:(8:Int)≤(c2:Int):=by omega
         clear k2
         go_quiet (first | (go_at_call_of 129 o2;first | exact Calls.quiet_of (cW2.out _ (by rfl)) | exact quiet_add' (cW2.out _ (by rfl))) | (go_at_call_of 129 o2b;first | exact Calls.quiet_of (cW3.out _ (by rfl)) | exact quiet_add' (cW3.out _ (by rfl))))
         go_wp2
         go_roundg g'
         case measure=>omega
         case rel=>exact ⟨below_dn hb1 nq,t2,⟨some ⟨b,o2,none⟩,c2,by rw [hn2],by omega,fun _=>⟨b,o2,rfl,hblt,hcb2⟩,v2,by omega⟩,by omega⟩
      ·as_aux_lemma=>
        have c16z:¬((16:Int)<(n2:Int)):=by omega
        have c16b:decide ((16:Int)<(n2:Int))=false:=decide_eq_false c16z
        go_quiet (fail)
        go_wp2
        go_roundg g'
        case measure=>omega
        case rel=>exact ⟨below_dn hb1 nq,t2,⟨some ⟨b,o2,none⟩,c2,by rw [hn2],by omega,fun _=>⟨b,o2,rfl,hblt,hcb2⟩,v2,by omega⟩,by omega⟩
     ·as_aux_lemma=>
       have hz1b:((Z1:Int)==0)=false:=by simp;omega
       clear kA1
       go_wp2_with (go_at_call 129;go_must (refine cW1.out.mono ?_;rintro e W1 ⟨rfl,q1,rfl⟩))
       go_roundg g'
       case measure=>omega
       case rel=>exact ⟨below_dn hbw q1,t1,⟨some ⟨b,o1,none⟩,c1,by rw [hn1],by omega,fun _=>⟨b,o1,rfl,hblt,hcb1⟩,v1,by omega⟩,by omega⟩
    ·as_aux_lemma=>
      have c8z:¬((8:Int)<(n1:Int)):=by omega
      have XB1:Hid (t1.size=n1):=Lib.hid hn1
      by_cases hc1:c=1
      ·have hn10:n1=0:=by omega
       subst hc1
       go_wp2
       go_roundg g'
       case measure=>omega
       case rel=>exact ⟨hbw,t1,⟨some ⟨b,o,none⟩,0,by rw [XB1.out,hn10],by omega,SL.nil (by omega),v1,by omega⟩,by omega⟩
      ·go_wp2
       go_roundg g'
       case measure=>omega
       case rel=>exact ⟨hbw,t1,⟨some ⟨b,o+1,none⟩,c-1,by rw [XB1.out],by omega,fun _=>⟨b,o+1,rfl,hblt,hcb1⟩,v1,by omega⟩,by omega⟩
   ·have hge:128≤x0.toNat:=by omega
    have hascz:¬((x0.toNat:Int)<128):=by omega
    obtain ⟨x1,hx1⟩:∃ x1,t.get! 1=x1:=⟨_,rfl⟩
    obtain ⟨x2,hx2⟩:∃ x2,t.get! 2=x2:=⟨_,rfl⟩
    obtain ⟨x3,hx3⟩:∃ x3,t.get! 3=x3:=⟨_,rfl⟩
    have l1:=x1.toNat_lt;have l2:=x2.toNat_lt;have l3:=x3.toNat_lt
    have hne:t.data.toList≠[]:=fun h=>by rw [Lib.size_eq,h] at h0;simp at h0
    have hlead:=Lib.validD_lead t.data.toList hne (by rw [Lib.getD_get!',hx0];exact hge)
    rw [Lib.getD_get!',Lib.getD_get!',Lib.getD_get!',Lib.getD_get!',hx0,hx1,hx2,hx3,←Lib.size_eq,hv] at hlead
    have hc0:=hTr.1 x0.toNat hx0lt
    have hXlt:Lib.firstT x0.toNat<256:=by rcases Lib.firstT_cases x0.toNat with h | h | h | h | h | h | h | h | h <;> omega
    obtain ⟨X,hX⟩:∃ X,Lib.firstT x0.toNat=X:=⟨_,rfl⟩
    rw [hX] at hc0 hXlt hlead
    have h7:=and7' ⟨X,hXlt⟩
    simp only at h7
    have ha0:wr.cell? ⟨5,X/16*2,none⟩=some (.int .u8 (Lib.accLo (X/16))):=by rw [Nat.mul_comm];exact (hTr.2 (X/16) (by omega)).1
    have ha1:wr.cell? ⟨5,X/16*2+1,none⟩=some (.int .u8 (Lib.accHi (X/16))):=by rw [Nat.mul_comm];exact (hTr.2 (X/16) (by omega)).2
    obtain ⟨LO,hLO⟩:∃ LO,Lib.accLo (X/16)=LO:=⟨_,rfl⟩
    obtain ⟨HI,hHI⟩:∃ HI,Lib.accHi (X/16)=HI:=⟨_,rfl⟩
    rw [hLO] at ha0 hlead
    rw [hHI] at ha1 hlead
    obtain ⟨SZ,hSZ⟩:∃ SZ,X % 8=SZ:=⟨_,rfl⟩
    rw [hSZ] at hlead
    obtain ⟨n,hn⟩:∃ n,t.size=n:=⟨_,rfl⟩
    have hcb1:1<n→wr.cell? ⟨b,o+1,none⟩=some (.int .u8 (x1.toNat:Int)):=fun h=>by rw [←hx1];exact hcr 1 (by omega)
    have hcb2:2<n→wr.cell? ⟨b,o+2,none⟩=some (.int .u8 (x2.toNat:Int)):=fun h=>by rw [←hx2];exact hcr 2 (by omega)
    have hcb3:3<n→wr.cell? ⟨b,o+3,none⟩=some (.int .u8 (x3.toNat:Int)):=fun h=>by rw [←hx3];exact hcr 3 (by omega)
    have HCB1:=Lib.hid hcb1
    have HCB2:=Lib.hid hcb2
    have HCB3:=Lib.hid hcb3
    have HCB:=Lib.hid hcb
    have HN:=Lib.hid hn
    have hcn:n≤c:=by omega
    have hgn:n<g'+1:=by omega
    have htn:n≤100000:=by omega
    have h0n:0<n:=by omega
    have h0zn:(0:Int)<(n:Int):=by omega
    rw [hn] at hlead ⊢
    clear hTr hX hv hLO hHI hne hsl hcr hcb hcb1 hcb2 hcb3 h0z h0 hg htc hts hn
    by_cases s2:SZ=2
    ·subst s2
     have hSZz:(X:Int) % 8=2:=by omega
     simp only [Lib.checkN,Nat.reduceEqDiff,if_true,if_false] at hlead
     have HLEAD:=Lib.hid hlead
     clear hlead
     go_upto_region 18 with fail
     go_cut [103] from 85 to 103 (fun c wx=>c=.bool (decide (n<2∨x1.toNat<LO∨HI<x1.toNat))∧Below w.heap.size w wx)
     case first=>
      as_aux_lemma=>
       by_cases q0:n<2
       ·have q0z:((n:Int)<2):=by omega
        go_quiet (fail)
        go_wp2
        go_meet
        exact ⟨congrArg Value.bool (decide_eq_true (p:=n<2∨x1.toNat<LO∨HI<x1.toNat) (by omega)).symm,below_dn (hbw.alloc hbw.size _) _⟩
       ·have q0z:¬((n:Int)<2):=by omega
        have hz1:(1:Int)<(n:Int):=by omega
        have hp1:1<n:=by omega
        have hs1:=HCB1.out (by omega)
        have hb1:=block_lt_of_cell hs1
        by_cases q1:x1.toNat<LO
        ·have q1z:((x1.toNat:Int)<(LO:Int)):=by omega
         go_quiet (fail)
         go_wp2
         go_meet
         exact ⟨congrArg Value.bool (decide_eq_true (p:=n<2∨x1.toNat<LO∨HI<x1.toNat) (by omega)).symm,below_dn (hbw.alloc hbw.size _) _⟩
        ·have q1z:¬((x1.toNat:Int)<(LO:Int)):=by omega
         by_cases q2:HI<x1.toNat
         ·have q2z:((HI:Int)<(x1.toNat:Int)):=by omega
          go_quiet (fail)
          go_wp2
          go_meet
          exact ⟨congrArg Value.bool (decide_eq_true (p:=n<2∨x1.toNat<LO∨HI<x1.toNat) (by omega)).symm,below_dn (hbw.alloc hbw.size _) _⟩
         ·have q2z:¬((HI:Int)<(x1.toNat:Int)):=by omega
          go_quiet (fail)
          go_wp2
          go_meet
          exact ⟨congrArg Value.bool (decide_eq_false (p:=n<2∨x1.toNat<LO∨HI<x1.toNat) (by omega)).symm,below_dn (hbw.alloc hbw.size _) _⟩
     case rest=>
      as_aux_lemma=>
       obtain ⟨rfl,hbc⟩:=hcut
       by_cases hb:n<2∨x1.toNat<LO∨HI<x1.toNat
       ·have hbd:decide (n<2∨x1.toNat<LO∨HI<x1.toNat)=true:=decide_eq_true hb
        have hl:=HLEAD.out
        rw [if_pos hb] at hl
        have HL:=Lib.hid hl
        clear hl
        go_wp2
        all_goals (go_ret;exact ⟨by first | rfl | (rw [HL.out];rfl),hbc⟩)
       ·have hbd:decide (n<2∨x1.toNat<LO∨HI<x1.toNat)=false:=decide_eq_false hb
        have hl:=HLEAD.out
        rw [if_neg hb] at hl
        have HL:=Lib.hid hl
        clear hl
        have e1:(2:Int)≤(n:Int):=by omega
        have e2:2≤n:=by omega
        have e3:(2:Int)≤(c:Int):=by omega
        have e4:2≤c:=by omega
        have hsz:(t.extract 2 t.size).size=n-2:=by rw [Lib.ext_size,HN.out]
        have HSZ:=Lib.hid hsz
        clear hsz
        by_cases hc2:c=2
        ·have hn0:n-2=0:=by omega
         subst hc2
         go_wp2
         go_roundg g'
         case measure=>omega
         case rel=>exact ⟨hbc,t.extract 2 t.size,⟨some ⟨b,o,none⟩,0,by rw [HSZ.out,hn0],by rw [HSZ.out];omega,SL.nil (by rw [HSZ.out];omega),by rw [Lib.ext_list,HL.out],by rw [HSZ.out];omega⟩,by rw [HSZ.out];omega⟩
        ·go_wp2
         go_roundg g'
         case measure=>omega
         case rel=>exact ⟨hbc,t.extract 2 t.size,⟨some ⟨b,o+2,none⟩,c-2,by rw [HSZ.out],by rw [HSZ.out];omega,fun _=>⟨b,o+2,rfl,hblt,HCB.out.ext 2⟩,by rw [Lib.ext_list,HL.out],by rw [HSZ.out];omega⟩,by rw [HSZ.out];omega⟩
    by_cases s3:SZ=3
    ·subst s3
     have hSZz:(X:Int) % 8=3:=by omega
     simp only [Lib.checkN,Nat.reduceEqDiff,if_true,if_false] at hlead
     have HLEAD:=Lib.hid hlead
     clear hlead
     go_upto_region 22 with fail
     go_cut [138] from 108 to 138 (fun c wx=>c=.bool (decide (n<3∨x1.toNat<LO∨HI<x1.toNat∨x2.toNat<128∨191<x2.toNat))∧Below w.heap.size w wx)
     case first=>
      as_aux_lemma=>
       by_cases q0:n<3
       ·have q0z:((n:Int)<3):=by omega
        go_quiet (fail)
        go_wp2
        go_meet
        exact ⟨congrArg Value.bool (decide_eq_true (p:=n<3∨x1.toNat<LO∨HI<x1.toNat∨x2.toNat<128∨191<x2.toNat) (by omega)).symm,below_dn (hbw.alloc hbw.size _) _⟩
       ·have q0z:¬((n:Int)<3):=by omega
        have hz1:(1:Int)<(n:Int):=by omega
        have hp1:1<n:=by omega
        have hs1:=HCB1.out (by omega)
        have hb1:=block_lt_of_cell hs1
        have hz2:(2:Int)<(n:Int):=by omega
        have hp2:2<n:=by omega
        have hs2:=HCB2.out (by omega)
        have hb2:=block_lt_of_cell hs2
        by_cases q1:x1.toNat<LO
        ·have q1z:((x1.toNat:Int)<(LO:Int)):=by omega
         go_quiet (fail)
         go_wp2
         go_meet
         exact ⟨congrArg Value.bool (decide_eq_true (p:=n<3∨x1.toNat<LO∨HI<x1.toNat∨x2.toNat<128∨191<x2.toNat) (by omega)).symm,below_dn (hbw.alloc hbw.size _) _⟩
        ·have q1z:¬((x1.toNat:Int)<(LO:Int)):=by omega
         by_cases q2:HI<x1.toNat
         ·have q2z:((HI:Int)<(x1.toNat:Int)):=by omega
          go_quiet (fail)
          go_wp2
          go_meet
          exact ⟨congrArg Value.bool (decide_eq_true (p:=n<3∨x1.toNat<LO∨HI<x1.toNat∨x2.toNat<128∨191<x2.toNat) (by omega)).symm,below_dn (hbw.alloc hbw.size _) _⟩
         ·have q2z:¬((HI:Int)<(x1.toNat:Int)):=by omega
          by_cases q3:x2.toNat<128
          ·have q3z:((x2.toNat:Int)<128):=by omega
           go_quiet (fail)
           go_wp2
           go_meet
           exact ⟨congrArg Value.bool (decide_eq_true (p:=n<3∨x1.toNat<LO∨HI<x1.toNat∨x2.toNat<128∨191<x2.toNat) (by omega)).symm,below_dn (hbw.alloc hbw.size _) _⟩
          ·have q3z:¬((x2.toNat:Int)<128):=by omega
           by_cases q4:191<x2.toNat
           ·have q4z:((191:Int)<(x2.toNat:Int)):=by omega
            go_quiet (fail)
            go_wp2
            go_meet
            exact ⟨congrArg Value.bool (decide_eq_true (p:=n<3∨x1.toNat<LO∨HI<x1.toNat∨x2.toNat<128∨191<x2.toNat) (by omega)).symm,below_dn (hbw.alloc hbw.size _) _⟩
           ·have q4z:¬((191:Int)<(x2.toNat:Int)):=by omega
            go_quiet (fail)
            go_wp2
            go_meet
            exact ⟨congrArg Value.bool (decide_eq_false (p:=n<3∨x1.toNat<LO∨HI<x1.toNat∨x2.toNat<128∨191<x2.toNat) (by omega)).symm,below_dn (hbw.alloc hbw.size _) _⟩
     case rest=>
      as_aux_lemma=>
       obtain ⟨rfl,hbc⟩:=hcut
       by_cases hb:n<3∨x1.toNat<LO∨HI<x1.toNat∨x2.toNat<128∨191<x2.toNat
       ·have hbd:decide (n<3∨x1.toNat<LO∨HI<x1.toNat∨x2.toNat<128∨191<x2.toNat)=true:=decide_eq_true hb
        have hl:=HLEAD.out
        rw [if_pos hb] at hl
        have HL:=Lib.hid hl
        clear hl
        go_wp2
        all_goals (go_ret;exact ⟨by first | rfl | (rw [HL.out];rfl),hbc⟩)
       ·have hbd:decide (n<3∨x1.toNat<LO∨HI<x1.toNat∨x2.toNat<128∨191<x2.toNat)=false:=decide_eq_false hb
        have hl:=HLEAD.out
        rw [if_neg hb] at hl
        have HL:=Lib.hid hl
        clear hl
        have e1:(3:Int)≤(n:Int):=by omega
        have e2:3≤n:=by omega
        have e3:(3:Int)≤(c:Int):=by omega
        have e4:3≤c:=by omega
        have hsz:(t.extract 3 t.size).size=n-3:=by rw [Lib.ext_size,HN.out]
        have HSZ:=Lib.hid hsz
        clear hsz
        by_cases hc3:c=3
        ·have hn0:n-3=0:=by omega
         subst hc3
         go_wp2
         go_roundg g'
         case measure=>omega
         case rel=>exact ⟨hbc,t.extract 3 t.size,⟨some ⟨b,o,none⟩,0,by rw [HSZ.out,hn0],by rw [HSZ.out];omega,SL.nil (by rw [HSZ.out];omega),by rw [Lib.ext_list,HL.out],by rw [HSZ.out];omega⟩,by rw [HSZ.out];omega⟩
        ·go_wp2
         go_roundg g'
         case measure=>omega
         case rel=>exact ⟨hbc,t.extract 3 t.size,⟨some ⟨b,o+3,none⟩,c-3,by rw [HSZ.out],by rw [HSZ.out];omega,fun _=>⟨b,o+3,rfl,hblt,HCB.out.ext 3⟩,by rw [Lib.ext_list,HL.out],by rw [HSZ.out];omega⟩,by rw [HSZ.out];omega⟩
    by_cases s4:SZ=4
    ·subst s4
     have hSZz:(X:Int) % 8=4:=by omega
     simp only [Lib.checkN,Nat.reduceEqDiff,if_true,if_false] at hlead
     have HLEAD:=Lib.hid hlead
     clear hlead
     go_upto_region 26 with fail
     go_cut [185] from 143 to 185 (fun c wx=>c=.bool (decide (n<4∨x1.toNat<LO∨HI<x1.toNat∨x2.toNat<128∨191<x2.toNat∨x3.toNat<128∨191<x3.toNat))∧Below w.heap.size w wx)
     case first=>
      as_aux_lemma=>
       by_cases q0:n<4
       ·have q0z:((n:Int)<4):=by omega
        go_quiet (fail)
        go_wp2
        go_meet
        exact ⟨congrArg Value.bool (decide_eq_true (p:=n<4∨x1.toNat<LO∨HI<x1.toNat∨x2.toNat<128∨191<x2.toNat∨x3.toNat<128∨191<x3.toNat) (by omega)).symm,below_dn (hbw.alloc hbw.size _) _⟩
       ·have q0z:¬((n:Int)<4):=by omega
        have hz1:(1:Int)<(n:Int):=by omega
        have hp1:1<n:=by omega
        have hs1:=HCB1.out (by omega)
        have hb1:=block_lt_of_cell hs1
        have hz2:(2:Int)<(n:Int):=by omega
        have hp2:2<n:=by omega
        have hs2:=HCB2.out (by omega)
        have hb2:=block_lt_of_cell hs2
        have hz3:(3:Int)<(n:Int):=by omega
        have hp3:3<n:=by omega
        have hs3:=HCB3.out (by omega)
        have hb3:=block_lt_of_cell hs3
        by_cases q1:x1.toNat<LO
        ·have q1z:((x1.toNat:Int)<(LO:Int)):=by omega
         go_quiet (fail)
         go_wp2
         go_meet
         exact ⟨congrArg Value.bool (decide_eq_true (p:=n<4∨x1.toNat<LO∨HI<x1.toNat∨x2.toNat<128∨191<x2.toNat∨x3.toNat<128∨191<x3.toNat) (by omega)).symm,below_dn (hbw.alloc hbw.size _) _⟩
        ·have q1z:¬((x1.toNat:Int)<(LO:Int)):=by omega
         by_cases q2:HI<x1.toNat
         ·have q2z:((HI:Int)<(x1.toNat:Int)):=by omega
          go_quiet (fail)
          go_wp2
          go_meet
          exact ⟨congrArg Value.bool (decide_eq_true (p:=n<4∨x1.toNat<LO∨HI<x1.toNat∨x2.toNat<128∨191<x2.toNat∨x3.toNat<128∨191<x3.toNat) (by omega)).symm,below_dn (hbw.alloc hbw.size _) _⟩
         ·have q2z:¬((HI:Int)<(x1.toNat:Int)):=by omega
          by_cases q3:x2.toNat<128
          ·have q3z:((x2.toNat:Int)<128):=by omega
           go_quiet (fail)
           go_wp2
           go_meet
           exact ⟨congrArg Value.bool (decide_eq_true (p:=n<4∨x1.toNat<LO∨HI<x1.toNat∨x2.toNat<128∨191<x2.toNat∨x3.toNat<128∨191<x3.toNat) (by omega)).symm,below_dn (hbw.alloc hbw.size _) _⟩
          ·have q3z:¬((x2.toNat:Int)<128):=by omega
           by_cases q4:191<x2.toNat
           ·have q4z:((191:Int)<(x2.toNat:Int)):=by omega
            go_quiet (fail)
            go_wp2
            go_meet
            exact ⟨congrArg Value.bool (decide_eq_true (p:=n<4∨x1.toNat<LO∨HI<x1.toNat∨x2.toNat<128∨191<x2.toNat∨x3.toNat<128∨191<x3.toNat) (by omega)).symm,below_dn (hbw.alloc hbw.size _) _⟩
           ·have q4z:¬((191:Int)<(x2.toNat:Int)):=by omega
            by_cases q5:x3.toNat<128
            ·have q5z:((x3.toNat:Int)<128):=by omega
             go_quiet (fail)
             go_wp2
             go_meet
             exact ⟨congrArg Value.bool (decide_eq_true (p:=n<4∨x1.toNat<LO∨HI<x1.toNat∨x2.toNat<128∨191<x2.toNat∨x3.toNat<128∨191<x3.toNat) (by omega)).symm,below_dn (hbw.alloc hbw.size _) _⟩
            ·have q5z:¬((x3.toNat:Int)<128):=by omega
             by_cases q6:191<x3.toNat
             ·have q6z:((191:Int)<(x3.toNat:Int)):=by omega
              go_quiet (fail)
              go_wp2
              go_meet
              exact ⟨congrArg Value.bool (decide_eq_true (p:=n<4∨x1.toNat<LO∨HI<x1.toNat∨x2.toNat<128∨191<x2.toNat∨x3.toNat<128∨191<x3.toNat) (by omega)).symm,below_dn (hbw.alloc hbw.size _) _⟩
             ·have q6z:¬((191:Int)<(x3.toNat:Int)):=by omega
              go_quiet (fail)
              go_wp2
              go_meet
              exact ⟨congrArg Value.bool (decide_eq_false (p:=n<4∨x1.toNat<LO∨HI<x1.toNat∨x2.toNat<128∨191<x2.toNat∨x3.toNat<128∨191<x3.toNat) (by omega)).symm,below_dn (hbw.alloc hbw.size _) _⟩
     case rest=>
      as_aux_lemma=>
       obtain ⟨rfl,hbc⟩:=hcut
       by_cases hb:n<4∨x1.toNat<LO∨HI<x1.toNat∨x2.toNat<128∨191<x2.toNat∨x3.toNat<128∨191<x3.toNat
       ·have hbd:decide (n<4∨x1.toNat<LO∨HI<x1.toNat∨x2.toNat<128∨191<x2.toNat∨x3.toNat<128∨191<x3.toNat)=true:=decide_eq_true hb
        have hl:=HLEAD.out
        rw [if_pos hb] at hl
        have HL:=Lib.hid hl
        clear hl
        go_wp2
        all_goals (go_ret;exact ⟨by first | rfl | (rw [HL.out];rfl),hbc⟩)
       ·have hbd:decide (n<4∨x1.toNat<LO∨HI<x1.toNat∨x2.toNat<128∨191<x2.toNat∨x3.toNat<128∨191<x3.toNat)=false:=decide_eq_false hb
        have hl:=HLEAD.out
        rw [if_neg hb] at hl
        have HL:=Lib.hid hl
        clear hl
        have e1:(4:Int)≤(n:Int):=by omega
        have e2:4≤n:=by omega
        have e3:(4:Int)≤(c:Int):=by omega
        have e4:4≤c:=by omega
        have hsz:(t.extract 4 t.size).size=n-4:=by rw [Lib.ext_size,HN.out]
        have HSZ:=Lib.hid hsz
        clear hsz
        by_cases hc4:c=4
        ·have hn0:n-4=0:=by omega
         subst hc4
         go_wp2
         go_roundg g'
         case measure=>omega
         case rel=>exact ⟨hbc,t.extract 4 t.size,⟨some ⟨b,o,none⟩,0,by rw [HSZ.out,hn0],by rw [HSZ.out];omega,SL.nil (by rw [HSZ.out];omega),by rw [Lib.ext_list,HL.out],by rw [HSZ.out];omega⟩,by rw [HSZ.out];omega⟩
        ·go_wp2
         go_roundg g'
         case measure=>omega
         case rel=>exact ⟨hbc,t.extract 4 t.size,⟨some ⟨b,o+4,none⟩,c-4,by rw [HSZ.out],by rw [HSZ.out];omega,fun _=>⟨b,o+4,rfl,hblt,HCB.out.ext 4⟩,by rw [Lib.ext_list,HL.out],by rw [HSZ.out];omega⟩,by rw [HSZ.out];omega⟩
    ·have e2:¬((X:Int) % 8=2):=by omega
     have e3:¬((X:Int) % 8=3):=by omega
     have e4:¬((X:Int) % 8=4):=by omega
     have e2b:(((X:Int) % 8)==2)=false:=by simp;omega
     have e3b:(((X:Int) % 8)==3)=false:=by simp;omega
     have e4b:(((X:Int) % 8)==4)=false:=by simp;omega
     simp only [Lib.checkN,s2,s3,s4,if_false] at hlead
     have HL:=Lib.hid hlead
     clear hlead
     go_wp2
     all_goals (go_ret;exact ⟨by first | rfl | (rw [HL.out];rfl),hbw.alloc hbw.size _⟩)
  ·have h0z:¬((0:Int)<(t.size:Int)):=by omega
   have ht0:t.data.toList=[]:=List.eq_nil_of_length_eq_zero (by rw [←Lib.size_eq];omega)
   rw [ht0,Lib.validD_nil] at hv
   subst hv
   clear hsl
   go_wp2
   go_ret
   exact ⟨rfl,hbw⟩
theorem valid_spec {w:World} (bs:List UInt8) (a:Option Addr) (n c:Nat) (hn:n=bs.length) (hc:n≤c) (hl:bs.length≤100000) (hT:Lib.Utf8Tabs 4 5 w)
  (hcells:bs≠[]→∃ b o,a=some ⟨b,o,none⟩∧∀ j,j<bs.length→w.cell? ⟨b,o+j,none⟩=bs[j]?.map bcell) :
  Calls Tryz.prog 95 #[.slice a n c] w fun e w'=>e=.returned (.bool (Lib.validD bs))∧Below w.heap.size w w':=by
 have hsz:(⟨bs.toArray⟩:ByteArray).size=bs.length:=by simp [ByteArray.size]
 have:=valid_bytes ⟨bs.toArray⟩ a c w (by rw [hsz];exact hl) (by rw [hsz];omega) (fun h=>by
  rw [hsz] at h
  obtain ⟨b,o,ha,hcc⟩:=hcells (fun e=>by rw [e] at h;simp at h)
  refine ⟨b,o,ha,?_,fun j hj=>?_⟩
  ·have h1:=hcc 0 h
   rw [List.getElem?_eq_getElem h] at h1
   exact block_lt_of_cell h1
  ·rw [hsz] at hj
   rw [hcc j hj,List.getElem?_eq_getElem hj]
   have e:(⟨bs.toArray⟩:ByteArray).get! j=bs[j]:=by rw [←Lib.getD_get!',List.getD_eq_getElem?_getD,List.getElem?_eq_getElem hj];rfl
   rw [e]
   rfl) hT
 rw [hsz,←hn] at this
 exact this
end Go.Proofs.YtkfggfjdplnkpaaGreatDoor
end
