/- A part of the proof that the law FnDecodeValues returns true; its conditions are those of the last part. -/
import Derived.Test.YtkfggfjdplnkpaaGreatDoorProg
import Derived.Below
import Derived.Deep.Draws
import Derived.Deep.AppendLies
import Derived.Maps.AppendAt
import Derived.OwnWalk
import Derived.Laws.BytesArg
import Derived.Laws.MakeOwn
import Derived.Laws.OwnMore
import Derived.Deep.OwnRows
import Derived.Tactics
import Derived.Lib.ConvBytes
import Derived.Laws.Slices
import Derived.WalkKit
import Derived.KernelRfl
import Derived.RowKit3
import Derived.Deep.LoopGhost
import Derived.Deep.QuietTactic
import Derived.BigQuiet
import Derived.WideLaws
import Derived.Deep.DeepCutAuto
import Derived.Deep.CutBlock
import Derived.Deep.RegionHeld3
import Derived.Laws.Rows
import Derived.Lib.AppendStr
import Derived.ArgAppend
import Derived.Laws.IdiomCopy
import Derived.OrdersHeld
import Derived.Laws.BitsLemmas
import Derived.RowKit
import Derived.Test.YtkfggfjdplnkpaaGreatDoorVWWords
import Derived.Test.YtkfggfjdplnkpaaGreatDoorVWLast
import Derived.Test.YtkfggfjdplnkpaaGreatDoorVReset
set_option maxRecDepth 100000
set_option linter.unusedVariables false
set_option linter.unusedSimpArgs false
section
namespace Go.Proofs.YtkfggfjdplnkpaaGreatDoor.PFnDecodeScript
open Go.RowKit Go.Proofs.YtkfggfjdplnkpaaGreatDoorW.PrintWords Go.Proofs.YtkfggfjdplnkpaaGreatDoorW.PrintLast
theorem info5:(Tryz.prog.info? 5).map (fun i=>(i.zero,i.size,i.bytes))=some (some (.int .u8 0),1,1):=by kernel_rfl
end Go.Proofs.YtkfggfjdplnkpaaGreatDoor.PFnDecodeScript
end
section
namespace Go.Proofs.YtkfggfjdplnkpaaGreatDoor.PFnDecodeScript
open Go.RowKit Go.Proofs.YtkfggfjdplnkpaaGreatDoorW.PrintWords Go.Proofs.YtkfggfjdplnkpaaGreatDoorW.PrintLast
def lineprotocol_zzCountByte.l0:Nat→Int→Int→List Int→Int→Int→Option (Int)
 | 0,_,_,_,_,_=>none
 | k+1,x1,x5,x8,x9,x10=>if x10<x9 then (if 0≤x10 then (if x10<(x8.length:Int) then (if (rd x8 x10)=x1 then (lineprotocol_zzCountByte.l0 k x1 (wrap64 (x5+1)) x8 x9 (wrap64 (x10+1))) else (lineprotocol_zzCountByte.l0 k x1 x5 x8 x9 (wrap64 (x10+1)))) else (none)) else (none)) else (some x5)
def lineprotocol_zzCountByte.f (k:Nat) (l0:List Int) (a1:Int):Option (Int):=lineprotocol_zzCountByte.l0 k a1 0 l0 (l0.length:Int) 0
set_option maxHeartbeats 8000000 in
theorem lineprotocol_zzCountByte.calls (k:Nat) (A0:Option Addr) (c0:Nat) (l0:List Int) (a1:Int) (r:Int) (w:World) (hr0:Kd.C (Kd.int .u8) w A0 l0.length l0) (hc0:l0.length≤c0) (h:lineprotocol_zzCountByte.f k l0 a1=some r) :
  Calls Tryz.prog 104 #[.slice A0 l0.length c0,.int .u8 a1] w fun e w'=>e=.returned (.int .i64 r)∧Drawn0 w w':=by
 have HR0:=Aside0.mk hr0
 have HC0:=Aside0.mk hc0
 clear hr0 hc0
 have H:(lineprotocol_zzCountByte.l0 k a1 0 l0 (l0.length:Int) 0)=some r:=h
 clear h
 have H':=Aside0.mk H
 clear H
 go_enter Tryz.func104,Tryz.ntmps104
 go_wp2
 go_loopg [5,10] k (fun kq v5 v10 w'=>∃ (x5_1:Int) (x10_1:Int),v5=.int .i64 x5_1∧v10=.int .i64 x10_1∧Aside0 (lineprotocol_zzCountByte.l0 kq a1 x5_1 l0 (l0.length:Int) x10_1=some r)∧Aside0 (kq≤k)∧Drawn0 w w')
 case atStart=>exact ⟨(0),(0),(by first | rfl | (simp;done) | (simp [*];done)),(by first | rfl | (simp;done) | (simp [*];done)),H',⟨Nat.le_refl _⟩,by repeat (first | exact Drawn0.refl _ | apply Drawn0.step)⟩
 case round=>
  clear H'
  try clear c1
  try clear p2
  obtain ⟨x5_1,x10_1,rfl,rfl,HA,HK1,⟨m1,rfl⟩⟩:=hrel
  cases gk with
  | zero=>exact absurd HA.out (by simp [lineprotocol_zzCountByte.l0])
  | succ k1=>
   have H:=HA.out
   clear HA
   simp only [lineprotocol_zzCountByte.l0] at H
   by_cases c3:x10_1<(l0.length:Int)
   ·rw [if_pos c3] at H
    have c3b0:decide (x10_1<(l0.length:Int))=true:=decide_eq_true c3
    clear c3
    by_cases c4:0≤x10_1
    ·rw [if_pos c4] at H
     have c4b0:decide (0≤x10_1)=true:=decide_eq_true c4
     clear c4
     by_cases c5:x10_1<(l0.length:Int)
     ·rw [if_pos c5] at H
      have c5b0:decide (x10_1<(l0.length:Int))=true:=decide_eq_true c5
      clear c5
      by_cases c6:(rd l0 x10_1)=a1
      ·rw [if_pos c6] at H
       have c6b0:((rd l0 x10_1)==a1)=true:=beq_iff_eq.mpr c6
       have c6b1:((rd l0 x10_1) != a1)=false:=bne_eq_false_iff_eq.mpr c6
       clear c6
       have H':=Aside0.mk H
       clear H
       have p113:0≤(x10_1:Int):=of_decide_eq_true (by first | (with_reducible assumption) | assumption)
       have q113:x10_1<(l0.length:Int):=of_decide_eq_true (by first | (with_reducible assumption) | assumption)
       obtain ⟨ad113,e113,hx113_0⟩:=Kd.at_int HR0.out x10_1 p113 q113
       cases e113
       replace p113:=eq_true p113
       replace q113:=eq_true q113
       go_wp2
       go_roundg k1
       case measure=>have:=HK1.out;omega
       case rel=>exact ⟨(wrap64 (x5_1+1)),(wrap64 (x10_1+1)),(by first | rfl | (simp;done) | (simp [*];done)),(by first | rfl | (simp;done) | (simp [*];done)),H',⟨by have:=HK1.out;omega⟩,by repeat (first | exact Drawn0.refl _ | apply Drawn0.step)⟩
      ·rw [if_neg c6] at H
       have c6b0:((rd l0 x10_1)==a1)=false:=beq_eq_false_iff_ne.mpr c6
       have c6b1:((rd l0 x10_1) != a1)=true:=bne_iff_ne.mpr c6
       have H':=Aside0.mk H
       clear H
       have p113:0≤(x10_1:Int):=of_decide_eq_true (by first | (with_reducible assumption) | assumption)
       have q113:x10_1<(l0.length:Int):=of_decide_eq_true (by first | (with_reducible assumption) | assumption)
       obtain ⟨ad113,e113,hx113_0⟩:=Kd.at_int HR0.out x10_1 p113 q113
       cases e113
       replace p113:=eq_true p113
       replace q113:=eq_true q113
       go_wp2
       go_roundg k1
       case measure=>have:=HK1.out;omega
       case rel=>exact ⟨(x5_1),(wrap64 (x10_1+1)),(by first | rfl | (simp;done) | (simp [*];done)),(by first | rfl | (simp;done) | (simp [*];done)),H',⟨by have:=HK1.out;omega⟩,by repeat (first | exact Drawn0.refl _ | apply Drawn0.step)⟩
     ·rw [if_neg c5] at H
      exact absurd H (by simp)
    ·rw [if_neg c4] at H
     exact absurd H (by simp)
   ·rw [if_neg c3] at H
    have c3b0:decide (x10_1<(l0.length:Int))=false:=decide_eq_false c3
    clear c3
    obtain rfl:=Option.some.inj H
    go_wp2
    go_ret
    exact ⟨by first | rfl | (simp;done) | (simp [*];done),by repeat (first | exact Drawn0.refl _ | apply Drawn0.step)⟩
def bytealg_LastIndexByte.l0:Nat→List Int→Int→Int→Option (Int)
 | 0,_,_,_=>none
 | k+1,x0,x1,x5=>if x5≥0 then (if 0≤x5 then (if x5<(x0.length:Int) then (if (rd x0 x5)=x1 then (some x5) else (bytealg_LastIndexByte.l0 k x0 x1 (wrap64 (x5-1)))) else (none)) else (none)) else (some (-1))
def bytealg_LastIndexByte.f (k:Nat) (l0:List Int) (a1:Int):Option (Int):=bytealg_LastIndexByte.l0 k l0 a1 (wrap64 ((l0.length:Int)-1))
set_option maxHeartbeats 8000000 in
theorem bytealg_LastIndexByte.calls (k:Nat) (A0:Option Addr) (c0:Nat) (l0:List Int) (a1:Int) (r:Int) (w:World) (hr0:Kd.C (Kd.int .u8) w A0 l0.length l0) (hc0:l0.length≤c0) (h:bytealg_LastIndexByte.f k l0 a1=some r) :
  Calls Tryz.prog 139 #[.slice A0 l0.length c0,.int .u8 a1] w fun e w'=>e=.returned (.int .i64 r)∧Drawn0 w w':=by
 have HR0:=Aside0.mk hr0
 have HC0:=Aside0.mk hc0
 clear hr0 hc0
 have H:(bytealg_LastIndexByte.l0 k l0 a1 (wrap64 ((l0.length:Int)-1)))=some r:=h
 clear h
 have H':=Aside0.mk H
 clear H
 go_enter Tryz.func139,Tryz.ntmps139
 go_wp2
 go_loopg [5] k (fun kq v5 w'=>∃ (x5_1:Int),v5=.int .i64 x5_1∧Aside0 (bytealg_LastIndexByte.l0 kq l0 a1 x5_1=some r)∧Aside0 (kq≤k)∧Drawn0 w w')
 case atStart=>exact ⟨(wrap64 ((l0.length:Int)-1)),(by first | rfl | (simp;done) | (simp [*];done)),H',⟨Nat.le_refl _⟩,by repeat (first | exact Drawn0.refl _ | apply Drawn0.step)⟩
 case round=>
  clear H'
  try clear c1
  try clear p2
  obtain ⟨x5_1,rfl,HA,HK1,⟨m1,rfl⟩⟩:=hrel
  cases gk with
  | zero=>exact absurd HA.out (by simp [bytealg_LastIndexByte.l0])
  | succ k1=>
   have H:=HA.out
   clear HA
   simp only [bytealg_LastIndexByte.l0] at H
   by_cases c3:x5_1≥0
   ·rw [if_pos c3] at H
    have c3b0:decide (0≤x5_1)=true:=decide_eq_true c3
    clear c3
    by_cases c4:0≤x5_1
    ·rw [if_pos c4] at H
     have c4b0:decide (0≤x5_1)=true:=decide_eq_true c4
     clear c4
     by_cases c5:x5_1<(l0.length:Int)
     ·rw [if_pos c5] at H
      have c5b0:decide (x5_1<(l0.length:Int))=true:=decide_eq_true c5
      clear c5
      by_cases c6:(rd l0 x5_1)=a1
      ·rw [if_pos c6] at H
       have c6b0:((rd l0 x5_1)==a1)=true:=beq_iff_eq.mpr c6
       have c6b1:((rd l0 x5_1) != a1)=false:=bne_eq_false_iff_eq.mpr c6
       clear c6
       obtain rfl:=Option.some.inj H
       have p114:0≤(x5_1:Int):=of_decide_eq_true (by first | (with_reducible assumption) | assumption)
       have q114:x5_1<(l0.length:Int):=of_decide_eq_true (by first | (with_reducible assumption) | assumption)
       obtain ⟨ad114,e114,hx114_0⟩:=Kd.at_int HR0.out x5_1 p114 q114
       cases e114
       replace p114:=eq_true p114
       replace q114:=eq_true q114
       go_wp2
       go_ret
       exact ⟨by first | rfl | (simp;done) | (simp [*];done),by repeat (first | exact Drawn0.refl _ | apply Drawn0.step)⟩
      ·rw [if_neg c6] at H
       have c6b0:((rd l0 x5_1)==a1)=false:=beq_eq_false_iff_ne.mpr c6
       have c6b1:((rd l0 x5_1) != a1)=true:=bne_iff_ne.mpr c6
       have H':=Aside0.mk H
       clear H
       have p114:0≤(x5_1:Int):=of_decide_eq_true (by first | (with_reducible assumption) | assumption)
       have q114:x5_1<(l0.length:Int):=of_decide_eq_true (by first | (with_reducible assumption) | assumption)
       obtain ⟨ad114,e114,hx114_0⟩:=Kd.at_int HR0.out x5_1 p114 q114
       cases e114
       replace p114:=eq_true p114
       replace q114:=eq_true q114
       go_wp2
       go_roundg k1
       case measure=>have:=HK1.out;omega
       case rel=>exact ⟨(wrap64 (x5_1-1)),(by first | rfl | (simp;done) | (simp [*];done)),H',⟨by have:=HK1.out;omega⟩,by repeat (first | exact Drawn0.refl _ | apply Drawn0.step)⟩
     ·rw [if_neg c5] at H
      exact absurd H (by simp)
    ·rw [if_neg c4] at H
     exact absurd H (by simp)
   ·rw [if_neg c3] at H
    have c3b0:decide (0≤x5_1)=false:=decide_eq_false c3
    clear c3
    obtain rfl:=Option.some.inj H
    go_wp2
    go_ret
    exact ⟨by first | rfl | (simp;done) | (simp [*];done),by repeat (first | exact Drawn0.refl _ | apply Drawn0.step)⟩
def bytes_LastIndexByte.f (k:Nat) (l0:List Int) (a1:Int):Option (Int):=(bytealg_LastIndexByte.f k l0 a1).bind fun t115=>(some t115)
set_option maxHeartbeats 8000000 in
theorem bytes_LastIndexByte.calls (k:Nat) (A0:Option Addr) (c0:Nat) (l0:List Int) (a1:Int) (r:Int) (w:World) (hr0:Kd.C (Kd.int .u8) w A0 l0.length l0) (hc0:l0.length≤c0) (h:bytes_LastIndexByte.f k l0 a1=some r) :
  Calls Tryz.prog 110 #[.slice A0 l0.length c0,.int .u8 a1] w fun e w'=>e=.returned (.int .i64 r)∧Drawn0 w w':=by
 have HR0:=Aside0.mk hr0
 have HC0:=Aside0.mk hc0
 clear hr0 hc0
 have H:((bytealg_LastIndexByte.f k l0 a1).bind fun t115=>(some t115))=some r:=h
 clear h
 replace H:=Option.bind_eq_some_iff.mp H
 obtain ⟨t115,A30,H⟩:=H
 replace H:(some t115)=some r:=H
 have A3:=Aside0.mk A30
 clear A30
 obtain rfl:=Option.some.inj H
 go_enter Tryz.func110,Tryz.ntmps110
 go_wp2_with (first | ((with_reducible refine gate_callee (f:=139) rfl ?_);refine goesL_ (some 7) rfl rfl Tryz.func139 (by kernel_rfl) rfl #[.slice A0 l0.length c0,.int .u8 a1] rfl (by (try simp only [List.map_toArray,List.map_cons,List.map_nil]);first | done | rfl | (simp only [List.length_drop,List.length_take];rfl)) ?_;(with_reducible refine (bytealg_LastIndexByte.calls k _ _ l0 a1 t115 _ ?side1 ?side2 A3.out).mono ?_);(case side1=>repeat (first | exact HR0.out | (with_reducible refine Kd.C_alloc ?_ _) | (with_reducible refine Kd.C_drewN ?_ _) | (with_reducible refine Kd.C_drew ?_)));(case side2=>exact HC0.out);rintro e w' ⟨rfl,⟨nd,rfl⟩⟩;refine ⟨_,rfl,?_⟩))
 go_ret
 exact ⟨by first | rfl | (simp;done) | (simp [*];done),by repeat (first | exact Drawn0.refl _ | apply Drawn0.step)⟩
end Go.Proofs.YtkfggfjdplnkpaaGreatDoor.PFnDecodeScript
end
section
namespace Go.Proofs.YtkfggfjdplnkpaaGreatDoor
open Go.RowKit Go.Proofs.YtkfggfjdplnkpaaGreatDoorW.PrintWords PFnDecodeScript
theorem w64 (n:Int) (h:-9223372036854775808≤n∧n≤9223372036854775807):wrap64 n=n:=by unfold wrap64;omega
def nums (l:List UInt8):List Int:=l.map fun b=>(b.toNat:Int)
theorem nums_len (l:List UInt8):(nums l).length=l.length:=by simp [nums]
theorem Told.kd {w:World} {g:Nat} {A:Ab} {C:Cn} {a:Option Addr} {n c:Nat} {bs:List UInt8} (h:Told w g A C (.slice a n c) bs) (hb:bs.length≤9223372036854775807) :
  n=bs.length∧(Kd.int .u8).C w a (nums bs).length (nums bs):=by
 obtain ⟨a',c',e⟩:=h.len
 injection e with e1 e2 e3
 refine ⟨e2,by rfl,by rw [nums_len];exact hb,fun hn=>?_⟩
 rw [nums_len] at hn
 obtain ⟨b,o,cap,hv,hlt,hc⟩:=h.cells (by intro e;rw [e] at hn;simp at hn)
 injection hv with q1 q2 q3
 refine ⟨_,q1,fun j p hj=>⟨[.int .u8 p],rfl,rfl,fun i u hi=>?_⟩⟩
 have hj':j<bs.length:=by
  have:=(List.getElem?_eq_some_iff.1 hj).1
  rwa [nums_len] at this
 cases i with
 | zero=>
  obtain rfl:Value.int .u8 p=u:=by simpa using hi
  have h1:=(hc j hj').1
  rw [show (⟨b,o,none⟩:Addr).add (j*(Kd.int .u8).sz+0)=⟨b,o+j,none⟩ by show Addr.add _ (j*1+0)=_;simp [Addr.add]]
  rw [h1]
  unfold nums at hj
  rw [List.getElem?_map] at hj
  cases hx:bs[j]? with
  | none=>rw [hx] at hj;cases hj
  | some x=>
   rw [hx] at hj
   obtain rfl:(x.toNat:Int)=p:=by simpa using hj
   rfl
 | succ i=>simp at hi
theorem rd_nums (l:List UInt8) (i:Nat):rd (nums l) (i:Int)=((l.getD i 0).toNat:Int):=by
 unfold rd nums
 rw [List.getD_eq_getElem?_getD,List.getD_eq_getElem?_getD,List.getElem?_map,Int.toNat_natCast]
 cases l[i]? <;> rfl
theorem count_l0 (l:List UInt8) (hl:l.length≤100000):∀ (k j c:Nat),j≤l.length→l.length<j+k→c≤j→
  lineprotocol_zzCountByte.l0 k 10 (c:Int) (nums l) ((nums l).length:Int) (j:Int)=some ((c+lfs (l.drop j):Nat):Int)
 | 0,j,c,h1,h2,h3=>absurd h2 (by omega)
 | k+1,j,c,h1,h2,h3=>by
  unfold lineprotocol_zzCountByte.l0
  rw [nums_len]
  by_cases hj:j<l.length
  ·have e1:l.drop j=l[j]::l.drop (j+1):=List.drop_eq_getElem_cons hj
   have e2:l.getD j 0=l[j]:=by simp [List.getD_eq_getElem?_getD,List.getElem?_eq_getElem hj]
   rw [if_pos (by omega),if_pos (by omega),if_pos (by omega),rd_nums,e2,w64 ((c:Int)+1) (by omega),w64 ((j:Int)+1) (by omega)]
   have ih1:=count_l0 l hl k (j+1) (c+1) (by omega) (by omega) (by omega)
   have ih2:=count_l0 l hl k (j+1) c (by omega) (by omega) (by omega)
   rw [nums_len] at ih1 ih2
   by_cases hc:l[j]=10
   ·rw [if_pos (by rw [hc];rfl)]
    refine ih1.trans ?_
    rw [e1,hc]
    simp [lfs,List.countP_cons]
    omega
   ·have hc':¬((l[j].toNat:Int)=10):=fun e=>hc (UInt8.toNat_inj.1 (by show l[j].toNat=10;omega))
    rw [if_neg hc']
    refine ih2.trans ?_
    rw [e1]
    unfold lfs
    rw [List.countP_cons_of_neg (by simpa using hc)]
  ·rw [if_neg (by omega),List.drop_eq_nil_of_le (by omega)]
   simp [lfs]
theorem count_calls {w:World} {A0:Option Addr} {c0 n:Nat} (l:List UInt8) (hn:n=l.length) (hl:l.length≤100000) (hr:(Kd.int .u8).C w A0 (nums l).length (nums l)) (hc:n≤c0) :
  Calls Tryz.prog 104 #[.slice A0 n c0,.int .u8 10] w fun e w'=>e=.returned (.int .i64 (lfs l:Int))∧∃ k,w'=w.drewN k:=by
 have h:=lineprotocol_zzCountByte.calls (l.length+1) A0 c0 (nums l) 10 (lfs l:Int) w hr (by rw [nums_len];omega)
  (by have:=count_l0 l hl (l.length+1) 0 0 (by omega) (by omega) (by omega);simpa [lineprotocol_zzCountByte.f] using this)
 rw [nums_len,←hn] at h
 exact h.mono fun e w' hq=>⟨hq.1,hq.2.out⟩
def tailLen (l:List UInt8):Nat:=(l.reverse.takeWhile (· != 10)).length
theorem tailLen_le (l:List UInt8):tailLen l≤l.length:=by
 have h:∀ (l:List UInt8),(l.takeWhile (· != 10)).length≤l.length:=fun l=>by
  induction l with
  | nil=>simp
  | cons a l ih=>rw [List.takeWhile_cons]; split <;> simp <;> omega
 simpa [tailLen] using h l.reverse
theorem last_l0 (l:List UInt8) (hl:l.length≤100000):∀ (j k:Nat),j≤l.length→j<k→bytealg_LastIndexByte.l0 k (nums l) 10 ((j:Int)-1)=some ((j:Int)-1-(tailLen (l.take j):Int))
 | 0,k+1,h1,h2=>by simp [bytealg_LastIndexByte.l0,tailLen]
 | j+1,k+1,h1,h2=>by
  have hj:j<l.length:=by omega
  unfold bytealg_LastIndexByte.l0
  have e0:(((j+1:Nat):Int)-1)=(j:Int):=by omega
  have e2:l.getD j 0=l[j]:=by simp [List.getD_eq_getElem?_getD,List.getElem?_eq_getElem hj]
  have e3:l.take (j+1)=l.take j++[l[j]]:=by rw [List.take_succ_eq_append_getElem hj]
  rw [e0,nums_len,if_pos (by omega),if_pos (by omega),if_pos (by omega),rd_nums,e2,w64 ((j:Int)-1) (by omega),last_l0 l hl j k (by omega) (by omega)]
  by_cases hc:l[j]=10
  ·rw [if_pos (by rw [hc];rfl),e3]
   simp [tailLen,hc]
  ·have hc':¬((l[j].toNat:Int)=10):=fun e=>hc (UInt8.toNat_inj.1 (by show l[j].toNat=10;omega))
   have e4:tailLen (l.take j++[l[j]])=tailLen (l.take j)+1:=by
    unfold tailLen
    rw [List.reverse_append,List.reverse_singleton,List.singleton_append,List.takeWhile_cons,if_pos (by simpa using hc),List.length_cons]
   rw [if_neg hc',e3,e4]
   congr 1
   omega
theorem last_calls {w:World} {A0:Option Addr} {c0 n:Nat} (l:List UInt8) (hn:n=l.length) (hl:l.length≤100000) (hr:(Kd.int .u8).C w A0 (nums l).length (nums l)) (hc:n≤c0) :
  Calls Tryz.prog 110 #[.slice A0 n c0,.int .u8 10] w fun e w'=>e=.returned (.int .i64 ((n:Int)-1-(tailLen l:Int)))∧∃ k,w'=w.drewN k:=by
 have h:=bytes_LastIndexByte.calls (l.length+1) A0 c0 (nums l) 10 ((n:Int)-1-(tailLen l:Int)) w hr (by rw [nums_len];omega)
  (by
   have:=last_l0 l hl l.length (l.length+1) (by omega) (by omega)
   rw [List.take_length] at this
   unfold bytes_LastIndexByte.f bytealg_LastIndexByte.f
   rw [nums_len,w64 _ (by omega),this,hn]
   rfl)
 rw [nums_len,←hn] at h
 exact h.mono fun e w' hq=>⟨hq.1,hq.2.out⟩
theorem quiet_add {f:FuncId} {args:Array Value} {w:World} {a n:Nat} {v:Value}
  (h:Calls Tryz.prog f args (w.drewN (a+n)) fun e w'=>e=.returned v∧∃ m,w'=(w.drewN (a+n)).drewN m):Calls Tryz.prog f args (w.drewN (a+n)) fun e w''=>e=.returned v∧∃ m,w''=w.drewN (a+m):=
 h.mono fun _ _ ⟨he,m,hm⟩=>⟨he,n+m,by rw [hm,World.drewN_drewN,Nat.add_assoc]⟩
def errLine (T:List UInt8) (A:Ab) (off:Nat):Int:=(A.line:Int)-(lfs ((T.drop (A.from_+off)).take (A.at_-(A.from_+off))):Int)
def errCol (T:List UInt8) (A:Ab) (off:Nat):Int:=(tailLen ((T.drop A.from_).take off):Int)+1
def errPart (A:Ab):Nat:=if A.part=5 then 5 else 4
def ErrAt (w:World) (q:Nat) (line col:Int) (ev:Value):Prop:=w.heap[q]?=some (.cells #[.int .i64 line,.int .i64 col,ev] 124 (0,0))
def SynPost (w:World) (B g:Nat) (T:List UInt8) (A:Ab) (C:Cn) (off:Nat) (ev:Value) (e:Ending) (w':World):Prop:=
 ∃ q,e=.returned (.iface 121 (.pointer (some ⟨q,0,none⟩)))∧w.heap.size≤q∧ErrAt w' q (errLine T A off) (errCol T A off) ev∧Step w B g T A C w' { A with part:=errPart A } C
theorem Rep.below {w w':World} {B g:Nat} {T:List UInt8} {A:Ab} {C:Cn} (h:Rep w B g T A C) (hb:Below w.heap.size w w'):Step w B g T A C w' A C:=by
 have ho:Only (fun _=>False) w w':=Only.of_below hb _
 have hf:=h.again (A':=A) (C':=C) (blk_only h.blk ho id) (ownsF_only h.own ho fun _ _=>id) (ownsRow_only h.esc ho fun _ _=>id) rfl rfl rfl rfl h.le01 h.le1 h.at_ h.dat rfl h.le0 h.bigl h.prt h.escL (ho.mono fun _ _=>False.elim) ⟨fun q=>q,fun b q=>q⟩
 exact ⟨hf.1,hf.2,fun b o hlt hu=>⟨World.cell?_of_block (w:=w) (ho.block b hlt id),hu⟩⟩
end Go.Proofs.YtkfggfjdplnkpaaGreatDoor
end
