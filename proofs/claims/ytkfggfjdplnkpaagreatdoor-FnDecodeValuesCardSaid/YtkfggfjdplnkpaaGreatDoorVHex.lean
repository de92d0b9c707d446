/- A part of the proof that the law FnDecodeValues returns true; its conditions are those of the last part. -/
import Derived.Test.YtkfggfjdplnkpaaGreatDoorVShelf
import Derived.LaidEqlPtr
import Derived.Test.YtkfggfjdplnkpaaGreatDoorVShift
import Derived.Laws.FloatArith
set_option maxRecDepth 100000
set_option linter.unusedVariables false
set_option linter.unusedSimpArgs false
section
namespace Go.Proofs.YtkfggfjdplnkpaaGreatDoor
open Go Go.RowKit
def stk (m:Int):Int:=bits .or .u64 (m/2) (bits .and .u64 m 1)
theorem or_one_le (a:Nat):a ||| 1≤a+1:=by
 have h1:(a ||| 1)/2=a/2:=by rw [Nat.or_div_two];simp
 omega
theorem stk_nat (n:Nat) (h:n<18446744073709551616):stk (n:Int)=((n/2 ||| n % 2:Nat):Int):=by
 have h1:=(bits_nat .u64 64 (by decide) (fun n h0 h1=>IntWalk.u64_in n ⟨h0,by omega⟩) n 1 (by omega) (by decide)).1
 have h2:=(bits_nat .u64 64 (by decide) (fun n h0 h1=>IntWalk.u64_in n ⟨h0,by omega⟩) (n/2) (n % 2) (by omega) (by omega)).2
 unfold stk
 rw [show (1:Int)=((1:Nat):Int) from rfl,h1,Nat.and_one_is_mod]
 rw [show ((n:Int)/2)=((n/2:Nat):Int) by omega]
 exact h2
theorem stk_lt {m:Int} (h:0≤m∧m≤18446744073709551615):0≤stk m∧(2≤m→stk m<m)∧stk m≤m:=by
 obtain ⟨n,rfl⟩:=Int.eq_ofNat_of_zero_le h.1
 rw [stk_nat n (by omega)]
 rcases Nat.mod_two_eq_zero_or_one n with e | e
 ·rw [e,Nat.or_zero]
  omega
 ·rw [e]
  have:=or_one_le (n/2)
  omega
theorem or64_in (x y:Int):0≤bits .or .u64 x y∧bits .or .u64 x y≤18446744073709551615:=by
 have e:bits .or .u64 x y=IntKind.u64.wrap ((BitVec.ofInt 64 x ||| BitVec.ofInt 64 y).toNat:Int):=rfl
 rw [e,IntKind.wrap_u64]
 omega
def hx1:Nat→Int→Int→Int × Int
 | 0,m,x=>(m,x)
 | k+1,m,x=>if ¬m=0∧m/18014398509481984=0 then hx1 k (IntKind.u64.wrap (m*2)) (wrap64 (x-1)) else (m,x)
def hx2:Nat→Int→Int→Int × Int
 | 0,m,x=>(m,x)
 | k+1,m,x=>if ¬m/36028797018963968=0 then hx2 k (stk m) (wrap64 (x+1)) else (m,x)
def hx3:Nat→Int→Int→Int × Int
 | 0,m,x=>(m,x)
 | k+1,m,x=>if 1<m∧x < -1024 then hx3 k (stk m) (wrap64 (x+1)) else (m,x)
theorem hx1_succ (k:Nat) (m x:Int):hx1 (k+1) m x=if ¬m=0∧m/18014398509481984=0 then hx1 k (IntKind.u64.wrap (m*2)) (wrap64 (x-1)) else (m,x):=rfl
theorem hx2_succ (k:Nat) (m x:Int):hx2 (k+1) m x=if ¬m/36028797018963968=0 then hx2 k (stk m) (wrap64 (x+1)) else (m,x):=rfl
theorem hx3_succ (k:Nat) (m x:Int):hx3 (k+1) m x=if 1<m∧x < -1024 then hx3 k (stk m) (wrap64 (x+1)) else (m,x):=rfl
theorem hx1_stop {k:Nat} {m x:Int} (h:¬(¬m=0∧m/18014398509481984=0)):hx1 k m x=(m,x):=by
 cases k with
 | zero=>rfl
 | succ k=>rw [hx1_succ,if_neg h]
theorem hx2_stop {k:Nat} {m x:Int} (h:m/36028797018963968=0):hx2 k m x=(m,x):=by
 cases k with
 | zero=>rfl
 | succ k=>rw [hx2_succ,if_neg (fun h2=>h2 h)]
theorem hx3_stop {k:Nat} {m x:Int} (h:¬(1<m∧x < -1024)):hx3 k m x=(m,x):=by
 cases k with
 | zero=>rfl
 | succ k=>rw [hx3_succ,if_neg h]
def hxQ (m:Int):Int:=bits .or .u64 (bits .and .u64 m 3) (bits .and .u64 (m/4) 1)
def hxR (m x:Int):Int × Int:=
 if hxQ m=3 then
  (if IntKind.u64.wrap (m/4+1)=9007199254740992 then (IntKind.u64.wrap (m/4+1)/2,wrap64 (wrap64 (x+2)+1)) else (IntKind.u64.wrap (m/4+1),wrap64 (x+2)))
 else (m/4,wrap64 (x+2))
def hxX (r:Int × Int):Int:=if r.1/4503599627370496=0 then -1023 else r.2
def hxO (r:Int × Int):Bool:=decide (1023<hxX r)
def hxM (r:Int × Int):Int:=if hxO r=true then 4503599627370496 else r.1
def hxE (r:Int × Int):Int:=if hxO r=true then 1024 else hxX r
def hS (ng:Bool) (v:Int):Int:=if ng=true then bits .or .u64 v 9223372036854775808 else v
def hxB (ng:Bool) (m x:Int):Int:=
 hS ng (bits .or .u64 (bits .and .u64 m 4503599627370495) (IntKind.u64.wrap (IntKind.u64.wrap (bits .and .i64 (wrap64 (x+1023)) 2047)*4503599627370496)))
def hxL (m x:Int) (tr:Bool):Int × Int:=
 let a:=hx1 54 m (wrap64 (x+52))
 let b:=if tr=true then bits .or .u64 a.1 1 else a.1
 let c:=hx2 b.toNat b a.2
 hx3 c.1.toNat c.1 c.2
def hexR (m x:Int) (ng tr:Bool):Nat × Bool:=
 let r:=hxR (hxL m x tr).1 (hxL m x tr).2
 ((hxB ng (hxM r) (hxE r)).toNat,hxO r)
set_option maxHeartbeats 8000000 in
theorem hex_spec {w:World} (i0:w.cell? ⟨11,0,none⟩=some (.int .u64 52)) (i1:w.cell? ⟨11,1,none⟩=some (.int .u64 11)) (i2:w.cell? ⟨11,2,none⟩=some (.int .i64 (-1023)))
  {ca cb:Array Value} {ta tb:TypeId} (h11:w.heap[11]?=some (.cells ca ta (0,0))) (h9:w.heap[9]?=some (.cells cb tb (0,0)))
  (s:ByteArray) (m x:Int) (ng tr:Bool) (hm:0≤m∧m≤18446744073709551615) :
  Calls Tryz.prog 174 #[.string s,.pointer (some ⟨11,0,none⟩),.int .u64 m,.int .i64 x,.bool ng,.bool tr] w (Quiet w (fpair (hexR m x ng tr))):=by
 obtain ⟨R,hR⟩:∃ R,hexR m x ng tr=R:=⟨_,rfl⟩
 rw [hR]
 have HR:=Lib.hid hR
 have HM:=Lib.hid hm
 have HEQ:Hid (∀ n,(binOp .eql 232 (.pointer (some ⟨11,0,none⟩)) (.pointer (some ⟨9,0,none⟩))).run Tryz.prog (w.drewN n)=.ok (.bool false) (w.drewN n)):=Lib.hid (fun n=>by
  obtain ⟨j,hj⟩:∃ j,Tryz.prog.info? 234=some j:=Option.isSome_iff_exists.1 (by kernel_rfl)
  have hsz:(Tryz.prog.info? 234).map (fun j=>decide (j.size≠0))=some true:=by kernel_rfl
  rw [hj] at hsz
  injection hsz with hsz
  exact run_eql_ptr_other (w.drewN n) Tryz.underlying232 hj (of_decide_eq_true hsz) (by decide) h11 h9)
 clear h11 h9
 obtain ⟨A,hA⟩:∃ A,hx1 54 m (wrap64 (x+52))=A:=⟨_,rfl⟩
 have HA:=Lib.hid hA
 obtain ⟨b,hb⟩:∃ b,(if tr=true then bits .or .u64 A.1 1 else A.1)=b:=⟨_,rfl⟩
 have HB:=Lib.hid hb
 obtain ⟨C,hC⟩:∃ C,hx2 b.toNat b A.2=C:=⟨_,rfl⟩
 have HC:=Lib.hid hC
 obtain ⟨D,hD⟩:∃ D,hx3 C.1.toNat C.1 C.2=D:=⟨_,rfl⟩
 have HD:=Lib.hid hD
 have hLD:hxL m x tr=D:=by unfold hxL;dsimp only;rw [hA,hb,hC,hD]
 have hR2:((hxB ng (hxM (hxR D.1 D.2)) (hxE (hxR D.1 D.2))).toNat,hxO (hxR D.1 D.2))=R:=by rw [←hR];unfold hexR;dsimp only;rw [hLD]
 have HR2:=Lib.hid hR2
 clear hR hA hb hC hD hLD hR2 HR hm
 go_enter Tryz.func174,Tryz.ntmps174
 go_wp2_with fail
 go_quiet (fail)
 have W0:Hid (∃ n,w.drewN nq=w.drewN n):=Lib.hid ⟨_,rfl⟩
 have e0:(w.drewN nq).cell? ⟨11,0,none⟩=some (.int .u64 52):=i0
 have e1:(w.drewN nq).cell? ⟨11,1,none⟩=some (.int .u64 11):=i1
 have e2:(w.drewN nq).cell? ⟨11,2,none⟩=some (.int .i64 (-1023)):=i2
 revert W0 e0 e1 e2
 generalize w.drewN nq=w1
 intro W0 i0' i1' i2'
 clear i0 i1 i2
 go_upto_block 0 with fail
 go_cut [2,3] from 42 to 57 (fun v2 v3 wx=>v2=.int .u64 A.1∧v3=.int .i64 A.2∧(0≤A.1∧A.1≤18446744073709551615)∧wx=w1)
 case first=>
  clear i1' i2'
  go_wp2_with fail
  go_loopg [2,3] 54 (fun mq v2 v3 wr=>∃ n y:Int,v2=.int .u64 n∧v3=.int .i64 y∧0≤n∧n≤18446744073709551615∧(n=0∨18014398509481984≤n*2 ^ mq)∧hx1 mq n y=A∧wr=w1)
  case atStart=>exact ⟨m,wrap64 (x+52),rfl,rfl,HM.out.1,HM.out.2,by have:=HM.out;omega,HA.out,rfl⟩
  case round=>
   obtain ⟨n,y,rfl,rfl,h1,h2,h3,h4,rfl⟩:=hrel
   have HN:=Lib.hid (And.intro h1 h2)
   obtain ⟨q,hq⟩:∃ q,n/18014398509481984=q:=⟨_,rfl⟩
   by_cases hn:n=0
   ·have HE:Hid (A=(n,y)):=Lib.hid (by rw [←h4];exact hx1_stop (fun h=>h.1 hn))
    subst hn
    clear h1 h2 h3 h4 hq
    go_wp2
    go_meet
    rw [HE.out]
    exact ⟨rfl,rfl,HN.out,rfl⟩
   ·by_cases hq0:q=0
    ·cases gk with
     | zero=>omega
     | succ k=>
      have W:IntKind.u64.wrap (n*2)=n*2:=IntWalk.u64_in _ (by omega)
      have HE:Hid (hx1 k (n*2) (wrap64 (y-1))=A):=Lib.hid (by rw [←h4,hx1_succ,if_pos ⟨hn,hq.trans hq0⟩,W])
      have H3:Hid (18014398509481984≤n*2*2 ^ k):=Lib.hid (by
       rcases h3 with h3 | h3
       ·exact absurd h3 hn
       ·rw [Int.pow_succ] at h3
        rw [Int.mul_assoc,Int.mul_comm 2]
        exact h3)
      have HQ:=Lib.hid (And.intro hq hq0)
      have hn0:¬n=0:=hn
      subst hq0
      clear h1 h2 h3 h4
      go_wp2
      go_roundg k
      case measure=>omega
      case rel=>exact ⟨n*2,wrap64 (y-1),rfl,rfl,by have:=HN.out;omega,by have:=HN.out;have:=HQ.out;omega,.inr H3.out,HE.out,rfl⟩
    ·have HE:Hid (A=(n,y)):=Lib.hid (by rw [←h4];exact hx1_stop (fun h=>hq0 (hq.symm.trans h.2)))
     have hq0b:(q==0)=false:=beq_eq_false_iff_ne.2 hq0
     clear h1 h2 h3 h4
     go_wp2
     go_meet
     rw [HE.out]
     exact ⟨rfl,rfl,HN.out,rfl⟩
 case rest=>
  obtain ⟨rfl,rfl,hA,rfl⟩:=hcut
  obtain ⟨a1,a2⟩:=A
  replace hA:0≤a1∧a1≤18446744073709551615:=hA
  replace HB:Hid ((if tr=true then bits .or .u64 a1 1 else a1)=b):=HB
  replace HC:Hid (hx2 b.toNat b a2=C):=HC
  go_upto_if 58 with fail
  go_cut [2] from 58 to 60 (fun v2 wx=>v2=.int .u64 b∧wx=wc)
  case first=>
   clear i0' i1' i2'
   cases tr with
   | true=>
    go_wp2
    go_meet
    exact ⟨by rw [←HB.out];rfl,rfl⟩
   | false=>
    go_wp2
    go_meet
    exact ⟨by rw [←HB.out];rfl,rfl⟩
  case rest=>
   obtain ⟨rfl,rfl⟩:=hcut
   have hb:0≤b∧b≤18446744073709551615:=by
    rw [←HB.out]
    split
    ·exact or64_in _ _
    ·exact hA
   have HBB:=Lib.hid hb
   clear hb hA
   go_upto_block 2 with fail
   go_cut [2,3] from 61 to 76 (fun v2 v3 wx=>v2=.int .u64 C.1∧v3=.int .i64 C.2∧(0≤C.1∧C.1≤18446744073709551615)∧wx=wc)
   case first=>
    clear i1' i2'
    go_wp2_with fail
    go_loopg [2,3] b.toNat (fun mq v2 v3 wr=>∃ n y:Int,v2=.int .u64 n∧v3=.int .i64 y∧0≤n∧n≤18446744073709551615∧n≤(mq:Int)∧hx2 mq n y=C∧wr=wc)
    case atStart=>exact ⟨b,a2,rfl,rfl,HBB.out.1,HBB.out.2,by have:=HBB.out;omega,HC.out,rfl⟩
    case round=>
     obtain ⟨n,y,rfl,rfl,h1,h2,h3,h4,rfl⟩:=hrel
     have HN:=Lib.hid (And.intro h1 (And.intro h2 h3))
     obtain ⟨q,hq⟩:∃ q,n/36028797018963968=q:=⟨_,rfl⟩
     by_cases hq0:q=0
     ·have HE:Hid (C=(n,y)):=Lib.hid (by rw [←h4];exact hx2_stop (hq.trans hq0))
      subst hq0
      clear h1 h2 h3 h4
      go_wp2
      go_meet
      rw [HE.out]
      exact ⟨rfl,rfl,⟨HN.out.1,HN.out.2.1⟩,rfl⟩
     ·cases gk with
      | zero=>omega
      | succ k=>
       have HE:Hid (hx2 k (stk n) (wrap64 (y+1))=C):=Lib.hid (by rw [←h4,hx2_succ,if_pos (fun h=>hq0 (hq.symm.trans h))])
       have hs:=stk_lt (m:=n) ⟨h1,h2⟩
       have HS:=Lib.hid (And.intro hs (show 2≤n by omega))
       have hq0b:(q==0)=false:=beq_eq_false_iff_ne.2 hq0
       clear h1 h2 h3 h4 hs
       go_wp2
       go_roundg k
       case measure=>omega
       case rel=>exact ⟨stk n,wrap64 (y+1),rfl,rfl,HS.out.1.1,by have:=HS.out;have:=HN.out;omega,by have:=HS.out.1.2.1 HS.out.2;have:=HN.out;omega,HE.out,rfl⟩
   case rest=>
    obtain ⟨rfl,rfl,hC,rfl⟩:=hcut
    obtain ⟨c1,c2⟩:=C
    replace hC:0≤c1∧c1≤18446744073709551615:=hC
    replace HD:Hid (hx3 c1.toNat c1 c2=D):=HD
    have HCC:=Lib.hid hC
    clear hC
    go_upto_block 4 with fail
    go_cut [2,3] from 77 to 91 (fun v2 v3 wx=>v2=.int .u64 D.1∧v3=.int .i64 D.2∧wx=wc)
    case first=>
     clear i0' i1' i2'
     go_wp2_with fail
     go_loopg [2,3] c1.toNat (fun mq v2 v3 wr=>∃ n y:Int,v2=.int .u64 n∧v3=.int .i64 y∧0≤n∧n≤18446744073709551615∧n≤(mq:Int)∧hx3 mq n y=D∧wr=wc)
     case atStart=>exact ⟨c1,c2,rfl,rfl,HCC.out.1,HCC.out.2,by have:=HCC.out;omega,HD.out,rfl⟩
     case round=>
      obtain ⟨n,y,rfl,rfl,h1,h2,h3,h4,rfl⟩:=hrel
      have HN:=Lib.hid (And.intro h1 (And.intro h2 h3))
      by_cases g1:1<n
      ·by_cases g2:y < -1024
       ·cases gk with
        | zero=>omega
        | succ k=>
         have HE:Hid (hx3 k (stk n) (wrap64 (y+1))=D):=Lib.hid (by rw [←h4,hx3_succ,if_pos ⟨g1,g2⟩])
         have hs:=stk_lt (m:=n) ⟨h1,h2⟩
         have HS:=Lib.hid (And.intro hs (show 2≤n by omega))
         clear h1 h2 h3 h4 hs
         go_wp2
         go_roundg k
         case measure=>omega
         case rel=>exact ⟨stk n,wrap64 (y+1),rfl,rfl,HS.out.1.1,by have:=HS.out;have:=HN.out;omega,by have:=HS.out.1.2.1 HS.out.2;have:=HN.out;omega,HE.out,rfl⟩
       ·have HE:Hid (D=(n,y)):=Lib.hid (by rw [←h4];exact hx3_stop (fun h=>g2 h.2))
        clear h1 h2 h3 h4
        go_wp2
        go_meet
        rw [HE.out]
        exact ⟨rfl,rfl,rfl⟩
      ·have HE:Hid (D=(n,y)):=Lib.hid (by rw [←h4];exact hx3_stop (fun h=>g1 h.1))
       clear h1 h2 h3 h4
       go_wp2
       go_meet
       rw [HE.out]
       exact ⟨rfl,rfl,rfl⟩
    case rest=>
     obtain ⟨rfl,rfl,rfl⟩:=hcut
     obtain ⟨m3,x3⟩:=D
     replace HR2:Hid (((hxB ng (hxM (hxR m3 x3)) (hxE (hxR m3 x3))).toNat,hxO (hxR m3 x3))=R):=HR2
     clear HD HC HB HA
     obtain ⟨E,hE⟩:∃ E,hxR m3 x3=E:=⟨_,rfl⟩
     rw [hE] at HR2
     obtain ⟨qq,hqq⟩:∃ q,bits .or .u64 (bits .and .u64 m3 3) (bits .and .u64 (m3/4) 1)=q:=⟨_,rfl⟩
     have hE2:(if qq=3 then
       (if IntKind.u64.wrap (m3/4+1)=9007199254740992 then (IntKind.u64.wrap (m3/4+1)/2,wrap64 (wrap64 (x3+2)+1)) else (IntKind.u64.wrap (m3/4+1),wrap64 (x3+2)))
      else (m3/4,wrap64 (x3+2)))=E:=by rw [←hE,←hqq];rfl
     have HE:=Lib.hid hE2
     clear hE hE2
     go_upto_if 103 with fail
     go_cut [2,3] from 103 to 117 (fun v2 v3 wx=>v2=.int .u64 E.1∧v3=.int .i64 E.2∧wx=wc)
     case first=>
      clear i1' i2'
      by_cases g1:qq=3
      ·obtain ⟨mm,hmm⟩:∃ q,IntKind.u64.wrap (m3/4+1)=q:=⟨_,rfl⟩
       by_cases g2:mm=9007199254740992
       ·have HE2:Hid (E=(mm/2,wrap64 (wrap64 (x3+2)+1))):=Lib.hid (by rw [←HE.out,if_pos g1,hmm,if_pos g2])
        subst g1
        obtain ⟨e1,e2⟩:=E
        have h1:e1=mm/2:=congrArg Prod.fst HE2.out
        have h2:e2=wrap64 (wrap64 (x3+2)+1):=congrArg Prod.snd HE2.out
        have H1:=Lib.hid h1
        have H2:=Lib.hid h2
        clear HE HE2 h1 h2
        subst g2
        go_wp2
        go_meet
        exact ⟨by rw [H1.out];rfl,by rw [H2.out],rfl⟩
       ·have HE2:Hid (E=(mm,wrap64 (x3+2))):=Lib.hid (by rw [←HE.out,if_pos g1,hmm,if_neg g2])
        subst g1
        have g2b:(mm==9007199254740992)=false:=beq_eq_false_iff_ne.2 g2
        go_wp2
        go_meet
        rw [HE2.out]
        exact ⟨rfl,rfl,rfl⟩
      ·have HE2:Hid (E=(m3/4,wrap64 (x3+2))):=Lib.hid (by rw [←HE.out,if_neg g1])
       have g1b:(qq==3)=false:=beq_eq_false_iff_ne.2 g1
       go_wp2
       go_meet
       rw [HE2.out]
       exact ⟨rfl,rfl,rfl⟩
     case rest=>
      obtain ⟨rfl,rfl,rfl⟩:=hcut
      obtain ⟨e1,e2⟩:=E
      obtain ⟨X,hX⟩:∃ X,hxX (e1,e2)=X:=⟨_,rfl⟩
      obtain ⟨O,hO⟩:∃ O,hxO (e1,e2)=O:=⟨_,rfl⟩
      obtain ⟨M,hM⟩:∃ X,hxM (e1,e2)=X:=⟨_,rfl⟩
      obtain ⟨E2,hE2⟩:∃ X,hxE (e1,e2)=X:=⟨_,rfl⟩
      rw [hM,hE2,hO] at HR2
      have HX:=Lib.hid (show (if e1/4503599627370496=0 then -1023 else e2)=X from hX)
      have HO:=Lib.hid (show decide (1023<X)=O by rw [←hX];exact hO)
      have HM2:=Lib.hid (show (if O=true then 4503599627370496 else e1)=M by rw [←hO];exact hM)
      have HE3:=Lib.hid (show (if O=true then 1024 else X)=E2 by rw [←hO,←hX];exact hE2)
      clear hX hO hM hE2 HE hqq
      go_upto_if 124 with fail
      go_cut [3] from 124 to 128 (fun v3 wx=>v3=.int .i64 X∧wx=wc)
      case first=>
       clear i1'
       obtain ⟨q,hq⟩:∃ q,e1/4503599627370496=q:=⟨_,rfl⟩
       by_cases g:q=0
       ·have H1:Hid (X=-1023):=Lib.hid (by rw [←HX.out,hq,if_pos g])
        subst g
        go_wp2
        go_meet
        exact ⟨by rw [H1.out],rfl⟩
       ·have H1:Hid (X=e2):=Lib.hid (by rw [←HX.out,hq,if_neg g])
        have gb:(q==0)=false:=beq_eq_false_iff_ne.2 g
        go_wp2
        go_meet
        exact ⟨by rw [H1.out],rfl⟩
      case rest=>
       obtain ⟨rfl,rfl⟩:=hcut
       go_upto_if 131 with fail
       go_cut [2,3,17] from 131 to 139 (fun v2 v3 v17 wx=>v2=.int .u64 M∧v3=.int .i64 E2∧v17=errR O∧wx=wc)
       case first=>
        clear i1' i2'
        by_cases g:1023<X
        ·have H1:Hid (O=true):=Lib.hid (by rw [←HO.out];exact decide_eq_true g)
         have H2:Hid (M=4503599627370496):=Lib.hid (by rw [←HM2.out,H1.out];exact if_pos rfl)
         have H3:Hid (E2=1024):=Lib.hid (by rw [←HE3.out,H1.out];exact if_pos rfl)
         go_wp2
         go_meet
         rw [H1.out,H2.out,H3.out]
         exact ⟨rfl,rfl,rfl,rfl⟩
        ·have H1:Hid (O=false):=Lib.hid (by rw [←HO.out];exact decide_eq_false g)
         have H2:Hid (M=e1):=Lib.hid (by rw [←HM2.out,H1.out];exact if_neg (fun h=>by cases h))
         have H3:Hid (E2=X):=Lib.hid (by rw [←HE3.out,H1.out];exact if_neg (fun h=>by cases h))
         go_wp2
         go_meet
         rw [H1.out,H2.out,H3.out]
         exact ⟨rfl,rfl,rfl,rfl⟩
       case rest=>
        obtain ⟨rfl,rfl,rfl,rfl⟩:=hcut
        obtain ⟨V,hV⟩:∃ V,bits .or .u64 (bits .and .u64 M 4503599627370495) (IntKind.u64.wrap (IntKind.u64.wrap (bits .and .i64 (wrap64 (E2+1023)) 2047)*4503599627370496))=V:=⟨_,rfl⟩
        have HB2:Hid (hxB ng M E2=hS ng V):=Lib.hid (by rw [←hV];rfl)
        rw [HB2.out] at HR2
        go_wp2_with fail
        go_quiet (fail)
        have hf:=run_frombits
        have heq:∀ n,(binOp .eql 232 (.pointer (some ⟨11,0,none⟩)) (.pointer (some ⟨9,0,none⟩))).run Tryz.prog (wc.drewN n)=.ok (.bool false) (wc.drewN n):=by
         obtain ⟨n0,hn0⟩:=W0.out
         intro n
         rw [hn0,World.drewN_drewN]
         exact HEQ.out _
        cases ng with
        | true=>
         go_wp2_with fail
         go_quiet (fail)
         go_wp2_with fail
         refine bodyPost_ret (results_tmp2 rfl _ _ _) rfl ?_
         rw [←HR2.out]
         obtain ⟨n0,hn0⟩:=W0.out
         cases O with
         | true=>exact ⟨rfl,by rw [hn0];exact ⟨_,by simp only [World.drewN_drewN];rfl⟩⟩
         | false=>exact ⟨rfl,by rw [hn0];exact ⟨_,by simp only [World.drewN_drewN];rfl⟩⟩
        | false=>
         go_wp2_with fail
         refine bodyPost_ret (results_tmp2 rfl _ _ _) rfl ?_
         rw [←HR2.out]
         obtain ⟨n0,hn0⟩:=W0.out
         cases O with
         | true=>exact ⟨rfl,by rw [hn0];exact ⟨_,by simp only [World.drewN_drewN];rfl⟩⟩
         | false=>exact ⟨rfl,by rw [hn0];exact ⟨_,by simp only [World.drewN_drewN];rfl⟩⟩
end Go.Proofs.YtkfggfjdplnkpaaGreatDoor
end
section
namespace Go.Proofs.YtkfggfjdplnkpaaGreatDoor
open Go Go.RowKit
def nn (b:Nat):Prop:=b % 9223372036854775808≤9218868437227405312
theorem infRung_d:Ieee.double.infRung=9218868437227405312:=by decide
theorem signW_d:Ieee.double.signWeight=9223372036854775808:=by decide
theorem nn_word (neg:Bool) {r:Nat} (h:r≤9218868437227405312):nn (Ieee.double.word neg r):=by
 unfold nn Ieee.Format.word
 rw [signW_d]
 split <;> omega
theorem nn_write {d:Ieee.Datum} (h:d.isNaN=false):nn (Ieee.double.write d):=by
 cases d with
 | number neg mag place=>
  show nn (Ieee.double.nearest neg mag place)
  unfold Ieee.Format.nearest
  dsimp only
  split
  ·exact nn_word _ (Nat.zero_le _)
  ·exact nn_word _ (by rw [←infRung_d];exact Nat.min_le_right ..)
 | infinity neg=>exact nn_word _ (by rw [infRung_d];exact Nat.le_refl _)
 | nan neg f=>cases h
theorem nn_read {b:Nat} (h:nn b):(Ieee.double.read b).isNaN=false:=by
 unfold Ieee.Format.read
 unfold nn at h
 rw [signW_d]
 dsimp only
 split
 ·rfl
 ·split
  ·rfl
  ·split
   ·rfl
   ·next h1 h2 h3=>
    rw [infRung_d] at h2 h3
    omega
def nzN:Ieee.Datum→Bool
 | .number _ n _=>n != 0
 | _=>false
theorem product_nz {d e:Ieee.Datum} (hd:d.isNaN=false) (he:nzN e=true):∃ p,d.product e=some p∧p.isNaN=false:=by
 cases e with
 | number t n j=>
  have hn:n≠0:=by unfold nzN at he;exact bne_iff_ne.1 he
  cases d with
  | number s m i=>exact ⟨_,rfl,rfl⟩
  | infinity s=>exact ⟨.infinity (s ^^ t),if_neg hn,rfl⟩
  | nan s f=>cases hd
 | infinity t=>cases he
 | nan t f=>cases he
theorem quotient_nz {k:Nat} {d e:Ieee.Datum} (hd:d.isNaN=false) (he:nzN e=true):∃ p,d.quotient k e=some p∧p.isNaN=false:=by
 cases e with
 | number t n j=>
  have hn:n≠0:=by unfold nzN at he;exact bne_iff_ne.1 he
  cases d with
  | number s m i=>exact ⟨_,if_neg hn,rfl⟩
  | infinity s=>exact ⟨_,rfl,rfl⟩
  | nan s f=>cases hd
 | infinity t=>cases he
 | nan t f=>cases he
def mulF (a b:Nat):Nat:=(Go.floatBits .mul .f64 a b).getD 0
def divF (a b:Nat):Nat:=(Go.floatBits .quo .f64 a b).getD 0
theorem mulF_ok {a b:Nat} (ha:nn a) (hb:nzN (Ieee.double.read b)=true):Go.floatBits .mul .f64 a b=some (mulF a b)∧nn (mulF a b):=by
 obtain ⟨p,h1,h2⟩:=product_nz (nn_read ha) hb
 have e:Go.floatBits .mul .f64 a b=some (Ieee.double.write p):=by
  show ((Ieee.double.read a).product (Ieee.double.read b)).map Ieee.double.write=_
  rw [h1];rfl
 have e2:mulF a b=Ieee.double.write p:=by unfold mulF;rw [e];rfl
 rw [e2]
 exact ⟨e,nn_write h2⟩
theorem divF_ok {a b:Nat} (ha:nn a) (hb:nzN (Ieee.double.read b)=true):Go.floatBits .quo .f64 a b=some (divF a b)∧nn (divF a b):=by
 obtain ⟨p,h1,h2⟩:=quotient_nz (k:=Ieee.double.fractionBits+2) (nn_read ha) hb
 have e:Go.floatBits .quo .f64 a b=some (Ieee.double.write p):=by
  show ((Ieee.double.read a).quotient (Ieee.double.fractionBits+2) (Ieee.double.read b)).map Ieee.double.write=_
  rw [h1];rfl
 have e2:divF a b=Ieee.double.write p:=by unfold divF;rw [e];rfl
 rw [e2]
 exact ⟨e,nn_write h2⟩
theorem nn_int (n:Int):nn (floatOfInt .f64 n):=nn_write (d:=.number (n<0) n.natAbs 0) rfl
theorem nn_neg {b:Nat} (h:nn b):nn (Op.negFloat .f64 b):=by
 have e:Op.negFloat .f64 b % 9223372036854775808=b % 9223372036854775808:=by
  show (b ^^^ 2 ^ 63) % 2 ^ 63=b % 2 ^ 63
  rw [Nat.xor_mod_two_pow,Nat.mod_self,Nat.xor_zero]
 unfold nn
 rw [e]
 exact h
def p10L:List Nat:=[4607182418800017408,4621819117588971520,4636737291354636288,4652007308841189376,4666723172467343360,4681608360884174848,4696837146684686336,4711630319722168320,4726483295884279808,4741671816366391296,4756540486875873280,4771362005757984768,4786511204640096256,4801453603149578240,4816244402031689728,4831355200913801216,4846369599423283200,4861130398305394688,4876203697187506176,4891288408196988160,4906019910204099648,4921056587992461136,4936209963552724370]
def p10 (i:Nat):Nat:=p10L.getD i 0
theorem p10_nz (i:Nat) (h:i<23):nzN (Ieee.double.read (p10 i))=true:=by
 have:∀ i:Fin 23,nzN (Ieee.double.read (p10 i.val))=true:=by decide
 exact this ⟨i,h⟩
structure ETab (w:World) (B:Nat):Prop where
 m:w.cell? ⟨11,0,none⟩=some (.int .u64 52)
 pow:∃ pb po cap,pb<B∧23≤cap∧w.cell? ⟨14,0,none⟩=some (.slice (some ⟨pb,po,none⟩) 23 cap)∧∀ i,i<23→w.cell? ⟨pb,po+i,none⟩=some (.float .f64 (p10 i))
 low:25<B
theorem ETab.keep {w w':World} {B:Nat} (h:ETab w B) (hl:∀ k,k<B→w'.heap[k]?=w.heap[k]?):ETab w' B:=by
 have hc:∀ b o,b<B→w'.cell? ⟨b,o,none⟩=w.cell? ⟨b,o,none⟩:=fun b o hb=>World.cell?_of_block (hl b hb)
 have h25:=h.low
 obtain ⟨pb,po,cap,h1,h2,h3,h4⟩:=h.pow
 exact ⟨(hc _ _ (by omega)).trans h.m,⟨pb,po,cap,h1,h2,(hc _ _ (by omega)).trans h3,fun i hi=>(hc _ _ h1).trans (h4 i hi)⟩,h.low⟩
def exNeg (ng:Bool) (f:Nat):Nat:=if ng=true then Op.negFloat .f64 f else f
def exBig (f:Nat):Bool:=(FloatKind.f64.format.order f 4831355200913801216==some .gt)||(FloatKind.f64.format.order f 14054727237768577024==some .lt)
def exMul (f:Nat) (x:Int):Option Nat:=if exBig f=true then none else some (mulF f (p10 x.toNat))
def exactR (m x:Int) (ng:Bool):Option Nat:=
 if m/4503599627370496≠0 then none
 else if x=0 then some (exNeg ng (floatOfInt .f64 m))
 else if 0<x∧x≤37 then
  (if 22<x then exMul (mulF (exNeg ng (floatOfInt .f64 m)) (p10 (x-22).toNat)) 22 else exMul (exNeg ng (floatOfInt .f64 m)) x)
 else if x<0∧-22≤x then some (divF (exNeg ng (floatOfInt .f64 m)) (p10 (-x).toNat))
 else none
theorem exNeg_true (f:Nat):exNeg true f=Op.negFloat .f64 f:=if_pos rfl
theorem exNeg_false (f:Nat):exNeg false f=f:=if_neg (fun h=>by cases h)
theorem run_neg (f:Nat) (w:World):Sem.run Tryz.prog (Op.unary .neg (.float .f64 f)) w=.ok (.float .f64 (Op.negFloat .f64 f)) w:=rfl
theorem nn_exNeg (ng:Bool) (m:Int):nn (exNeg ng (floatOfInt .f64 m)):=by
 unfold exNeg
 split
 ·exact nn_neg (nn_int m)
 ·exact nn_int m
def ExPost (w:World):Option Nat→Ending→World→Prop
 | none,e,w'=>∃ f,e=.returned (.tuple #[.float .f64 f,.bool false])∧w'=w
 | some f,e,w'=>e=.returned (.tuple #[.float .f64 f,.bool true])∧w'=w
set_option maxHeartbeats 8000000 in
theorem exact_spec {w:World} {B:Nat} (hE:ETab w B) (m x:Int) (ng:Bool) (hm:0≤m∧m≤18446744073709551615) (hx:-300000≤x∧x≤300000) :
  Calls Tryz.prog 183 #[.int .u64 m,.int .i64 x,.bool ng] w (ExPost w (exactR m x ng)):=by
 obtain ⟨R,hR⟩:∃ R,exactR m x ng=R:=⟨_,rfl⟩
 rw [hR]
 have HR:=Lib.hid hR
 have cm:=hE.m
 have HE:=Lib.hid hE
 clear hR hE
 obtain ⟨q,hq⟩:∃ q,m/4503599627370496=q:=⟨_,rfl⟩
 go_enter Tryz.func183,Tryz.ntmps183
 by_cases h0:q=0
 ·have hq0:m/4503599627370496=0:=hq.trans h0
  have HR2:Hid ((if x=0 then some (exNeg ng (floatOfInt .f64 m))
   else if 0<x∧x≤37 then
    (if 22<x then exMul (mulF (exNeg ng (floatOfInt .f64 m)) (p10 (x-22).toNat)) 22 else exMul (exNeg ng (floatOfInt .f64 m)) x)
   else if x<0∧-22≤x then some (divF (exNeg ng (floatOfInt .f64 m)) (p10 (-x).toNat))
   else none)=R):=Lib.hid (by rw [←HR.out];unfold exactR;exact (if_neg (fun h=>h hq0)).symm)
  have HN:=Lib.hid (nn_exNeg ng m)
  obtain ⟨g0,hg0⟩:∃ g,floatOfInt .f64 m=g:=⟨_,rfl⟩
  rw [hg0] at HN HR2
  have hneg:=run_neg
  obtain ⟨f,hf⟩:∃ f,exNeg ng g0=f:=⟨_,rfl⟩
  rw [hf] at HN HR2
  have HF:=Lib.hid hf
  clear hf hq h0 HR
  go_upto_if 15 with fail
  go_cut [6] from 15 to 17 (fun v6 wx=>v6=.float .f64 f∧wx=w)
  case first=>
   cases ng with
   | true=>
    go_wp2
    go_meet
    exact ⟨by rw [←HF.out,exNeg_true],rfl⟩
   | false=>
    go_wp2
    go_meet
    exact ⟨by rw [←HF.out,exNeg_false],rfl⟩
  case rest=>
   obtain ⟨rfl,rfl⟩:=hcut
   clear cm hq0 hneg hg0
   by_cases x0:x=0
   ·have HR3:Hid (R=some f):=Lib.hid (by have:=HR2.out;rw [if_pos x0] at this;exact this.symm)
    clear HR2
    subst x0
    go_wp2
    refine bodyPost_ret (results_tmp2 rfl _ _ _) rfl ?_
    rw [HR3.out]
    exact ⟨rfl,rfl⟩
   ·obtain ⟨pb,po,cap,h1,h2,h3,h4⟩:=HE.out.pow
    have h2i:(23:Int)≤(cap:Int):=by omega
    have HPW:=Lib.hid h4
    by_cases x1:0<x
    ·by_cases x2:x≤37
     ·have HR3:Hid ((if 22<x then exMul (mulF f (p10 (x-22).toNat)) 22 else exMul f x)=R):=Lib.hid (by have:=HR2.out;rw [if_neg x0,if_pos ⟨x1,x2⟩] at this;exact this)
      clear HR2 h4
      obtain ⟨x',f3,hx',hf3⟩:∃ (x':Nat) (f3:Nat),(x':Int)=(if 22<x then 22 else x)∧f3=(if 22<x then mulF f (p10 (x-22).toNat) else f):=⟨(if 22<x then 22 else x).toNat,_,by split <;> omega,rfl⟩
      have hx22:1≤x'∧x'≤22:=by
       have:=hx'
       split at this <;> omega
      have hnn:nn f3:=by
       rw [hf3]
       split
       ·exact (mulF_ok HN.out (p10_nz _ (by omega))).2
       ·exact HN.out
      have HR4:Hid (exMul f3 (x':Int)=R):=Lib.hid (by
       rw [←HR3.out,hx',hf3]
       by_cases h:22<x
       ·rw [if_pos h,if_pos h,if_pos h]
       ·rw [if_neg h,if_neg h,if_neg h])
      have HX:=Lib.hid (And.intro hx' hf3)
      clear HR3 hx' hf3
      go_upto_if 30 with fail
      rw [show (x==0)=false from beq_eq_false_iff_ne.2 x0]
      go_cut [1,6] from 30 to 37 (fun v1 v6 wx=>v1=.int .i64 (x':Int)∧v6=.float .f64 f3∧wx=wc)
      case first=>
       by_cases x3:22<x
       ·obtain ⟨i,hi⟩:∃ i:Nat,x-22=(i:Int):=⟨(x-22).toNat,by omega⟩
        have hii:(x-22).toNat=i:=by omega
        have HX2:Hid ((x':Int)=22∧f3=mulF f (p10 i)):=Lib.hid (by
         have h:=HX.out
         rw [if_pos x3,if_pos x3,hii] at h
         exact h)
        obtain ⟨hm1,hm2⟩:=mulF_ok HN.out (p10_nz i (by omega))
        have k1:=HPW.out i (by omega)
        obtain ⟨c,hc⟩:∃ c,p10 i=c:=⟨_,rfl⟩
        rw [hc] at k1 hm1 HX2
        obtain ⟨f2,hf2⟩:∃ f2,mulF f c=f2:=⟨_,rfl⟩
        rw [hf2] at hm1 HX2
        have hmul:∀ W:World,(binOp .mul 33 (.float .f64 f) (.float .f64 c)).run Tryz.prog W=.ok (.float .f64 f2) W:=fun W=>run_float_arith W .mul 33 .f64 f c f2 hm1
        have WX:IntKind.i64.wrap (x-22)=(i:Int):=by rw [hi];exact IntWalk.i64_in _ (by omega)
        have b1:(i:Int)<23:=by omega
        clear hx22 hi hii hm1 hm2 hc hf2
        go_wp2
        go_meet
        exact ⟨by rw [HX2.out.1],by rw [HX2.out.2],rfl⟩
       ·have HX2:Hid ((x':Int)=x∧f3=f):=Lib.hid (by
         have h:=HX.out
         rw [if_neg x3,if_neg x3] at h
         exact h)
        clear hx22
        go_wp2
        go_meet
        exact ⟨by rw [HX2.out.1],by rw [HX2.out.2],rfl⟩
      case rest=>
       obtain ⟨rfl,rfl,rfl⟩:=hcut
       obtain ⟨hm1,hm2⟩:=mulF_ok hnn (p10_nz x' (by omega))
       have k1:=HPW.out x' (by omega)
       obtain ⟨c,hc⟩:∃ c,p10 x'=c:=⟨_,rfl⟩
       obtain ⟨f2,hf2⟩:∃ f2,mulF f3 (p10 x')=f2:=⟨_,rfl⟩
       have hR5:=HR4.out
       unfold exMul at hR5
       rw [Int.toNat_natCast,hf2] at hR5
       rw [hf2,hc] at hm1
       rw [hc] at k1
       obtain ⟨c1,hc1⟩:∃ b,(FloatKind.f64.format.order f3 4831355200913801216==some .gt)=b:=⟨_,rfl⟩
       obtain ⟨c2,hc2⟩:∃ b,(FloatKind.f64.format.order f3 14054727237768577024==some .lt)=b:=⟨_,rfl⟩
       unfold exBig at hR5
       rw [hc1,hc2] at hR5
       have HR5:=Lib.hid hR5
       have hmul:∀ W:World,(binOp .mul 33 (.float .f64 f3) (.float .f64 c)).run Tryz.prog W=.ok (.float .f64 f2) W:=fun W=>run_float_arith W .mul 33 .f64 f3 c f2 hm1
       have b1:(x':Int)<23:=by omega
       clear hx22 hm1 hm2 hc hf2 hR5 hnn
       cases c1 with
       | true=>
        have HR3:Hid (R=none):=Lib.hid HR5.out.symm
        go_wp2
        refine bodyPost_ret (results_tmp2 rfl _ _ _) rfl ?_
        rw [HR3.out]
        exact ⟨_,rfl,rfl⟩
       | false=>
        cases c2 with
        | true=>
         have HR3:Hid (R=none):=Lib.hid HR5.out.symm
         go_wp2
         refine bodyPost_ret (results_tmp2 rfl _ _ _) rfl ?_
         rw [HR3.out]
         exact ⟨_,rfl,rfl⟩
        | false=>
         have HR3:Hid (R=some f2):=Lib.hid HR5.out.symm
         go_wp2
         refine bodyPost_ret (results_tmp2 rfl _ _ _) rfl ?_
         rw [HR3.out]
         exact ⟨rfl,rfl⟩
     ·have HR3:Hid (R=none):=Lib.hid (by have:=HR2.out;rw [if_neg x0,if_neg (fun h=>x2 h.2),if_neg (fun h=>by omega)] at this;exact this.symm)
      clear HR2
      go_wp2
      refine bodyPost_ret (results_tmp2 rfl _ _ _) rfl ?_
      rw [HR3.out]
      exact ⟨_,rfl,rfl⟩
    ·by_cases x2:-22≤x
     ·have HR3:Hid (R=some (divF f (p10 (-x).toNat))):=Lib.hid (by have:=HR2.out;rw [if_neg x0,if_neg (fun h=>x1 h.1),if_pos ⟨by omega,x2⟩] at this;exact this.symm)
      obtain ⟨i,hi⟩:∃ i:Nat,-x=(i:Int):=⟨(-x).toNat,by omega⟩
      have hii:(-x).toNat=i:=by omega
      rw [hii] at HR3
      obtain ⟨hm1,hm2⟩:=divF_ok HN.out (p10_nz i (by omega))
      have k1:=HPW.out i (by omega)
      obtain ⟨c,hc⟩:∃ c,p10 i=c:=⟨_,rfl⟩
      obtain ⟨f2,hf2⟩:∃ f2,divF f c=f2:=⟨_,rfl⟩
      rw [hc] at k1 hm1 HR3
      rw [hf2] at hm1 HR3
      have hdiv:∀ W:World,(binOp .quo 33 (.float .f64 f) (.float .f64 c)).run Tryz.prog W=.ok (.float .f64 f2) W:=fun W=>run_float_arith W .quo 33 .f64 f c f2 hm1
      have WX:IntKind.i64.wrap (-x)=(i:Int):=by rw [hi];exact IntWalk.i64_in _ (by omega)
      have b1:(i:Int)<23:=by omega
      have x3:x<0:=by omega
      clear hi hii hm1 hm2 hc hf2 HR2 h4
      go_wp2
      refine bodyPost_ret (results_tmp2 rfl _ _ _) rfl ?_
      rw [HR3.out]
      exact ⟨rfl,rfl⟩
     ·have HR3:Hid (R=none):=Lib.hid (by have:=HR2.out;rw [if_neg x0,if_neg (fun h=>x1 h.1),if_neg (fun h=>x2 h.2)] at this;exact this.symm)
      have x3:x<0:=by omega
      clear HR2
      go_wp2
      refine bodyPost_ret (results_tmp2 rfl _ _ _) rfl ?_
      rw [HR3.out]
      exact ⟨_,rfl,rfl⟩
 ·have HR3:Hid (R=none):=Lib.hid (by rw [←HR.out];unfold exactR;rw [hq,if_pos h0])
  go_wp2
  refine bodyPost_ret (results_tmp2 rfl _ _ _) rfl ?_
  rw [HR3.out]
  exact ⟨_,rfl,rfl⟩
end Go.Proofs.YtkfggfjdplnkpaaGreatDoor
end
