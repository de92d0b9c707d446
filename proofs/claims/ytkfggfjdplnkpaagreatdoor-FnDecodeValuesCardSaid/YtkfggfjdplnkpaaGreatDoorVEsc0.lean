/- A part of the proof that the law FnDecodeValues returns true; its conditions are those of the last part. -/
import Derived.Test.YtkfggfjdplnkpaaGreatDoorVReset
import Derived.Test.YtkfggfjdplnkpaaGreatDoorVQuote
import Derived.Lib.ValidU
import Derived.Test.YtkfggfjdplnkpaaGreatDoorVWLast
set_option maxRecDepth 100000
set_option linter.unusedVariables false
set_option linter.unusedSimpArgs false
section
namespace Go.Proofs.YtkfggfjdplnkpaaGreatDoor
open Go.RowKit
theorem Rep.bv_lt {w:World} {B g:Nat} {T:List UInt8} {A:Ab} {C:Cn} (h:Rep w B g T A C) {b:Nat} (hb:C.bv.ownBlock=some b):B≤b∧b<w.heap.size∧∃ cur fr,w.heap[b]?=some (.cells cur 5 fr):=by
 rcases h.own.2 with ⟨hv,_⟩ | ⟨b',cap,cur,hv,hB,hh,_⟩
 ·rw [hv] at hb;simp [Value.ownBlock] at hb
 ·rw [hv] at hb
  obtain rfl:b'=b:=by simpa [Value.ownBlock] using hb
  exact ⟨hB,blk_lt hh,cur,_,hh⟩
theorem Rep.ev_lt {w:World} {B g:Nat} {T:List UInt8} {A:Ab} {C:Cn} (h:Rep w B g T A C) {b:Nat} (hb:C.ev.ownBlock=some b):B≤b∧b<w.heap.size∧∃ cur,w.heap[b]?=some (.cells cur 5 (0,0)):=by
 rcases h.esc.2 with ⟨hv,_⟩ | ⟨b',cap,cur,hv,hB,hh,_⟩
 ·rw [hv] at hb;simp [Value.ownBlock] at hb
 ·rw [hv] at hb
  obtain rfl:b'=b:=by simpa [Value.ownBlock] using hb
  exact ⟨hB,blk_lt hh,cur,hh⟩
theorem esc_step {w w':World} {B g:Nat} {T:List UInt8} {A:Ab} {C:Cn} (h:Rep w B g T A C) (bs:List UInt8) (v':Value)
  (hown:w'.ownsRow B 5 1 v' (A.esc.length+bs.length) (A.esc.map bcell++bs.map bcell)) (hgr:w.grownBy w' C.ev.ownBlock)
  (hst:∀ b,C.ev.ownBlock=some b→∀ j,j<A.esc.length→w'.cell? ⟨b,j,none⟩=w.cell? ⟨b,j,none⟩)
  (hv:v'.ownBlock=C.ev.ownBlock∨∃ b,v'.ownBlock=some b∧w.heap.size≤b) (hl:A.esc.length+bs.length≤1000) :
  Step w B g T A C (w'.setCell ⟨g,7,none⟩ v') { A with esc:=A.esc++bs } { C with ev:=v' }:=by
 have ho1:Only (fun k=>C.ev.ownBlock=some k) w w':=(Only.refl _ w).grown hgr fun k hk=>.inl hk
 have ho2:Only (fun k=>k=g) w' (w'.setCell ⟨g,7,none⟩ v'):=(Only.refl (fun k=>k=g) w').setCell (p:=⟨g,7,none⟩) (.inl rfl) _
 have ho:Only (fun k=>k=g∨C.ev.ownBlock=some k) w (w'.setCell ⟨g,7,none⟩ v'):=(ho1.mono fun k _ hk=>Or.inr (a:=k=g) hk).trans ho2 fun k hk=>.inl (.inl hk)
 have hg':w'.heap[g]?=some (.cells (dcells C A) 83 (0,0)):=blk_only h.blk ho1 h.gne'
 have hrn:∀ k,C.rb=some k→¬(k=g∨C.ev.ownBlock=some k):=by
  intro k hk hh
  obtain ⟨cs,hcs⟩:=(h.rbB k hk).2
  rcases hh with hh | hh
  ·exact blk_type hcs h.blk (by decide) hh
  ·obtain ⟨_,_,cur,hc⟩:=h.ev_lt hh
   exact blk_type hcs hc (by decide) rfl
 have hvg:∀ b,v'.ownBlock=some b→¬b=g:=by
  intro b hb e
  rcases hv with hv | ⟨b',hb',hle⟩
  ·exact h.gne' (by rw [←hv,hb,e])
  ·have:=h.lt
   rw [hb] at hb'
   injection hb' with e2
   omega
 refine ⟨⟨?_,h.base,ownsF_only h.own ho fun b hb e=>?_,?_,?_,?_,h.le01,h.le1,h.at_,h.dat,h.inT,h.le0,h.big,h.bigl,h.prt,?_,h.all,fun hc=>?_,fun k hk=>?_⟩,⟨ho.mono fun k _ hk=>?_,fun k hk=>?_⟩,fun b o hb hu=>?_⟩
 ·rw [blk_set hg' 7 v']
  simp [dcells]
 ·rcases e with e | e
  ·exact h.gne (by rw [hb,e])
  ·exact h.ne (by rw [hb,e])
 ·have:=ownsRow_only hown ho2 hvg
  simpa using this
 ·show v'.ownBlock≠none
  rcases hv with hv | ⟨b',hb',hle⟩
  ·rw [hv];exact h.escB
  ·rw [hb'];simp
 ·show C.bv.ownBlock≠v'.ownBlock
  rcases hv with hv | ⟨b',hb',hle⟩
  ·rw [hv];exact h.ne
  ·rw [hb']
   intro e
   have:=(h.bv_lt e).2.1
   omega
 ·show (A.esc++bs).length≤1000
  rw [List.length_append]
  exact hl
 ·obtain ⟨m,rb,a,cap,n,sizes,h1,h2,h3,h4,h5,h6,h7,h8,h9⟩:=h.src hc
  have hgr:=hrn rb (cn_rb h1)
  refine ⟨m,rb,a,cap,n,sizes,h1,h2,blk_only h3 ho hgr,h4,fun q hq=>?_,h6,h7,h8,h9⟩
  obtain ⟨ad,q1,q2,q3⟩:=h5 q hq
  have hblk:(ad.add q).block=ad.block:=by unfold Addr.add; split <;> rfl
  have h7:=h4 ad q1
  have hB:=h.base
  refine ⟨ad,q1,(World.cell?_of_block (w:=w) (ho.block (ad.add q).block (block_lt_of_cell q2) (fun e=>?_))).trans q2,q3⟩
  rcases e with e | e
  ·omega
  ·have:=(h.ev_lt e).1
   omega
 ·obtain ⟨q1,cs,hcs⟩:=h.rbB k hk
  exact ⟨q1,cs,blk_only hcs ho (hrn k hk)⟩
 ·rcases hk with hk | hk
  ·exact .inl hk
  ·exact .inr (.inr (.inl hk))
 ·rcases hk with hk | hk | hk | hk
  ·exact .inl (.inl hk)
  ·exact .inl (.inr (.inl hk))
  ·have hk:v'.ownBlock=some k:=hk
   rcases hv with hv | ⟨b',hb',hle⟩
   ·exact .inl (.inr (.inr (.inl (by rw [←hv];exact hk))))
   ·rw [hk] at hb'
    injection hb' with e2
    exact .inr (by omega)
  ·exact .inl (.inr (.inr (.inr hk)))
 ·obtain ⟨u1,u2,u3,u4⟩:=hu
  refine ⟨?_,u1,u2,u3,fun hb'=>?_⟩
  ·by_cases he:C.ev.ownBlock=some b
   ·rw [←hst b he o (u4 he)]
    exact World.cell?_of_block (w:=w') (ho2.block b (Nat.lt_of_lt_of_le hb ho1.size) u1)
   ·exact World.cell?_of_block (w:=w) (ho.block b hb fun e=>e.elim u1 he)
  ·have hb':v'.ownBlock=some b:=hb'
   show o<(A.esc++bs).length
   rw [List.length_append]
   rcases hv with hv | ⟨b',hb2,hle⟩
   ·have:=u4 (by rw [←hv];exact hb')
    omega
   ·rw [hb'] at hb2
    injection hb2 with e2
    omega
end Go.Proofs.YtkfggfjdplnkpaaGreatDoor
end
section
namespace Go.Proofs.YtkfggfjdplnkpaaGreatDoor
open Go.RowKit
def tok (S:Nat→Bool) (R:Nat→Nat):List UInt8→Nat × List UInt8
 | []=>(0,[])
 | [c]=>if c=92 then (1,[c]) else if S c.toNat then (1,[c]) else (0,[])
 | c::d::rest=>
  if c=92 then
   if R d.toNat=0 then (1+(tok S R (d::rest)).1,c::(tok S R (d::rest)).2)
   else (2+(tok S R rest).1,UInt8.ofNat (R d.toNat)::(tok S R rest).2)
  else if S c.toNat then (1+(tok S R (d::rest)).1,c::(tok S R (d::rest)).2) else (0,[])
section
variable {S:Nat→Bool} {R:Nat→Nat} {T:List UInt8} {j:Nat} {c:UInt8}
theorem drop_get (h:T[j]?=some c):T.drop j=c::T.drop (j+1):=by
 obtain ⟨hl,he⟩:=List.getElem?_eq_some_iff.1 h
 rw [List.drop_eq_getElem_cons hl,he]
theorem tok_end (h:T.length≤j):tok S R (T.drop j)=(0,[]):=by rw [List.drop_eq_nil_of_le h];rfl
theorem tok_stop (h:T[j]?=some c) (h1:c≠92) (h2:S c.toNat=false):tok S R (T.drop j)=(0,[]):=by
 rw [drop_get h]
 cases T.drop (j+1) with
 | nil=>simp [tok,h1,h2]
 | cons d r=>simp [tok,h1,h2]
theorem tok_on (h:T[j]?=some c) (h1:c≠92) (h2:S c.toNat=true):tok S R (T.drop j)=(1+(tok S R (T.drop (j+1))).1,c::(tok S R (T.drop (j+1))).2):=by
 rw [drop_get h]
 cases T.drop (j+1) with
 | nil=>simp [tok,h1,h2]
 | cons d r=>simp [tok,h1,h2]
theorem tok_last (h:T[j]?=some 92) (h1:T.length≤j+1):tok S R (T.drop j)=(1,[92]):=by
 rw [drop_get h,List.drop_eq_nil_of_le h1]
 simp [tok]
theorem tok_raw {d:UInt8} (h:T[j]?=some 92) (h1:T[j+1]?=some d) (h2:R d.toNat=0):tok S R (T.drop j)=(1+(tok S R (T.drop (j+1))).1,92::(tok S R (T.drop (j+1))).2):=by
 rw [drop_get h,drop_get h1]
 simp [tok,h2]
theorem tok_esc {d:UInt8} (h:T[j]?=some 92) (h1:T[j+1]?=some d) (h2:R d.toNat≠0):tok S R (T.drop j)=(2+(tok S R (T.drop (j+2))).1,UInt8.ofNat (R d.toNat)::(tok S R (T.drop (j+2))).2):=by
 rw [drop_get h,drop_get h1]
 simp [tok,h2]
theorem tok_le (S:Nat→Bool) (R:Nat→Nat):∀ l:List UInt8,(tok S R l).1≤l.length∧(tok S R l).2.length≤(tok S R l).1
 | []=>by simp [tok]
 | [c]=>by unfold tok;repeat' split;all_goals simp
 | c::d::rest=>by
  have h1:=tok_le S R (d::rest)
  have h2:=tok_le S R rest
  simp only [List.length_cons] at h1
  unfold tok
  repeat' split
  all_goals (simp only [List.length_cons,List.length_nil];omega)
end
structure TokAt (S:Nat→Bool) (R:Nat→Nat) (T:List UInt8) (skip:Bool) (p su j:Nat) (E:List UInt8):Prop where
 psu:p≤su
 suj:su≤j
 num:(tok S R (T.drop p)).1=(j-p)+(tok S R (T.drop j)).1
 out:skip=false→(tok S R (T.drop p)).2=E++(T.drop su).take (j-su)++(tok S R (T.drop j)).2
 sk:skip=true→E=[]
 emp:E=[]→su=p
 len:E.length≤su-p
theorem take_snoc {T:List UInt8} {su j:Nat} {c:UInt8} (h:T[j]?=some c) (hs:su≤j):(T.drop su).take (j+1-su)=(T.drop su).take (j-su)++[c]:=by
 rw [show j+1-su=(j-su)+1 by omega,List.take_add_one,List.getElem?_drop,show su+(j-su)=j by omega,h]
 rfl
namespace TokAt
variable {S:Nat→Bool} {R:Nat→Nat} {T:List UInt8} {skip:Bool} {p su j:Nat} {E:List UInt8} {c:UInt8}
theorem start (S:Nat→Bool) (R:Nat→Nat) (T:List UInt8) (skip:Bool) (p:Nat):TokAt S R T skip p p p []:=
 ⟨Nat.le_refl _,Nat.le_refl _,by omega,fun _=>by simp,fun _=>rfl,fun _=>rfl,Nat.zero_le _⟩
theorem on (h:TokAt S R T skip p su j E) (hc:T[j]?=some c) (he:tok S R (T.drop j)=(1+(tok S R (T.drop (j+1))).1,c::(tok S R (T.drop (j+1))).2)):TokAt S R T skip p su (j+1) E:=by
 have h1:=h.psu
 have h2:=h.suj
 refine ⟨h1,by omega,by rw [h.num,he];dsimp only;omega,fun hs=>?_,h.sk,h.emp,h.len⟩
 rw [h.out hs,he,take_snoc hc h2]
 simp
theorem esc {d:UInt8} (h:TokAt S R T false p su j E) (hc:T[j]?=some 92) (hd:T[j+1]?=some d) (h0:R d.toNat≠0) :
  TokAt S R T false p (j+2) (j+2) (E++(T.drop su).take (j-su)++[UInt8.ofNat (R d.toNat)]):=by
 have h1:=h.psu
 have h2:=h.suj
 have h3:=h.len
 have hl:=(List.getElem?_eq_some_iff.1 hd).1
 refine ⟨by omega,Nat.le_refl _,by rw [h.num,tok_esc hc hd h0];dsimp only;omega,fun hs=>?_,fun hs=>(by cases hs),fun hs=>(by simp at hs),?_⟩
 ·rw [h.out hs,tok_esc hc hd h0]
  simp
 ·rw [List.length_append,List.length_append,List.length_take,List.length_drop,List.length_singleton]
  omega
theorem esc_skip {d:UInt8} (h:TokAt S R T true p su j E) (hc:T[j]?=some 92) (hd:T[j+1]?=some d) (h0:R d.toNat≠0):TokAt S R T true p su (j+2) E:=by
 have h1:=h.psu
 have h2:=h.suj
 exact ⟨h1,by omega,by rw [h.num,tok_esc hc hd h0];dsimp only;omega,fun hs=>(by cases hs),h.sk,h.emp,h.len⟩
theorem fin (h:TokAt S R T skip p su j E) (he:tok S R (T.drop j)=(0,[])):j=p+(tok S R (T.drop p)).1∧(skip=false→(tok S R (T.drop p)).2=E++(T.drop su).take (j-su)):=by
 have h1:=h.psu
 have h2:=h.suj
 refine ⟨by rw [h.num,he];dsimp only;omega,fun hs=>by rw [h.out hs,he];simp⟩
theorem last (h:TokAt S R T skip p su j E) (hc:T[j]?=some 92) (hl:T.length≤j+1):TokAt S R T skip p su (j+1) E:=
 h.on hc (by rw [tok_last hc hl,tok_end hl];rfl)
end TokAt
end Go.Proofs.YtkfggfjdplnkpaaGreatDoor
end
section
namespace Go.Proofs.YtkfggfjdplnkpaaGreatDoor
open Go.RowKit
def setK:Nat→Nat
 | 0=>5 | 1=>2 | 2=>6 | 3=>7 | _=>8
def revK:Nat→Nat→Nat
 | 0,c=>if c=32∨c=44 then c else 0
 | 4,c=>if c=92∨c=34 then c else if c=110 then 10 else if c=114 then 13 else if c=116 then 9 else 0
 | _,c=>if c=44∨c=61∨c=32 then c else 0
def tkN (k:Nat) (T:List UInt8) (p:Nat):Nat:=(tok (inSet (setK k)) (revK k) (T.drop p)).1
def tkS (k:Nat) (T:List UInt8) (p:Nat):List UInt8:=(tok (inSet (setK k)) (revK k) (T.drop p)).2
def tkR (k:Nat) (T:List UInt8) (p:Nat):List UInt8:=(T.drop p).take (tkN k T p)
def tkV (sk:Bool) (k:Nat) (T:List UInt8) (p:Nat):List UInt8:=if sk then tkR k T p else tkS k T p
structure PS where
 at_:Nat
 from_:Nat
 part:Nat
abbrev Flt:=Nat × Nat
def fltAt (T:List UInt8) (f p:Nat):Flt:=(1+lfs (T.take p),tailLen ((T.drop f).take (p-f))+1)
def fpart (n:Nat):Nat:=if n=5 then 5 else 4
def commaP (T:List UInt8) (s:PS):PS × Option Flt:=
 if T.getD s.at_ 0=44 then
  if s.at_+1<T.length∧whiteB (T.getD (s.at_+1) 0).toNat=false then ({ s with at_:=s.at_+1 },none)
  else ({ s with at_:=s.at_+1,part:=fpart s.part },some (fltAt T s.from_ (s.at_+1)))
 else (s,none)
inductive Res (α:Type) where
 | flt:Flt→Res α
 | non:Res α
 | got:α→Res α
def valid (l:List UInt8):Bool:=Lib.validD l
def nameP (sk:Bool) (T:List UInt8) (s:PS):PS × Res (List UInt8):=
 if s.part=0 then
  let v:=tkV sk 0 T s.at_
  let s1:PS:=⟨s.at_+tkN 0 T s.at_,s.at_,0⟩
  if valid v=true∧v≠[]∧v.head?≠some 35 then
   match commaP T s1 with
   | (s2,some f)=>(s2,.flt f)
   | (s2,none)=>({ s2 with part:=1 },.got v)
  else ({ s1 with part:=4 },.flt (fltAt T s.at_ s.at_))
 else (s,.non)
def tagP (sk:Bool) (T:List UInt8) (s:PS):PS × Res (List UInt8 × List UInt8):=
 if s.part=1 then
  if T.getD s.at_ 0=32 then ({ s with at_:=past 0 T s.at_,part:=2 },.non)
  else
   let k:=tkV sk 1 T s.at_
   let p1:=s.at_+tkN 1 T s.at_
   if valid k=true∧k≠[]∧T.getD p1 0=61 then
    let v:=tkV sk 2 T (p1+1)
    let p2:=p1+1+tkN 2 T (p1+1)
    if valid v=true∧v≠[] then
     if p2<T.length then
      match commaP T { s with at_:=p2 } with
      | (s2,some f)=>(s2,.flt f)
      | (s2,none)=>(s2,.got (k,v))
     else ({ s with at_:=p2,part:=2 },.got (k,v))
    else ({ s with at_:=p2,part:=4 },.flt (fltAt T s.from_ (p1+1)))
   else ({ s with at_:=p1,part:=4 },.flt (fltAt T s.from_ s.at_))
 else (s,.non)
def valP (sk:Bool) (T:List UInt8) (p:Nat):Nat × (Nat ⊕ (Nat × List UInt8)):=
 let c:=(T.getD p 0).toNat
 if p<T.length then
  if c=34 then
   let v:=tkV sk 4 T (p+1)
   let q:=p+1+tkN 4 T (p+1)
   if valid v=true then
    if q<T.length then (q+1,.inr (1,v)) else (q,.inl p)
   else (q,.inl (p+1))
  else if c=116∨c=84∨c=102∨c=70 then (past 9 T p,.inr (5,run (inSet 9) (T.drop p)))
  else if c=45∨48≤c∧c≤57∨c=46 then
   let r:=run (inSet 9) (T.drop p)
   let e:=(r.getLast?.getD 0).toNat
   (past 9 T p,.inr (if e=105 then (2,r.dropLast) else if e=117 then (3,r.dropLast) else (4,r)))
  else (p,.inl p)
 else (p,.inl p)
def behindP (T:List UInt8) (p:Nat):Option (Nat × Nat):=
 if p<T.length then
  let c:=(T.getD p 0).toNat
  if c=44 then some (p+1,2)
  else if whiteB c then
   let e:=eol T (past 0 T p)
   some (e.2.1,if e.1 then 5 else 3)
  else none
 else some (p,5)
def fieldP (sk:Bool) (T:List UInt8) (s:PS):PS × Res (List UInt8 × Nat × List UInt8):=
 if s.part=2 then
  let k:=tkV sk 3 T s.at_
  let p1:=s.at_+tkN 3 T s.at_
  if valid k=true∧k≠[] then
   if T.getD p1 0=61 then
    match valP sk T (p1+1) with
    | (q,.inl p)=>({ s with at_:=q,part:=4 },.flt (fltAt T s.from_ p))
    | (q,.inr (kd,v))=>
     match behindP T q with
     | none=>({ s with at_:=q,part:=4 },.flt (fltAt T s.from_ q))
     | some (q2,part)=>(⟨q2,s.from_,part⟩,.got (k,kd,v))
   else ({ s with at_:=p1,part:=4 },.flt (fltAt T s.from_ p1))
  else ({ s with at_:=p1,part:=4 },.flt (fltAt T s.from_ s.at_))
 else (s,.non)
def timeP (T:List UInt8) (s:PS):PS × Res (List UInt8):=
 if s.part=3 then
  let v:=run (inSet 10) (T.drop s.at_)
  let p1:=past 10 T s.at_
  let ans:Res (List UInt8):=if v=[] then .non else .got v
  if p1<T.length then
   if whiteB (T.getD p1 0).toNat then
    let e:=eol T (past 0 T p1)
    if e.1 then (⟨e.2.1,s.from_,5⟩,ans)
    else (⟨past 12 T (past 0 T p1),s.from_,if v=[] then 5 else 4⟩,.flt (fltAt T s.from_ (past 0 T p1)))
   else (⟨past 12 T p1,s.from_,if v=[] then 5 else 4⟩,.flt (fltAt T s.from_ s.at_))
  else (⟨p1,s.from_,5⟩,ans)
 else (s,.non)
def lineP (T:List UInt8) (s:PS):PS:=⟨lineNext T s.at_,lineNext T s.at_,5⟩
def tagsP (T:List UInt8):Nat→PS→PS × Option Flt
 | 0,s=>(s,none)
 | k+1,s=>match tagP true T s with
  | (s',.flt f)=>(s',some f)
  | (s',.non)=>(s',none)
  | (s',.got _)=>tagsP T k s'
def fieldsP (T:List UInt8):Nat→PS→PS × Option Flt
 | 0,s=>(s,none)
 | k+1,s=>match fieldP true T s with
  | (s',.flt f)=>(s',some f)
  | (s',.non)=>(s',none)
  | (s',.got _)=>fieldsP T k s'
def Res.opt {α:Type}:Res α→Option Flt
 | .flt f=>some f
 | _=>none
def conP (T:List UInt8) (s:PS):PS × Option Flt:=
 if s.part=0 then ((nameP true T s).1,(nameP true T s).2.opt)
 else if s.part=1 then tagsP T (T.length+2) s
 else if s.part=2 then fieldsP T (T.length+2) s
 else if s.part=3 then ((timeP T s).1,(timeP T s).2.opt)
 else if s.part=4 then (lineP T s,none)
 else (s,none)
def advN (T:List UInt8) (k:Nat):Nat→PS→PS × Option Flt
 | 0,s=>(s,none)
 | n+1,s=>if s.part<k then
   match conP T s with
   | (s',some f)=>(s',some f)
   | (s',none)=>advN T k n s'
  else (s,none)
def advP (T:List UInt8) (k:Nat) (s:PS):PS × Option Flt:=advN T k 6 s
def nextP (T:List UInt8) (s:PS):PS × Bool:=
 let s1:=match advP T 5 s with
  | (s',some _)=>(advP T 5 s').1
  | (s',none)=>s'
 let p:=(skipN T (T.length+1) s1.at_ 0).1
 (⟨p,s1.from_,0⟩,decide (p<T.length))
end Go.Proofs.YtkfggfjdplnkpaaGreatDoor
end
section
namespace Go.Proofs.YtkfggfjdplnkpaaGreatDoor
open Go.RowKit
def MakesEsc (f:FuncId) (k:Nat) (s:ByteArray):Prop:=∀ w,Calls Tryz.prog f #[] w fun e w'=>∃ a,e=.returned (.pointer (some ⟨a,0,none⟩))∧w.heap.size≤a∧EscBlk w' a (revK k)∧w'.cell? ⟨a,512,none⟩=some (.string s)∧Below w.heap.size w w'
theorem good_list (l:List UInt8) (h:∀ b∈l,goodB b):∀ i,(hi:i<(⟨l.toArray⟩:ByteArray).size)→goodB ((⟨l.toArray⟩:ByteArray)[i]'hi):=by
 intro i hi
 have hi':i<l.length:=by simpa [ByteArray.size] using hi
 have:(⟨l.toArray⟩:ByteArray)[i]'hi=l[i]:=rfl
 rw [this]
 exact h _ (List.getElem_mem hi')
theorem esc_49:MakesEsc 49 0 ⟨#[32,44]⟩:=by
 intro w
 have hcon:=@newEscaper_spec w ⟨#[32,44]⟩ (good_list [32,44] (by intro b hb; unfold goodB; simp at hb; rcases hb with h | h <;> simp [h])) (by decide)
 go_enter Tryz.func49,Tryz.ntmps49
 go_wp2_with (go_at_call 109;refine hcon.mono ?_;rintro e w2 ⟨rfl,h1,h2,h3⟩)
 go_ret
 exact ⟨_,rfl,Nat.le_refl _,h1.congrR (by decide),h2,h3⟩
theorem esc_58:MakesEsc 58 1 ⟨#[44,61,32]⟩:=by
 intro w
 have hcon:=@newEscaper_spec w ⟨#[44,61,32]⟩ (good_list [44,61,32] (by intro b hb; unfold goodB; simp at hb; rcases hb with h | h | h <;> simp [h])) (by decide)
 go_enter Tryz.func58,Tryz.ntmps58
 go_wp2_with (go_at_call 109;refine hcon.mono ?_;rintro e w2 ⟨rfl,h1,h2,h3⟩)
 go_ret
 exact ⟨_,rfl,Nat.le_refl _,h1.congrR (by decide),h2,h3⟩
theorem esc_61:MakesEsc 61 2 ⟨#[44,32,61]⟩:=by
 intro w
 have hcon:=@newEscaper_spec w ⟨#[44,32,61]⟩ (good_list [44,32,61] (by intro b hb; unfold goodB; simp at hb; rcases hb with h | h | h <;> simp [h])) (by decide)
 go_enter Tryz.func61,Tryz.ntmps61
 go_wp2_with (go_at_call 109;refine hcon.mono ?_;rintro e w2 ⟨rfl,h1,h2,h3⟩)
 go_ret
 exact ⟨_,rfl,Nat.le_refl _,h1.congrR (by decide),h2,h3⟩
theorem esc_64:MakesEsc 64 3 ⟨#[44,61,32]⟩:=by
 intro w
 have hcon:=esc_58 w
 go_enter Tryz.func64,Tryz.ntmps64
 go_wp2_with (go_at_call 58;refine hcon.mono ?_;rintro e w2 ⟨a,rfl,h0,h1,h2,h3⟩)
 go_ret
 exact ⟨_,rfl,h0,h1.congrR (by decide),h2,h3⟩
theorem esc_66:MakesEsc 66 4 ⟨#[92,34,10,13,9]⟩:=by
 intro w
 have hcon:=@newEscaper_spec w ⟨#[92,34,10,13,9]⟩ (good_list [92,34,10,13,9] (by intro b hb; unfold goodB; simp at hb; rcases hb with h | h | h | h | h <;> simp [h])) (by decide)
 go_enter Tryz.func66,Tryz.ntmps66
 go_wp2_with (go_at_call 109;refine hcon.mono ?_;rintro e w2 ⟨rfl,h1,h2,h3⟩)
 go_ret
 exact ⟨_,rfl,Nat.le_refl _,h1.congrR (by decide),h2,h3⟩
end Go.Proofs.YtkfggfjdplnkpaaGreatDoor
end
section
namespace Go.Proofs.YtkfggfjdplnkpaaGreatDoor
open Go Go.RowKit
def zc (s:ByteArray) (c:UInt8):Nat→Nat→Nat
 | 0,_=>0
 | m+1,i=>if h:i<s.size then (if s[i]'h=c then zc s c m (i+1)+1 else zc s c m (i+1)) else 0
theorem ext_at (s:ByteArray) (i:Nat) (h:i<s.size):(s.extract i (i+1)).toList=[s[i]'h]:=by
 have h2:i<s.data.toList.length:=by simpa using h
 rw [ByteArray.toList_eq,ByteArray.data_extract,Array.toList_extract,List.extract_eq_take_drop,Nat.add_sub_cancel_left,List.drop_eq_getElem_cons h2]
 rfl
theorem zc_succ (s:ByteArray) (c:UInt8) (m i:Nat) (h:i<s.size):zc s c (m+1) i=if s[i]'h=c then zc s c m (i+1)+1 else zc s c m (i+1):=by
 show (if h:i<s.size then (if s[i]'h=c then zc s c m (i+1)+1 else zc s c m (i+1)) else 0)=_
 rw [dif_pos h]
theorem zc_end {s:ByteArray} {c:UInt8} {m i:Nat} (h:¬i<s.size):zc s c m i=0:=by
 cases m with
 | zero=>rfl
 | succ m=>
  show (if h:i<s.size then (if s[i]'h=c then zc s c m (i+1)+1 else zc s c m (i+1)) else 0)=_
  rw [dif_neg h]
set_option maxHeartbeats 4000000 in
theorem zc_spec {s:ByteArray} (hs:s.size≤100000) (c:UInt8) (w:World):Calls Tryz.prog 111 #[.string s,.string ⟨#[c]⟩] w fun e w'=>e=.returned (.int .i64 (zc s c s.size 0:Int))∧w'=w:=by
 obtain ⟨R,hR⟩:∃ R,zc s c s.size 0=R:=⟨_,rfl⟩
 rw [hR]
 have HR:=Lib.hid hR
 clear hR
 have h1:(⟨#[c]⟩:ByteArray).size=1:=rfl
 go_enter Tryz.func111,Tryz.ntmps111
 go_wp2_with fail
 go_loopg [5,6] s.size (fun mq v5 v6 wr=>∃ (i n:Nat) (x:Int),v5=.int .i64 (n:Int)∧v6=.int .i64 x∧x=(i:Int)∧s.size≤i+mq∧i≤s.size∧n≤i∧n+zc s c mq i=R∧wr=w)
 case atStart=>exact ⟨0,0,0,rfl,rfl,rfl,by omega,by omega,by omega,by rw [Nat.zero_add];exact HR.out,rfl⟩
 case round=>
  obtain ⟨i,n,x,rfl,rfl,hx,hm,hle,hni,hr,rfl⟩:=hrel
  by_cases hi:i<s.size
  ·cases gk with
   | zero=>omega
   | succ m=>
    have WX:IntKind.i64.wrap ((i:Int)+1)=(i:Int)+1:=IntWalk.i64_in _ (by omega)
    have WN:IntKind.i64.wrap ((n:Int)+1)=(n:Int)+1:=IntWalk.i64_in _ (by omega)
    have p1:((i:Int)+1≤(s.size:Int))=True:=eq_true (by omega)
    rw [zc_succ s c m i hi] at hr
    have he:=ext_at s i hi
    obtain ⟨b,hb⟩:∃ b,s[i]'hi=b:=⟨_,rfl⟩
    rw [hb] at hr he
    obtain ⟨E,hE⟩:∃ E,(s.extract i (i+1)).toList=E:=⟨_,rfl⟩
    have hE2:E=[b]:=hE.symm.trans he
    have HM:=Lib.hid (And.intro hm (And.intro hle hni))
    have HX:=Lib.hid hx
    clear hm hle hni hb he
    by_cases hc:b=c
    ·have hq:(E==[c])=true:=by rw [hE2,hc];exact beq_self_eq_true _
     have HR2:Hid (n+1+zc s c m (i+1)=R):=Lib.hid (by rw [if_pos hc] at hr;omega)
     have HI:=Lib.hid hi
     clear hr hE2 hi hc
     go_wp2_with fail
     go_roundg m
     case measure=>omega
     case rel=>exact ⟨i+1,n+1,(i:Int)+1,rfl,rfl,rfl,by have:=HM.out;omega,HI.out,by have:=HM.out;omega,HR2.out,rfl⟩
    ·have hq:(E==[c])=false:=by rw [hE2];exact beq_eq_false_iff_ne.2 (fun e=>hc (by injection e))
     have HR2:Hid (n+zc s c m (i+1)=R):=Lib.hid (by rw [if_neg hc] at hr;exact hr)
     have HI:=Lib.hid hi
     clear hr hE2 hi hc
     go_wp2_with fail
     go_roundg m
     case measure=>omega
     case rel=>exact ⟨i+1,n,(i:Int)+1,rfl,rfl,rfl,by have:=HM.out;omega,HI.out,by have:=HM.out;omega,HR2.out,rfl⟩
  ·have HR2:Hid (n=R):=Lib.hid (by rw [zc_end hi] at hr;omega)
   have p1:((i:Int)+1≤(s.size:Int))=False:=eq_false (by omega)
   have WX:IntKind.i64.wrap ((i:Int)+1)=(i:Int)+1:=IntWalk.i64_in _ (by omega)
   clear hm hle hni hr hi
   go_wp2_with fail
   go_ret
   exact ⟨by rw [←HR2.out];rfl,rfl⟩
def eslN (s:ByteArray):Nat:=s.size+zc s 44 s.size 0+zc s 61 s.size 0+zc s 32 s.size 0
def escT:ByteArray:=⟨#[44,61,32]⟩
def escC (i:Nat):UInt8:=if i=0 then 44 else if i=1 then 61 else 32
def eslP (s:ByteArray):Nat→Nat
 | 0=>s.size
 | i+1=>eslP s i+zc s (escC i) s.size 0
theorem zc_le (s:ByteArray) (c:UInt8):∀ m i,zc s c m i≤m
 | 0,_=>Nat.le_refl _
 | m+1,i=>by
  have:=zc_le s c m (i+1)
  by_cases h:i<s.size
  ·rw [zc_succ s c m i h]
   split <;> omega
  ·rw [zc_end h];omega
set_option maxHeartbeats 4000000 in
theorem esl_spec {s:ByteArray} (hs:s.size≤100000) {w:World} {a:Nat} (hc:w.cell? ⟨a,512,none⟩=some (.string escT)) :
  Calls Tryz.prog 62 #[.pointer (some ⟨a,0,none⟩),.string s] w fun e w'=>e=.returned (.int .i64 (eslN s:Int))∧w'=w:=by
 obtain ⟨R,hR⟩:∃ R,eslN s=R:=⟨_,rfl⟩
 rw [hR]
 have HR:=Lib.hid (show eslP s 3=R by rw [←hR];rfl)
 clear hR
 have h3:escT.size=3:=rfl
 have hsl:∀ i,i<3→escT.extract i (i+1)=⟨#[escC i]⟩:=fun i hi=>by
  match i,hi with
  | 0,_=>rfl
  | 1,_=>rfl
  | 2,_=>rfl
 have HSL:=Lib.hid hsl
 clear hsl
 go_enter Tryz.func62,Tryz.ntmps62
 go_wp2_with fail
 go_loopg [5,6] 3 (fun mq v5 v6 wr=>∃ (i n:Nat) (x:Int),v5=.int .i64 (n:Int)∧v6=.int .i64 x∧x=(i:Int)∧i+mq=3∧n=eslP s i∧n≤s.size*(i+1)∧wr=w)
 case atStart=>exact ⟨0,s.size,0,rfl,rfl,rfl,by omega,rfl,by omega,rfl⟩
 case round=>
  obtain ⟨i,n,x,rfl,rfl,hx,hm,hn,hnl,rfl⟩:=hrel
  by_cases hi:i<3
  ·cases gk with
   | zero=>omega
   | succ m=>
    have hz:=zc_le s (escC i) s.size 0
    obtain ⟨z,hzz⟩:∃ z,zc s (escC i) s.size 0=z:=⟨_,rfl⟩
    have HZ:=Lib.hid (zc_spec hs (escC i))
    have e2:=HSL.out i hi
    obtain ⟨u,hu⟩:∃ u,escT.extract i (i+1)=u:=⟨_,rfl⟩
    rw [hu] at e2
    rw [hzz] at hz HZ
    rw [←e2] at HZ
    have hnb:n≤300000:=Nat.le_trans hnl (by
     match i,hi with
     | 0,_=>omega
     | 1,_=>omega
     | 2,_=>omega)
    have WN:IntKind.i64.wrap ((n:Int)+(z:Int))=(n:Int)+(z:Int):=IntWalk.i64_in _ (by omega)
    have WX:IntKind.i64.wrap ((i:Int)+1)=(i:Int)+1:=IntWalk.i64_in _ (by omega)
    have p1:((i:Int)<3)=True:=eq_true (by omega)
    have p2:((i:Int)+1≤3)=True:=eq_true (by omega)
    have HH:=Lib.hid (And.intro hm (And.intro hn (And.intro hnl (And.intro hzz hz))))
    clear hm hn hnl hzz hz e2 hnb
    go_wp2_with fail
    refine (HZ.out _).mono ?_
    rintro ex w2 ⟨rfl,rfl⟩
    go_wp2_with fail
    go_roundg m
    case measure=>omega
    case rel=>
     obtain ⟨hm,hn,hnl,hzz,hz⟩:=HH.out
     refine ⟨i+1,n+z,(i:Int)+1,rfl,rfl,rfl,by omega,?_,?_,rfl⟩
     ·rw [hn,←hzz];rfl
     ·rw [Nat.mul_add s.size (i+1) 1];omega
  ·have hi3:i=3:=by omega
   have HR2:Hid (n=R):=Lib.hid (by rw [hn,hi3];exact HR.out)
   have p1:((i:Int)<3)=False:=eq_false (by omega)
   clear hm hn hnl hi3 hi
   go_wp2_with fail
   go_ret
   exact ⟨by rw [←HR2.out];rfl,rfl⟩
end Go.Proofs.YtkfggfjdplnkpaaGreatDoor
end
section
namespace Go.Proofs.YtkfggfjdplnkpaaGreatDoor
open Go.RowKit
variable {P:Program}
theorem app_ {ops:Array Oper} {oi:Oper} {N:Option Tmp} {a:Act} {w:World} {K:Act→World→Prop} {Q:Exit→Act→World→Prop} (hw:Region.wanted oi (yielded ops a.tmps)=true) (hN:oi.dst=N)
  (s x:Operand) (t:TypeId) (ho:oi.op=.call { callee:=.builtin .append,args:=#[s,x],argTypes:=#[t,t] })
  (base:Nat) (e:TypeId) (i:TypeInfo) (z:Value) (bytes:Nat) (ht:P.underlying t=some (.slice e)) (hi:P.info? e=some i) (hz:i.zero=some z)
  (hsize:i.size=1) (hby:i.bytes=bytes) (hzs:z.cells.size=1)
  (v:Value) (n:Nat) (xs:List Value) (hs:a.eval s=v) (hown:w.ownsRow base e 1 v n xs)
  (ad:Addr) (m c:Nat) (news:List Value) (hx:a.eval x=.slice (some ad) m c) (hl:news.length=m*1) (hnews:∀ j u,news[j]?=some u→w.cell? (ad.add j)=some u) (h1:∀ u∈news,u.oneCell'=true)
  (h63:n+m≤maxLen) (hbytes:(n+m)*bytes≤140737488355328) (hbase:base≤w.heap.size)
  (h:∀ v' w',w'.ownsRow base e 1 v' (n+m) (xs++news)→w.grownBy w' v.ownBlock→(∀ b,v.ownBlock=some b→∀ j,j<n→w'.cell? ⟨b,j,none⟩=w.cell? ⟨b,j,none⟩)→
   (v'.ownBlock=v.ownBlock∨∃ b,v'.ownBlock=some b∧w.heap.size≤b)→K (a.put N v') w'):if Region.wanted oi (yielded ops a.tmps)=true then Oper.wp P oi a w K Q else K (a.put N undef) w:=by
 rw [if_pos hw]
 subst hN
 obtain ⟨v',w',hr,h2,h3,h4,h5⟩:=run_append_stay (P:=P) w base t oi.type e i z bytes ht hi hz hsize hby hzs v n xs hown ad m c news hl hnews h1 h63 hbytes hbase
 unfold Oper.wp execOp
 simp only [ho,resolve,invoke,builtin,Sem.run_bind,Sem.run_pure,Result.andThen_ok,List.map_toArray,List.map_cons,List.map_nil,hs,hx,hr]
 exact h v' w' h2 h3 h4 h5
end Go.Proofs.YtkfggfjdplnkpaaGreatDoor
end
section
namespace Go.Proofs.YtkfggfjdplnkpaaGreatDoor
open Go.RowKit
theorem lfs_append (a b:List UInt8):lfs (a++b)=lfs a+lfs b:=List.countP_append
theorem lfs_take_add (T:List UInt8) (p n:Nat):lfs (T.take (p+n))=lfs (T.take p)+lfs ((T.drop p).take n):=by
 rw [←take_more T p n,lfs_append]
theorem lfs_step (T:List UInt8) (p:Nat):lfs (T.take (p+1))=lfs (T.take p)+if T.getD p 0=10 then 1 else 0:=by
 rw [lfs_take_add]
 congr 1
 by_cases h:p<T.length
 ·have e:T.getD p 0=T[p]:=by simp [List.getD_eq_getElem?_getD,List.getElem?_eq_getElem h]
  rw [e,List.drop_eq_getElem_cons h]
  by_cases hc:T[p]=10
  ·rw [if_pos hc];show lfs [T[p]]=1;rw [hc];rfl
  ·rw [if_neg hc];show lfs [T[p]]=0;unfold lfs;rw [List.countP_cons_of_neg (by simpa using hc)];rfl
 ·have e:T.getD p 0=0:=by rw [List.getD_eq_getElem?_getD,List.getElem?_eq_none (by omega)];rfl
  rw [e,if_neg (by decide),List.drop_eq_nil_of_le (by omega)]
  rfl
theorem lfs_step_ne {T:List UInt8} {p:Nat} (h:T.getD p 0≠10):lfs (T.take (p+1))=lfs (T.take p):=by rw [lfs_step,if_neg h,Nat.add_zero]
theorem lfs_step_eq {T:List UInt8} {p:Nat} (h:T.getD p 0=10):lfs (T.take (p+1))=lfs (T.take p)+1:=by rw [lfs_step,if_pos h]
theorem take_run (p:Nat→Bool) (l:List UInt8):l.take (run p l).length=run p l:=by
 unfold run
 induction l with
 | nil=>rfl
 | cons a l ih=>
  rw [List.takeWhile_cons]
  split
  ·simp [ih]
  ·rfl
theorem lfs_run (p:Nat→Bool) (h:p 10=false) (l:List UInt8):lfs (run p l)=0:=by
 unfold run lfs
 induction l with
 | nil=>rfl
 | cons a l ih=>
  rw [List.takeWhile_cons]
  split
  ·next ha=>
   rw [List.countP_cons_of_neg,ih]
   intro hc
   have:a=10:=by simpa using hc
   rw [this] at ha
   have:p 10=true:=ha
   rw [h] at this
   cases this
  ·rfl
theorem lfs_past (k:Nat) (h:inSet k 10=false) (T:List UInt8) (p:Nat):lfs (T.take (past k T p))=lfs (T.take p):=by
 unfold past
 rw [lfs_take_add,take_run,lfs_run _ h,Nat.add_zero]
theorem lfs_eol (T:List UInt8) (p:Nat):lfs (T.take (eol T p).2.1)=lfs (T.take p)+(eol T p).2.2:=by
 unfold eol
 split
 ·split
  ·next h=>exact lfs_step_eq h
  ·split
   ·next h10 h13=>
    have h1:lfs (T.take (p+1))=lfs (T.take p):=lfs_step_ne h10
    split
    ·split
     ·next h=>
      show lfs (T.take (p+2))=lfs (T.take p)+1
      rw [show p+2=(p+1)+1 by omega,lfs_step_eq h,h1]
     ·rfl
    ·exact h1
   ·rfl
 ·rfl
theorem lfs_skipOne (T:List UInt8) (p:Nat):lfs (T.take (skipOne T p).2.1)=lfs (T.take p)+(skipOne T p).2.2:=by
 have h0:=lfs_past 0 (by decide) T p
 unfold skipOne
 split
 ·split
  ·show lfs (T.take (eol T (past 11 T (past 0 T p))).2.1)=_+(eol T (past 11 T (past 0 T p))).2.2
   rw [lfs_eol,lfs_past 11 (by decide),h0]
  ·rfl
 ·split
  ·next h=>show lfs (T.take (past 0 T p+1))=_+1;rw [lfs_step_eq h,h0]
  ·split
   ·rw [lfs_eol,h0]
   ·exact h0
theorem lfs_skipN (T:List UInt8):∀ k p l,(skipN T k p l).2+lfs (T.take p)=l+lfs (T.take (skipN T k p l).1)
 | 0,p,l=>rfl
 | k+1,p,l=>by
  unfold skipN
  have h1:=lfs_skipOne T p
  split
  ·have:=lfs_skipN T k (skipOne T p).2.1 (l+(skipOne T p).2.2)
   omega
  ·show l+(skipOne T p).2.2+lfs (T.take p)=l+lfs (T.take (skipOne T p).2.1)
   omega
theorem skipN_fst (T:List UInt8):∀ k p l m,(skipN T k p l).1=(skipN T k p m).1
 | 0,p,l,m=>rfl
 | k+1,p,l,m=>by
  unfold skipN
  split
  ·exact skipN_fst T k _ _ _
  ·rfl
theorem skipN_le (T:List UInt8):∀ k p l,p≤T.length→p≤(skipN T k p l).1∧(skipN T k p l).1≤T.length
 | 0,p,l,h=>⟨Nat.le_refl _,h⟩
 | k+1,p,l,h=>by
  unfold skipN
  have h1:=skipOne_le T p h
  split
  ·have:=skipN_le T k (skipOne T p).2.1 (l+(skipOne T p).2.2) h1.2.1
   omega
  ·exact ⟨h1.1,h1.2.1⟩
theorem lfs_line (T:List UInt8) (p:Nat):lfs (T.take (lineNext T p))=lfs (T.take p)+lineOne T p:=by
 have h0:lfs (T.take (lineEnd T p))=lfs (T.take p):=by
  unfold lineEnd
  rw [lfs_take_add,take_run,lfs_run _ (by decide),Nat.add_zero]
 unfold lineNext lineOne
 split
 ·next h=>rw [lfs_step_eq h,h0]
 ·rw [h0];rfl
theorem lfs_tok (S:Nat→Bool) (R:Nat→Nat) (hs:S 10=false) (hr:R 10=0):∀ l:List UInt8,lfs (l.take (tok S R l).1)=0
 | []=>by simp [tok,lfs]
 | [c]=>by
  unfold tok
  split
  ·next h=>rw [h];rfl
  ·split
   ·next h1 h2=>
    have:c≠10:=fun e=>by rw [e] at h2;rw [show S (10:UInt8).toNat=S 10 from rfl,hs] at h2;cases h2
    simp [lfs,this]
   ·rfl
 | c::d::rest=>by
  have h1:=lfs_tok S R hs hr (d::rest)
  have h2:=lfs_tok S R hs hr rest
  unfold tok
  split
  ·next hc=>
   split
   ·show lfs ((c::d::rest).take (1+_))=0
    rw [Nat.add_comm,List.take_succ_cons]
    unfold lfs at h1 ⊢
    rw [List.countP_cons_of_neg (by rw [hc];decide),h1]
   ·next hd=>
    have:d≠10:=fun e=>hd (by rw [e];exact hr)
    show lfs ((c::d::rest).take (2+_))=0
    rw [Nat.add_comm,List.take_succ_cons,List.take_succ_cons]
    unfold lfs at h2 ⊢
    rw [List.countP_cons_of_neg (by rw [hc];decide),List.countP_cons_of_neg (by simpa using this),h2]
  ·next hc=>
   split
   ·next hS=>
    have:c≠10:=fun e=>by rw [e] at hS;rw [show S (10:UInt8).toNat=S 10 from rfl,hs] at hS;cases hS
    show lfs ((c::d::rest).take (1+_))=0
    rw [Nat.add_comm,List.take_succ_cons]
    unfold lfs at h1 ⊢
    rw [List.countP_cons_of_neg (by simpa using this),h1]
   ·rfl
structure Is (T:List UInt8) (A:Ab) (s:PS) (sk:Bool):Prop where
 at_:A.at_=s.at_
 from_:A.from_=s.from_
 part:A.part=s.part
 skip:A.skip=sk
 line:A.line=1+lfs (T.take A.at_)
 esc:A.esc.length+A.from_≤A.at_
theorem lfs_take_le (T:List UInt8) (p:Nat):lfs (T.take p)≤p:=Nat.le_trans (List.countP_le_length) (by rw [List.length_take];omega)
theorem errLine_is {T:List UInt8} {A:Ab} {off:Nat} (h:A.line=1+lfs (T.take A.at_)) (ho:A.from_+off≤A.at_):errLine T A off=((1+lfs (T.take (A.from_+off)):Nat):Int):=by
 unfold errLine
 have:=lfs_take_add T (A.from_+off) (A.at_-(A.from_+off))
 rw [show A.from_+off+(A.at_-(A.from_+off))=A.at_ by omega] at this
 rw [h,this]
 omega
def Flted (w:World) (B:Nat) (f:Flt) (ev:Value):Prop:=
 ∃ q q2,ev=.iface 121 (.pointer (some ⟨q,0,none⟩))∧ErrAt w q (f.1:Int) (f.2:Int) (.iface 167 (.pointer (some ⟨q2,0,none⟩)))∧Fre w B q2
theorem Fre.step {w w':World} {B g q:Nat} {T:List UInt8} {A:Ab} {C C':Cn} (h:Fre w B q) (hr:Rep w B g T A C) (hp:Pas g w C w' C'):Fre w' B q:=by
 obtain ⟨h1,cs,h2⟩:=h
 exact ⟨h1,cs,(hp.only.block q (blk_lt h2) (hr.not_own h2 (by decide))).trans h2⟩
theorem syn_flted {w w':World} {B g q2 off:Nat} {T:List UInt8} {A:Ab} {C:Cn} {e:Ending} (h:Rep w B g T A C) (hp:SynPost w B g T A C off (.iface 167 (.pointer (some ⟨q2,0,none⟩))) e w')
  (hl:A.line=1+lfs (T.take A.at_)) (ho:A.from_+off≤A.at_) (hq:Fre w B q2) :
  ∃ ev,e=.returned ev∧Flted w' B (fltAt T A.from_ (A.from_+off)) ev∧Step w B g T A C w' { A with part:=errPart A } C:=by
 obtain ⟨q,rfl,h1,h2,h3⟩:=hp
 refine ⟨_,rfl,⟨q,q2,rfl,?_,hq.step h h3.pas⟩,h3⟩
 rw [errLine_is hl ho] at h2
 have:errCol T A off=(((fltAt T A.from_ (A.from_+off)).2:Nat):Int):=by
  unfold errCol fltAt
  rw [Nat.add_sub_cancel_left]
  rfl
 rw [this] at h2
 exact h2
end Go.Proofs.YtkfggfjdplnkpaaGreatDoor
end
