/- A part of the proof that the law FnDecodeValues returns true; its conditions are those of the last part. -/
import Derived.Test.YtkfggfjdplnkpaaGreatDoorVRefill
import Derived.StillTailTactics
import Derived.Laws.CopyOwn
set_option maxRecDepth 100000
set_option linter.unusedVariables false
set_option linter.unusedSimpArgs false
section
namespace Go.Proofs.YtkfggfjdplnkpaaGreatDoor
open Go.RowKit
theorem own_cut {w:World} {B n k cap:Nat} {a:Option Addr} {xs:List Value} (h:w.ownsRow B 5 1 (.slice a n cap) n xs) (hk:k≤n):w.ownsRow B 5 1 (.slice a k cap) k (xs.take k):=by
 obtain ⟨h1,h2⟩:=h
 refine ⟨by rw [List.length_take];omega,?_⟩
 rcases h2 with ⟨h3,h4⟩ | ⟨g,cp,cur,hv,hg,hh,q1,q2,q3,q4⟩
 ·injection h3 with e1 e2 e3
  left
  rw [e1,e3,show k=0 by omega]
  exact ⟨rfl,rfl⟩
 ·injection hv with e1 e2 e3
  subst e1;subst e3
  refine .inr ⟨g,_,cur,rfl,hg,hh,by omega,q2,q3,?_⟩
  rw [←q4,List.take_take,Nat.mul_one,Nat.mul_one,Nat.min_eq_left hk]
theorem ownF_cut {w:World} {B n k cap:Nat} {q:Bool} {a:Option Addr} {xs:List Value} (h:OwnsF w B q (.slice a n cap) n xs) (hk:k≤n):OwnsF w B q (.slice a k cap) k (xs.take k):=by
 obtain ⟨h1,h2⟩:=h
 refine ⟨by rw [List.length_take];omega,?_⟩
 rcases h2 with ⟨h3,h4⟩ | ⟨g,cp,cur,hv,hg,hh,q1,q2,q3,q4⟩
 ·injection h3 with e1 e2 e3
  left
  rw [e1,e3,show k=0 by omega]
  exact ⟨rfl,rfl⟩
 ·injection hv with e1 e2 e3
  subst e1;subst e3
  refine .inr ⟨g,_,cur,rfl,hg,hh,by omega,q2,q3,?_⟩
  rw [←q4,List.take_take,Nat.mul_one,Nat.mul_one,Nat.min_eq_left hk]
theorem Rep.again {w w':World} {B g:Nat} {T:List UInt8} {A A':Ab} {C C':Cn} (h:Rep w B g T A C) (hg:w'.heap[g]?=some (.cells (dcells C' A') 83 (0,0)))
  (own':OwnsF w' B C'.bm C'.bv C'.bl C'.bx) (esc':w'.ownsRow B 5 1 C'.ev A'.esc.length (A'.esc.map bcell))
  (rd:C'.rd=C.rd) (cmp:C'.cmp=C.cmp) (bvb:C'.bv.ownBlock=C.bv.ownBlock) (evb:C'.ev.ownBlock=C.ev.ownBlock)
  (le01:C'.r0≤C'.r1) (le1:C'.r1≤C'.bl) (hat:A'.from_+C'.r1=A'.at_+C'.r0) (hdat:C'.bx.drop C'.r0=((T.drop A'.from_).take (C'.bl-C'.r0)).map bcell)
  (hk:A'.from_+(C'.bl-C'.r0)=A.from_+(C.bl-C.r0)) (le0:C'.r0≤A'.from_) (hbl:A'.line≤1000000000) (hp:A'.part≤5) (hel:A'.esc.length≤1000)
  (ho:Only (fun k=>k=g∨C.bv.ownBlock=some k) w w') (hform:(C.bv=.slice none 0 0→C'.bv=.slice none 0 0)∧(∀ b,C.bv=.slice (some b) C.bl 8192→C'.bv=.slice (some b) C'.bl 8192)) :
  Rep w' B g T A' C'∧Pas g w C w' C':=by
 have hrb:C'.rb=C.rb:=by simp [Cn.rb,rd]
 have hrn:∀ k,C.rb=some k→¬(k=g∨C.bv.ownBlock=some k):=by
  intro k hk hh
  obtain ⟨cs,hcs⟩:=(h.rbB k hk).2
  rcases hh with hh | hh
  ·exact blk_type hcs h.blk (by decide) hh
  ·rcases h.own.2 with ⟨hv,_⟩ | ⟨b,cap,cur,hv,_,hb,_⟩
   ·rw [hv] at hh;simp [Value.ownBlock] at hh
   ·rw [hv] at hh
    obtain rfl:b=k:=by simpa [Value.ownBlock] using hh
    exact blk_type hcs hb (by decide) rfl
 refine ⟨⟨hg,h.base,own',esc',by rw [evb];exact h.escB,by rw [bvb,evb];exact h.ne,le01,le1,hat,hdat,by rw [hk];exact h.inT,le0,h.big,hbl,hp,hel,fun hc=>by rw [hk];exact h.all (by rw [←cmp];exact hc),fun hc=>?_,fun k hk'=>?_⟩,⟨ho.mono (fun k _ hk=>?_),fun k hk=>?_⟩⟩
 ·obtain ⟨m,rb,a,cap,n,sizes,h1,h2,h3,h4,h5,h6,h7,h8,h9⟩:=h.src (by rw [←cmp];exact hc)
  rw [hk]
  have hgr:=hrn rb (cn_rb h1)
  refine ⟨m,rb,a,cap,n,sizes,rd.trans h1,h2,blk_only h3 ho hgr,h4,fun q hq=>?_,h6,h7,h8,?_⟩
  ·obtain ⟨ad,q1,q2,q3⟩:=h5 q hq
   have hblk:(ad.add q).block=ad.block:=by unfold Addr.add; split <;> rfl
   have h7:=h4 ad q1
   have hB:=h.base
   refine ⟨ad,q1,(World.cell?_of_block (w:=w) (ho.block (ad.add q).block (block_lt_of_cell q2) (fun e=>?_))).trans q2,q3⟩
   rcases e with e | e
   ·omega
   ·rcases h.own.2 with ⟨hv,_⟩ | ⟨b,cap,cur,hv,hb,_⟩
    ·rw [hv] at e;simp [Value.ownBlock] at e
    ·rw [hv] at e
     have:b=(ad.add q).block:=by simpa [Value.ownBlock] using e
     omega
  ·rcases h9 with h9 | ⟨b,h9⟩
   ·exact .inl (hform.1 h9)
   ·exact .inr ⟨b,hform.2 b h9⟩
 ·rw [hrb] at hk'
  obtain ⟨q1,cs,hcs⟩:=h.rbB k hk'
  exact ⟨q1,cs,blk_only hcs ho (hrn k hk')⟩
 ·rcases hk with hk | hk
  ·exact .inl hk
  ·exact .inr (.inl hk)
 ·rcases hk with hk | hk | hk | hk
  ·exact .inl (.inl hk)
  ·exact .inl (.inr (.inl (by rw [←bvb];exact hk)))
  ·exact .inl (.inr (.inr (.inl (by rw [←evb];exact hk))))
  ·exact .inl (.inr (.inr (.inr (by rw [←hrb];exact hk))))
theorem Rep.drop1 {w:World} {B g:Nat} {T:List UInt8} {A:Ab} {C:Cn} (h:Rep w B g T A C):C.bx.drop C.r1=((T.drop A.at_).take (C.bl-C.r1)).map bcell:=by
 have hat:=h.at_
 have h01:=h.le01
 have e1:C.bx.drop C.r1=(C.bx.drop C.r0).drop (C.r1-C.r0):=by rw [List.drop_drop];congr 1;omega
 rw [e1,h.dat,←List.map_drop,List.drop_take,List.drop_drop,show A.from_+(C.r1-C.r0)=A.at_ by omega,show C.bl-C.r0-(C.r1-C.r0)=C.bl-C.r1 by omega]
def ResetPost (w:World) (B g:Nat) (T:List UInt8) (A:Ab) (C:Cn) (e:Ending) (w':World):Prop:=
 e=.returned (.tuple #[])∧∃ C',Rep w' B g T { A with from_:=A.at_,esc:=[] } C'∧Pas g w C w' C'
theorem Rep.ev_form {w:World} {B g:Nat} {T:List UInt8} {A:Ab} {C:Cn} (h:Rep w B g T A C):∃ b cap,C.ev=.slice (some ⟨b,0,none⟩) A.esc.length cap∧A.esc.length≤cap∧cap≤maxLen:=by
 rcases h.esc.2 with ⟨hv,_⟩ | ⟨b,cap,cur,hv,_,hb,h1,h2,_⟩
 ·exact absurd (by rw [hv];rfl) h.escB
 ·exact ⟨b,cap,hv,h1,h2⟩
set_option maxHeartbeats 1000000 in
theorem reset_empty {w:World} {B g:Nat} {T:List UInt8} {A:Ab} {C:Cn} (h:Rep w B g T A C) (hz:C.r1=C.bl) :
  Calls Tryz.prog 46 #[.pointer (some ⟨g,0,none⟩)] w (ResetPost w B g T A C):=by
 obtain ⟨va,vc,hv,hvc,hvm⟩:=h.bv_slice
 obtain ⟨eb,ec,hev,hec,hem⟩:=h.ev_form
 have hbl:=h.bl_le
 have c1:=h.c1
 have c2:=h.c2
 have c3:=h.c3
 have c7:=h.c7
 rw [hv] at c1
 rw [hev] at c7
 rw [hz] at c3
 have f1:=h.fz 1
 have f2:=h.fz 2
 have f3:=h.fz 3
 have f7:=h.fz 7
 unfold maxLen at hvm hem
 have b1:(C.bl:Int)≤5000:=by omega
 have HH:=Lib.hid h
 have HV:=Lib.hid hv
 have HEV:=Lib.hid hev
 have HZ:=Lib.hid hz
 clear h hz hv hev hbl
 go_enter Tryz.func46,Tryz.ntmps46
 go_wp2
 go_quiet (fail)
 go_wp2
 go_end0
 refine ⟨rfl,{ C with bv:=.slice va 0 vc,bl:=0,bx:=[],r0:=0,r1:=0,ev:=.slice (some ⟨eb,0,none⟩) 0 ec },?_⟩
 have h:=HH.out
 have hev:=HEV.out
 have hv:=HV.out
 have hz:=HZ.out
 have hat:=h.at_
 have hin:=h.inT
 have h01:=h.le01
 have hl:=h.le0
 have hgn:=h.gne
 have ho:Only (fun k=>k=g∨C.bv.ownBlock=some k) w (((((w.drewN nq).setCell ⟨g,1,none⟩ (.slice va 0 vc)).setCell ⟨g,3,none⟩ (.int .i64 0)).setCell ⟨g,2,none⟩ (.int .i64 0)).setCell ⟨g,7,none⟩ (.slice (some ⟨eb,0,none⟩) 0 ec)):=
  (((((Only.refl (fun k=>k=g∨C.bv.ownBlock=some k) w).drewN nq).setCell (p:=⟨g,1,none⟩) (.inl (.inl rfl)) _).setCell (p:=⟨g,3,none⟩) (.inl (.inl rfl)) _).setCell (p:=⟨g,2,none⟩) (.inl (.inl rfl)) _).setCell (p:=⟨g,7,none⟩) (.inl (.inl rfl)) _
 have ho2:Only (fun k=>k=g) w (((((w.drewN nq).setCell ⟨g,1,none⟩ (.slice va 0 vc)).setCell ⟨g,3,none⟩ (.int .i64 0)).setCell ⟨g,2,none⟩ (.int .i64 0)).setCell ⟨g,7,none⟩ (.slice (some ⟨eb,0,none⟩) 0 ec)):=
  (((((Only.refl (fun k=>k=g) w).drewN nq).setCell (p:=⟨g,1,none⟩) (.inl rfl) _).setCell (p:=⟨g,3,none⟩) (.inl rfl) _).setCell (p:=⟨g,2,none⟩) (.inl rfl) _).setCell (p:=⟨g,7,none⟩) (.inl rfl) _
 have hown:=ownsF_only h.own ho2 (fun b hb e=>hgn (by rw [hb,e]))
 have hesc:=ownsRow_only h.esc ho2 (fun b hb e=>h.gne' (by rw [hb,e]))
 rw [hv] at hown
 rw [hev] at hesc
 refine h.again ?_ (by have q:=ownF_cut hown (Nat.zero_le _); rw [List.take_zero] at q; exact q) (by simpa using own_cut hesc (Nat.zero_le _)) rfl rfl (by rw [hv]; cases va <;> rfl) (by rw [hev]; rfl) (Nat.le_refl 0) (Nat.le_refl 0) ?_ (by simp) ?_ ?_ h.bigl h.prt ?_ ho ?_
 ·have hb:=h.blk
  rw [blk_set (blk_set (blk_set (blk_set (w:=w.drewN nq) hb 1 (.slice va 0 vc)) 3 (.int .i64 0)) 2 (.int .i64 0)) 7 (.slice (some ⟨eb,0,none⟩) 0 ec)]
  simp [dcells]
 ·show A.at_+0=A.at_+0
  rfl
 ·show A.at_+(0-0)=A.from_+(C.bl-C.r0)
  omega
 ·show 0≤A.at_
  omega
 ·show ([]:List UInt8).length≤1000
  simp
 ·constructor
  ·intro hn
   rw [hv] at hn
   injection hn with e1 e2 e3
   show Value.slice va 0 vc=_
   rw [e1,e3]
  ·intro b hn
   rw [hv] at hn
   injection hn with e1 e2 e3
   show Value.slice va 0 vc=Value.slice (some b) 0 8192
   rw [e1,e3]
set_option maxHeartbeats 1000000 in
theorem reset_plain {w:World} {B g:Nat} {T:List UInt8} {A:Ab} {C:Cn} (h:Rep w B g T A C) (hz:C.r1<C.bl) (hp:C.cmp=true∨256<C.bl-C.r1) :
  Calls Tryz.prog 46 #[.pointer (some ⟨g,0,none⟩)] w (ResetPost w B g T A C):=by
 obtain ⟨va,vc,hv,hvc,hvm⟩:=h.bv_slice
 obtain ⟨eb,ec,hev,hec,hem⟩:=h.ev_form
 have hbl:=h.bl_le
 have c1:=h.c1
 have c2:=h.c2
 have c3:=h.c3
 have c4:=h.c4
 have c7:=h.c7
 rw [hv] at c1
 rw [hev] at c7
 have f2:=h.fz 2
 have f7:=h.fz 7
 unfold maxLen at hvm hem
 have b1:(C.bl:Int)≤5000:=by omega
 have b2:(C.r1:Int)≤5000:=by omega
 have b3:¬((C.bl:Int)-(C.r1:Int)=0):=by omega
 have b4:0<(C.bl:Int)-(C.r1:Int):=by omega
 have HH:=Lib.hid h
 have HV:=Lib.hid hv
 have HEV:=Lib.hid hev
 have HZ:=Lib.hid hz
 have HF:Hid (∀ n,ResetPost w B g T A C (.returned (.tuple #[])) (((w.drewN n).setCell ⟨g,2,none⟩ (.int .i64 (C.r1:Int))).setCell ⟨g,7,none⟩ (.slice (some ⟨eb,0,none⟩) 0 ec))):=by
  refine Lib.hid ?_
  intro nq
  refine ⟨rfl,{ C with r0:=C.r1,ev:=.slice (some ⟨eb,0,none⟩) 0 ec },?_⟩
  have hat:=h.at_
  have hin:=h.inT
  have h01:=h.le01
  have hl:=h.le0
  have hd:=h.dat
  have ho2:Only (fun k=>k=g) w (((w.drewN nq).setCell ⟨g,2,none⟩ (.int .i64 (C.r1:Int))).setCell ⟨g,7,none⟩ (.slice (some ⟨eb,0,none⟩) 0 ec)):=
   (((Only.refl (fun k=>k=g) w).drewN nq).setCell (p:=⟨g,2,none⟩) (.inl rfl) _).setCell (p:=⟨g,7,none⟩) (.inl rfl) _
  have hesc:=ownsRow_only h.esc ho2 (fun b hb e=>h.gne' (by rw [hb,e]))
  rw [hev] at hesc
  refine h.again ?_ (ownsF_only h.own ho2 (fun b hb e=>h.gne (by rw [hb,e]))) (by simpa using own_cut hesc (Nat.zero_le _)) rfl rfl rfl (by rw [hev];rfl) (Nat.le_refl _) h.le1 rfl ?_ ?_ ?_ h.bigl h.prt ?_ (ho2.mono fun k _ hk=>.inl hk) ⟨fun q=>q,fun b q=>q⟩
  ·have hb:=h.blk
   rw [blk_set (blk_set (w:=w.drewN nq) hb 2 (.int .i64 (C.r1:Int))) 7 (.slice (some ⟨eb,0,none⟩) 0 ec)]
   simp [dcells]
  ·show C.bx.drop C.r1=((T.drop A.at_).take (C.bl-C.r1)).map bcell
   have e1:C.bx.drop C.r1=(C.bx.drop C.r0).drop (C.r1-C.r0):=by rw [List.drop_drop];congr 1;omega
   rw [e1,hd,←List.map_drop,List.drop_take,List.drop_drop,show A.from_+(C.r1-C.r0)=A.at_ by omega,show C.bl-C.r0-(C.r1-C.r0)=C.bl-C.r1 by omega]
  ·show A.at_+(C.bl-C.r1)=A.from_+(C.bl-C.r0)
   have:=h.le1
   omega
  ·show C.r1≤A.at_
   omega
  ·show ([]:List UInt8).length≤1000
   simp
 rcases hp with hp | hp
 ·rw [hp] at c4
  clear h hz hv hev hbl hp
  go_enter Tryz.func46,Tryz.ntmps46
  go_wp2
  go_quiet (fail)
  go_wp2
  go_end0
  exact HF.out _
 ·have b5:¬((C.bl:Int)-(C.r1:Int)≤256):=by omega
  cases hcm:C.cmp
  ·rw [hcm] at c4
   clear h hz hv hev hbl hp hcm
   go_enter Tryz.func46,Tryz.ntmps46
   go_wp2
   go_quiet (fail)
   go_wp2
   go_end0
   exact HF.out _
  ·rw [hcm] at c4
   clear h hz hv hev hbl hp hcm
   go_enter Tryz.func46,Tryz.ntmps46
   go_wp2
   go_quiet (fail)
   go_wp2
   go_end0
   exact HF.out _
set_option maxHeartbeats 1000000 in
theorem reset_slide {w:World} {B g:Nat} {T:List UInt8} {A:Ab} {C:Cn} (h:Rep w B g T A C) (hz:C.r1<C.bl) (hp:C.cmp=false) (hq:C.bl-C.r1≤256) :
  Calls Tryz.prog 46 #[.pointer (some ⟨g,0,none⟩)] w (ResetPost w B g T A C):=by
 obtain ⟨eb,ec,hev,hec,hem⟩:=h.ev_form
 have hbl:=h.bl_le
 have c1:=h.c1
 have c3:=h.c3
 have c4:=h.c4
 rw [hp] at c4
 have b1:(C.bl:Int)≤5000:=by omega
 have b2:(C.r1:Int)≤5000:=by omega
 have b3:¬((C.bl:Int)-(C.r1:Int)=0):=by omega
 have b4:0<(C.bl:Int)-(C.r1:Int):=by omega
 have b5:((C.bl:Int)-(C.r1:Int)≤256):=by omega
 rcases h.own.2 with ⟨hv,h0⟩ | ⟨b,vc,cur,hv,hBb,hb,hvc,hvm,hcs,hct⟩
 ·exfalso
  omega
 rw [h.bm_src hp] at hb
 replace hb:w.heap[b]?=some (.cells cur 5 (0,0)):=hb
 have HBM:=Lib.hid (h.bm_src hp)
 have hgn:=h.gne
 rw [hv] at c1
 have b6:C.r1≤C.bl:=by omega
 have b7:(C.r1:Int)≤(C.bl:Int):=by omega
 have b8:¬vc=C.r1:=by omega
 have b9:¬C.r1=vc:=by omega
 have hbg:b≠g:=fun e=>hgn (by rw [hv,e];rfl)
 have HH:=Lib.hid h
 have HV:=Lib.hid hv
 have HEV:=Lib.hid hev
 have HZ:=Lib.hid hz
 have HB:=Lib.hid hb
 have HT:=Lib.hid hct
 have HP:=Lib.hid hp
 clear h hv hev hz hgn hb hct hp
 unfold maxLen at hvm hem
 go_enter Tryz.func46,Tryz.ntmps46
 go_wp2
 go_quiet (fail)
 have HW1:=Lib.hid ((Step.refl HH.out).drewN nq)
 have HB1:Hid ((w.drewN nq).heap[b]?=some (.cells cur 5 (0,0))):=Lib.hid HB.out
 revert HW1 HB1
 generalize w.drewN nq=w1
 intro HW1 HB1
 have c1:=HW1.out.rep.c1
 have c3:=HW1.out.rep.c3
 have c4:=HW1.out.rep.c4
 rw [HV.out] at c1
 rw [HP.out] at c4
 go_wp2
 go_still_tail 13,(by kernel_rfl)
 change wpList _ _ _ _ _ w1.drew
 have hn:=HW1.out.rep.len_eq
 have hcl:(C.bx.drop C.r1).length=Nat.min (C.bl-C.r1) C.bl:=by rw [List.length_drop,hn];show _=min _ _;omega
 have hcell:∀ (j:Nat) (v:Value),(C.bx.drop C.r1)[j]?=some v→w1.drew.cell? ((⟨b,C.r1,none⟩:Addr).add j)=some v:=by
  intro j v hj
  rw [List.getElem?_drop,←HT.out,List.getElem?_take] at hj
  split at hj
  ·rw [show (⟨b,C.r1,none⟩:Addr).add j=⟨b,C.r1+j,none⟩ by simp [Addr.add]]
   show w1.cell? ⟨b,C.r1+j,none⟩=_
   rw [blk_cell HB1.out,←hj,Array.getElem?_toList]
  ·cases hj
 refine wpList_copy_own rfl (.tmp 38) (.tmp 47) 54 54 rfl 5 Tryz.underlying54 info5s b 0 C.bl vc ⟨b,C.r1,none⟩ (C.bl-C.r1) (vc-C.r1) rfl rfl cur 5 HB1.out (C.bx.drop C.r1) hcl hcell (by rw [List.length_drop,hn];omega) ?_ ?_
 ·intro v hv
  rw [HW1.out.rep.drop1] at hv
  obtain ⟨x,_,rfl⟩:=List.mem_map.1 hv
  rfl
 have HB2:Hid ((w1.drew.setRow b (cur.toList.take 0++(C.bx.drop C.r1++cur.toList.drop (0+(C.bx.drop C.r1).length))).toArray).heap[b]?=_):=Lib.hid (setRow_heap w1.drew b cur _ 5 _ HB1.out)
 have HG2:Hid ((w1.drew.setRow b (cur.toList.take 0++(C.bx.drop C.r1++cur.toList.drop (0+(C.bx.drop C.r1).length))).toArray).heap[g]?=_):=Lib.hid ((setRow_other w1.drew b g _ (Ne.symm hbg)).trans HW1.out.rep.blk)
 have HO2:Hid (Only (fun k=>k=g∨C.bv.ownBlock=some k) w1 (w1.drew.setRow b (cur.toList.take 0++(C.bx.drop C.r1++cur.toList.drop (0+(C.bx.drop C.r1).length))).toArray)):=Lib.hid ⟨rfl,rfl,rfl,by simp [World.setRow],fun k hk hs=>setRow_other w1.drew b k _ (fun e=>hs (.inr (by rw [HV.out,e];rfl)))⟩
 clear hcell hcl hn
 revert HB2 HG2 HO2
 generalize w1.drew.setRow b (cur.toList.take 0++(C.bx.drop C.r1++cur.toList.drop (0+(C.bx.drop C.r1).length))).toArray=w2
 intro HB2 HG2 HO2
 have d1:=blk_cell HG2.out 1
 have d2:=blk_cell HG2.out 2
 have d3:=blk_cell HG2.out 3
 have d7:=blk_cell HG2.out 7
 simp only [dcells,HV.out,HEV.out,List.getElem?_toArray,List.getElem?_cons_succ,List.getElem?_cons_zero] at d1 d2 d3 d7
 have f1:=blk_frozen HG2.out 1
 have f2:=blk_frozen HG2.out 2
 have f3:=blk_frozen HG2.out 3
 have f7:=blk_frozen HG2.out 7
 have e1:((C.bl:Int)-(C.r1:Int)).toNat=C.bl-C.r1:=by omega
 have e2:(C.bl:Int)-(C.r1:Int)≤(vc:Int):=by omega
 have e3:C.bl-C.r1≤vc:=by omega
 have e4:0≤(C.bl:Int)-(C.r1:Int):=by omega
 go_wp2
 go_end0
 have h:=HW1.out.rep
 have hev:=HEV.out
 have hv:=HV.out
 have hat:=h.at_
 have hin:=h.inT
 have h01:=h.le01
 have hl:=h.le0
 have hln:=h.len_eq
 have hne:=h.ne
 rw [hv,hev] at hne
 have hbe:¬b=eb:=fun e=>hne (by rw [e];rfl)
 have ho3:Only (fun k=>k=g) w2 ((((w2.setCell ⟨g,3,none⟩ (.int .i64 0)).setCell ⟨g,1,none⟩ (.slice (some ⟨b,0,none⟩) (C.bl-C.r1) vc)).setCell ⟨g,2,none⟩ (.int .i64 0)).setCell ⟨g,7,none⟩ (.slice (some ⟨eb,0,none⟩) 0 ec)):=
  ((((Only.refl (fun k=>k=g) w2).setCell (p:=⟨g,3,none⟩) (.inl rfl) _).setCell (p:=⟨g,1,none⟩) (.inl rfl) _).setCell (p:=⟨g,2,none⟩) (.inl rfl) _).setCell (p:=⟨g,7,none⟩) (.inl rfl) _
 have ho4:=HO2.out.trans (ho3.mono fun k _ hk=>Or.inl (b:=C.bv.ownBlock=some k) hk) fun k hk=>.inl hk
 have hesc:=ownsRow_only h.esc ho4 (fun k hb e=>by
  rcases e with e | e
  ·exact h.gne' (by rw [hb,e])
  ·exact h.ne (by rw [hb,e]))
 rw [hev] at hesc
 have hB4:=blk_only HB2.out ho3 hbg
 refine ⟨rfl,{ C with bv:=.slice (some ⟨b,0,none⟩) (C.bl-C.r1) vc,bl:=C.bl-C.r1,bx:=C.bx.drop C.r1,r0:=0,r1:=0,ev:=.slice (some ⟨eb,0,none⟩) 0 ec },?_⟩
 have hfin:=h.again (A':={ A with from_:=A.at_,esc:=[] }) (C':={ C with bv:=.slice (some ⟨b,0,none⟩) (C.bl-C.r1) vc,bl:=C.bl-C.r1,bx:=C.bx.drop C.r1,r0:=0,r1:=0,ev:=.slice (some ⟨eb,0,none⟩) 0 ec }) ?_ ?_ (by simpa using own_cut hesc (Nat.zero_le _)) rfl rfl (by rw [hv];rfl) (by rw [hev];rfl) (Nat.le_refl 0) (Nat.zero_le _) rfl ?_ ?_ ?_ h.bigl h.prt ?_ ho4 ?_
 ·exact ⟨hfin.1,HW1.out.pas.trans hfin.2⟩
 ·rw [blk_set (blk_set (blk_set (blk_set HG2.out 3 (.int .i64 0)) 1 (.slice (some ⟨b,0,none⟩) (C.bl-C.r1) vc)) 2 (.int .i64 0)) 7 (.slice (some ⟨eb,0,none⟩) 0 ec)]
  simp [dcells]
 ·refine ⟨?_,.inr ⟨b,vc,_,rfl,hBb,hB4.trans (by show some (Obj.cells _ 5 (0,0))=some (Obj.cells _ 5 (mkF C.bm vc));rw [HBM.out];rfl),e3,?_,?_,?_⟩⟩
  ·show (C.bx.drop C.r1).length=(C.bl-C.r1)*1
   rw [List.length_drop];omega
  ·unfold maxLen;omega
  ·have hsz:cur.toList.length=vc:=by simpa using hcs
   simp only [List.size_toArray,List.length_append,List.length_take,List.length_drop,hln,hsz]
   omega
  ·show List.take ((C.bl-C.r1)*1) _=C.bx.drop C.r1
   rw [Nat.mul_one,List.take_zero,List.nil_append,List.take_append_of_le_length (by rw [List.length_drop];omega),List.take_of_length_le (by rw [List.length_drop];omega)]
 ·show (C.bx.drop C.r1).drop 0=((T.drop A.at_).take (C.bl-C.r1-0)).map bcell
  rw [List.drop_zero,Nat.sub_zero]
  exact h.drop1
 ·show A.at_+(C.bl-C.r1-0)=A.from_+(C.bl-C.r0)
  omega
 ·show 0≤A.at_
  omega
 ·show ([]:List UInt8).length≤1000
  simp
 ·constructor
  ·intro hn
   rw [hv] at hn
   cases hn
  ·intro b' hn
   rw [hv] at hn
   injection hn with e1 e2 e3
   show Value.slice (some ⟨b,0,none⟩) (C.bl-C.r1) vc=Value.slice (some b') (C.bl-C.r1) 8192
   rw [e1,e3]
theorem reset_spec {w:World} {B g:Nat} {T:List UInt8} {A:Ab} {C:Cn} (h:Rep w B g T A C):Calls Tryz.prog 46 #[.pointer (some ⟨g,0,none⟩)] w (ResetPost w B g T A C):=by
 by_cases hz:C.r1=C.bl
 ·exact reset_empty h hz
 ·have hl:=h.le1
  cases hc:C.cmp
  ·by_cases hq:C.bl-C.r1≤256
   ·exact reset_slide h (by omega) hc hq
   ·exact reset_plain h (by omega) (.inr (by omega))
  ·exact reset_plain h (by omega) (.inl hc)
end Go.Proofs.YtkfggfjdplnkpaaGreatDoor
end
