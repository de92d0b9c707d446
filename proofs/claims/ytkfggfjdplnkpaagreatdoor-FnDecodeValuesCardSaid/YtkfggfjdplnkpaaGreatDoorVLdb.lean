/- A part of the proof that the law FnDecodeValues returns true; its conditions are those of the last part. -/
import Derived.Test.YtkfggfjdplnkpaaGreatDoorVVala
set_option maxRecDepth 100000
set_option linter.unusedVariables false
set_option linter.unusedSimpArgs false
section
namespace Go.Proofs.YtkfggfjdplnkpaaGreatDoor
open Go Go.RowKit Go.ChangeShapes Go.WideShapes Go.Lib
section
variable {w:World}
def LL:List (String × DataW Unit):=Rows.fnDecodeValuesRow.laid
theorem one_cell {cs:Array Value} {v:Value} (h:cs.toList=[v]):cs[0]?=some v:=by rw [←Array.getElem?_toList,h];rfl
theorem ints_at {n:String} {g:Nat} {cs:Array Value} {zs:List Int} (h0:0<zs.length) (hg:Tryz.prog.globalNamed n=some g) (h:VR w n (.slice (zs.map fun z=>.lit (.int .i64 z)) []) g 22 cs) :
  ∃ b o,b<w.heap.size∧w.cell? ⟨g,0,none⟩=some (.slice (some ⟨b,o,none⟩) zs.length zs.length)∧∀ i z,zs[i]?=some z→w.cell? ⟨b,o+i,none⟩=some (.int .i64 z):=by
 obtain ⟨fuel,p,hr,_⟩:=h.rd
 obtain ⟨b,o,hcs,hb,hel⟩:=rd_slice Tryz.underlying22 (by rw [show Tryz.prog.cellsOf 3=1 by kernel_rfl];omega) (by simpa using h0) hr
 rw [List.length_map] at hcs
 refine ⟨b,o,hb,(h.cell hg 0).trans (one_cell hcs),fun i z hi=>?_⟩
 obtain ⟨m,cs',q,k1,k2⟩:=hel i _ (by rw [List.getElem?_map,hi];rfl)
 have c1:Tryz.prog.cellsOf 3=1:=by kernel_rfl
 rw [c1,Nat.mul_one] at k1
 obtain ⟨y,e1,e2,_⟩:=DataW.trod_int Tryz.underlying3 k2
 simp only [Prod.mk.injEq,DataW.lit.injEq,Lit.int.injEq] at e2
 obtain ⟨⟨_,rfl⟩,_⟩:=e2
 have:=cells_cell k1 rfl 0 (by omega)
 rw [e1] at this
 exact this
theorem flts_at {n:String} {g:Nat} {cs:Array Value} {zs:List Nat} (h0:0<zs.length) (hg:Tryz.prog.globalNamed n=some g) (h:VR w n (.slice (zs.map fun z=>.lit (.float .f64 z)) []) g 266 cs) :
  ∃ b o,b<w.heap.size∧w.cell? ⟨g,0,none⟩=some (.slice (some ⟨b,o,none⟩) zs.length zs.length)∧∀ i z,zs[i]?=some z→w.cell? ⟨b,o+i,none⟩=some (.float .f64 z):=by
 obtain ⟨fuel,p,hr,_⟩:=h.rd
 obtain ⟨b,o,hcs,hb,hel⟩:=rd_slice Tryz.underlying266 (by rw [show Tryz.prog.cellsOf 33=1 by kernel_rfl];omega) (by simpa using h0) hr
 rw [List.length_map] at hcs
 refine ⟨b,o,hb,(h.cell hg 0).trans (one_cell hcs),fun i z hi=>?_⟩
 obtain ⟨m,cs',q,k1,k2⟩:=hel i _ (by rw [List.getElem?_map,hi];rfl)
 have c1:Tryz.prog.cellsOf 33=1:=by kernel_rfl
 rw [c1,Nat.mul_one] at k1
 obtain ⟨y,e1,e2⟩:=rd_float Tryz.underlying33 k2
 simp only [Prod.mk.injEq,DataW.lit.injEq,Lit.float.injEq] at e2
 obtain ⟨⟨_,rfl⟩,_⟩:=e2
 have:=cells_cell k1 rfl 0 (by omega)
 rw [e1] at this
 exact this
theorem cheat_of {cs:Array Value} (h:VR w "internal/strconv.leftcheats" Pinned.leftcheats 21 287 cs):Cheat w w.heap.size:=by
 obtain ⟨fuel,p,hr,_⟩:=h.rd
 unfold Pinned.leftcheats at hr
 have hlen:Pinned.cheatRows.length=61:=by kernel_rfl
 obtain ⟨b,o,hcs,hb,hel⟩:=rd_slice Tryz.underlying287 (by rw [show Tryz.prog.cellsOf 286=2 by kernel_rfl];omega) (by rw [List.length_map,hlen];omega) hr
 rw [List.length_map,hlen] at hcs
 refine ⟨b,o,61,hb,Nat.le_refl _,(h.cell (by kernel_rfl) 0).trans (one_cell hcs),fun k hk=>?_⟩
 obtain ⟨x,hx⟩:∃ x,Pinned.cheatRows[k]?=some x:=⟨_,List.getElem?_eq_getElem (by omega)⟩
 obtain ⟨m,cs',q,k1,k2⟩:=hel k _ (by rw [List.getElem?_map,hx];rfl)
 have c1:Tryz.prog.cellsOf 286=2:=by kernel_rfl
 rw [c1] at k1
 obtain ⟨u,v,m2,q0,q1,rfl,r0,r1⟩:=rd_two Tryz.underlying286 rfl rfl (by kernel_rfl) (by kernel_rfl) c1 k2
 have e0:=(lit_int Tryz.underlying3 r0).1
 have e1:=lit_str Tryz.underlying9 r1
 have g0:=cells_cell k1 rfl 0 (by omega)
 have g1:=cells_cell k1 rfl 1 (by omega)
 have hD:cheatD k=x.1:=by unfold cheatD;rw [List.getD,hx];rfl
 have hS:cheatS k=⟨x.2.toArray⟩:=by unfold cheatS;rw [List.getD,hx];rfl
 rw [hD,hS]
 subst e0
 subst e1
 exact ⟨g0,g1⟩
theorem ptab_of {cs:Array Value} (h:VR w "internal/strconv.pow10Tab" Pinned.pow10Tab 20 276 cs):PTab w:=by
 obtain ⟨fuel,p,hr,_⟩:=h.rd
 unfold Pinned.pow10Tab at hr
 have hlen:Pinned.pow10Rows.length=696:=by kernel_rfl
 refine ⟨fun i hi=>?_⟩
 obtain ⟨f2,d,q,hd,he⟩:=array_elem Tryz.underlying276 hr i hi
 obtain ⟨x,hx⟩:∃ x,Pinned.pow10Rows[i]?=some x:=⟨_,List.getElem?_eq_getElem (by omega)⟩
 rw [List.getElem?_map,hx] at hd
 obtain rfl:=Option.some.inj hd
 have c1:Tryz.prog.cellsOf 275=2:=by kernel_rfl
 rw [c1] at he
 obtain ⟨u,v,m2,q0,q1,hcs,r0,r1⟩:=rd_two Tryz.underlying275 rfl rfl (by kernel_rfl) (by kernel_rfl) c1 he
 obtain ⟨e0,w0⟩:=lit_int Tryz.underlying32 r0
 obtain ⟨e1,w1⟩:=lit_int Tryz.underlying32 r1
 have g0:=congrArg (·[0]?) hcs
 have g1:=congrArg (·[1]?) hcs
 simp only [List.getElem?_take,List.getElem?_drop] at g0 g1
 have hH:hiT i=x.1:=by unfold hiT;rw [List.getD,hx];rfl
 have hL:loT i=x.2:=by unfold loT;rw [List.getD,hx];rfl
 rw [hH,hL]
 subst e0
 subst e1
 refine ⟨?_,?_,?_,?_⟩
 ·rw [h.cell (by kernel_rfl),←Array.getElem?_toList];simpa using g0
 ·rw [h.cell (by kernel_rfl),←Array.getElem?_toList];simpa using g1
 ·have:(Lit.int .u64 (x.1:Int)).wf=true:=w0
  simp [Lit.wf,IntKind.min,IntKind.max,IntKind.signed,IntKind.bits] at this
  omega
 ·have:(Lit.int .u64 (x.2:Int)).wf=true:=w1
  simp [Lit.wf,IntKind.min,IntKind.max,IntKind.signed,IntKind.bits] at this
  omega
theorem info_of {cs:Array Value} (h:VR w "internal/strconv.float64info" Rows.laid_internal_strconv_float64info 11 234 cs) :
  w.cell? ⟨11,0,none⟩=some (.int .u64 52)∧w.cell? ⟨11,1,none⟩=some (.int .u64 11)∧w.cell? ⟨11,2,none⟩=some (.int .i64 (-1023)):=by
 obtain ⟨fuel,p,hr,_⟩:=h.rd
 unfold Rows.laid_internal_strconv_float64info at hr
 obtain ⟨a,b,c,m,q0,q1,q2,hcs,r0,r1,r2⟩:=rd_three Tryz.underlying234 rfl rfl rfl (by kernel_rfl) (by kernel_rfl) (by kernel_rfl) (by kernel_rfl) hr
 have e0:=(lit_int Tryz.underlying193 r0).1
 have e1:=(lit_int Tryz.underlying193 r1).1
 have e2:=(lit_int Tryz.underlying3 r2).1
 subst e0;subst e1;subst e2
 refine ⟨?_,?_,?_⟩ <;> rw [h.cell (by kernel_rfl),←Array.getElem?_toList,hcs] <;> rfl
theorem opt_of {cs:Array Value} (h:VR w "internal/strconv.optimize" Rows.laid_internal_strconv_optimize 10 4 cs):w.cell? ⟨10,0,none⟩=some (.bool true):=by
 obtain ⟨fuel,p,hr,_⟩:=h.rd
 unfold Rows.laid_internal_strconv_optimize at hr
 obtain ⟨b,e1,e2⟩:=DataW.trod_bool Tryz.underlying4 hr
 simp only [Prod.mk.injEq,DataW.lit.injEq,Lit.bool.injEq] at e2
 obtain ⟨rfl,_⟩:=e2
 exact (h.cell (by kernel_rfl) 0).trans (one_cell e1)
def u8ren:Go.Shelf.Ren:=⟨fun n=>n,fun | 5=>5 | 119=>114 | 138=>191 | 139=>192 | n=>n,fun | 3=>4 | 4=>5 | n=>n⟩
theorem u8types:U8Types Tryz.prog u8ren:=⟨by kernel_rfl,by kernel_rfl,by kernel_rfl,by kernel_rfl⟩
theorem u8extra:U8Extra Tryz.prog u8ren:=⟨by kernel_rfl,by kernel_rfl,by kernel_rfl,by kernel_rfl,by kernel_rfl,by kernel_rfl,by kernel_rfl⟩
theorem accept_eq:(Rows.laid_unicode_utf8_acceptRanges:DataW Unit)=acceptData:=by kernel_rfl
theorem utf8_of (h:laidMet Tryz.prog LL w):Lib.Utf8Tabs 4 5 w:=
 utf8Tabs_of_readsT u8types u8extra (Pinned.utf8First_eq▸Lib.laidMet.reads h (List.mem_of_getElem? (show LL[22]?=some ("unicode/utf8.first",Pinned.utf8First) from rfl))) (accept_eq▸Lib.laidMet.reads h (List.mem_of_getElem? (show LL[9]?=some ("unicode/utf8.acceptRanges",Rows.laid_unicode_utf8_acceptRanges) from rfl)))
theorem blk_of {n:String} {d:DataW Unit} {g:Nat} {t:TypeId} {cs:Array Value} (h:VR w n d g t cs) (h0:0<cs.size):∃ ca ta,w.heap[g]?=some (.cells ca ta (0,0)):=(h.fit 0 h0 g 0 rfl).1
theorem size_of {n:String} {d:DataW Unit} {g:Nat} {t:TypeId} {cs:Array Value} {v:Value} (hg:Tryz.prog.globalNamed n=some g) (h:VR w n d g t cs) (hc:w.cell? ⟨g,0,none⟩=some v):0<cs.size:=by
 rw [h.cell hg] at hc
 exact (Array.getElem?_eq_some_iff.1 hc).1
theorem tabs_of (h:laidMet Tryz.prog LL w) (h26:25<w.heap.size):Tabs w w.heap.size:=by
 obtain ⟨c3,v3⟩:=vr_of h 3 rfl (g:=11) (t:=234) (by kernel_rfl) (by kernel_rfl)
 obtain ⟨c4,v4⟩:=vr_of h 4 rfl (g:=10) (t:=4) (by kernel_rfl) (by kernel_rfl)
 obtain ⟨c5,v5⟩:=vr_of h 5 rfl (g:=13) (t:=22) (by kernel_rfl) (by kernel_rfl)
 obtain ⟨c6,v6⟩:=vr_of h 6 rfl (g:=14) (t:=266) (by kernel_rfl) (by kernel_rfl)
 obtain ⟨c15,v15⟩:=vr_of h 15 rfl (g:=21) (t:=287) (by kernel_rfl) (by kernel_rfl)
 obtain ⟨c16,v16⟩:=vr_of h 16 rfl (g:=20) (t:=276) (by kernel_rfl) (by kernel_rfl)
 obtain ⟨c2,v2⟩:=vr_of h 2 rfl (g:=9) (t:=234) (by kernel_rfl) (by kernel_rfl)
 obtain ⟨i1,i2,i3⟩:=info_of v3
 obtain ⟨b5,o5,l5,k5,e5⟩:=ints_at (zs:=[1,3,6,9,13,16,19,23,26]) (by decide) (by kernel_rfl) v5
 obtain ⟨b6,o6,l6,k6,e6⟩:=flts_at (zs:=p10L) (by decide) (by kernel_rfl) v6
 have hz:0<c2.size:=by
  obtain ⟨fuel,p,hr,_⟩:=v2.rd
  unfold Rows.laid_internal_strconv_float32info at hr
  obtain ⟨a,b,c,m,q0,q1,q2,hcs,_⟩:=rd_three Tryz.underlying234 rfl rfl rfl (by kernel_rfl) (by kernel_rfl) (by kernel_rfl) (by kernel_rfl) hr
  have:=congrArg List.length hcs
  simp at this
  omega
 refine ⟨⟨i1,i2,i3,⟨b5,o5,9,l5,Nat.le_refl _,k5,fun i hi=>?_⟩,cheat_of v15,h26⟩,⟨i1,⟨b6,o6,23,l6,Nat.le_refl _,k6,fun i hi=>e6 i _ ?_⟩,h26⟩,ptab_of v16,opt_of v4,blk_of v3 (size_of (by kernel_rfl) v3 i1),blk_of v2 hz,Nat.le_refl _⟩
 ·refine e5 i _ ?_
  rcases (by omega:i=0∨i=1∨i=2∨i=3∨i=4∨i=5∨i=6∨i=7∨i=8) with rfl | rfl | rfl | rfl | rfl | rfl | rfl | rfl | rfl <;> rfl
 ·unfold p10
  have:i<p10L.length:=hi
  rw [List.getD,List.getElem?_eq_getElem this]
  rfl
theorem init_of (h:laidMet Tryz.prog LL w) (h26:25<w.heap.size):Init w w.heap.size:=by
 obtain ⟨c,v⟩:=vr_of h 12 rfl (g:=6) (t:=48) (by kernel_rfl) (by kernel_rfl)
 obtain ⟨a,_,k,_⟩:=sen_of v (by kernel_rfl)
 exact ⟨⟨⟨a,k⟩,h26⟩,utf8_of h⟩
theorem ev_of (h:laidMet Tryz.prog LL w) (h26:25<w.heap.size):∃ aR aS aO,EV w w.heap.size aR aS aO:=by
 obtain ⟨c1,v1⟩:=vr_of h 10 rfl (g:=1) (t:=48) (by kernel_rfl) (by kernel_rfl)
 obtain ⟨c2,v2⟩:=vr_of h 11 rfl (g:=8) (t:=48) (by kernel_rfl) (by kernel_rfl)
 obtain ⟨c3,v3⟩:=vr_of h 14 rfl (g:=0) (t:=48) (by kernel_rfl) (by kernel_rfl)
 obtain ⟨c4,v4⟩:=vr_of h 13 rfl (g:=3) (t:=48) (by kernel_rfl) (by kernel_rfl)
 obtain ⟨aR,r1,r2,r3,r4⟩:=sen_of v1 (by kernel_rfl)
 obtain ⟨aS,s1,s2,s3,s4⟩:=sen_of v2 (by kernel_rfl)
 obtain ⟨aO,o1,o2,o3,o4⟩:=sen_of v3 (by kernel_rfl)
 obtain ⟨aB,b1,b2,b3,b4⟩:=sen_of v4 (by kernel_rfl)
 refine ⟨aR,aS,aO,r1,s1,o2,⟨_,_,b2⟩,r4,s4,o4,?_,⟨block_lt_of_cell r3,block_lt_of_cell s3,block_lt_of_cell o3,h26⟩,Nat.le_refl _⟩
 rintro rfl
 rw [r3] at s3
 injection s3 with s3
 injection s3 with s3
 have:=congrArg ByteArray.size s3
 revert this
 decide
end
end Go.Proofs.YtkfggfjdplnkpaaGreatDoor
end
