/- A part of the proof that the law FnDecodeValues returns true; its conditions are those of the last part. -/
import Derived.Test.YtkfggfjdplnkpaaGreatDoorVTim
import Derived.Laws.CopyRow
import Derived.Defers
import Derived.Recover
import Derived.Test.YtkfggfjdplnkpaaGreatDoorVRefill
import Derived.Lib.ConvBytes
set_option maxRecDepth 100000
set_option linter.unusedVariables false
set_option linter.unusedSimpArgs false
section
namespace Go.Proofs.YtkfggfjdplnkpaaGreatDoor
open Go Go.RowKit Go.Proofs.YtkfggfjdplnkpaaGreatDoorW.PrintLast
theorem td_all (t:TD):t.cells.all (·.oneCell')=true:=by simp [TD.cells,tdC,Value.oneCell']
theorem res_c39 {fn:Func} {p:Tmp} (h:fn.results=#[.cell p 39]) (tmps:Array Value) (w:World) (g:Nat) (cs:Array Value)
  (hp:tmps.getD p undef=.pointer (some ⟨g,0,none⟩)) (hg:w.heap[g]?=some (.cells cs 39 (0,0))) (hi:cs.size=15) :
  (results fn tmps).run Tryz.prog w=.ok (.agg cs) w:=
 res_c35 h tmps w g 39 cs (0,0) hp hg Tryz.underlying39 ((show (Tryz.prog.info? 39).map (·.size)=some 15 by kernel_rfl).trans (by rw [hi]))
def tdS (b:Bool):TD:=⟨b,⟨#[]⟩,⟨#[]⟩,0,⟨0,⟨#[]⟩,0,0,0,false⟩,0,false,0,0,false⟩
structure Wd (wI:World) (B:Nat) (aR aS aO:Addr) (T:List UInt8):Prop where
 init:Init wI B
 tabs:Tabs wI B
 ev:EV wI B aR aS aO
 len:T.length≤800
theorem Wd.out {wI w:World} {B:Nat} {aR aS aO:Addr} {T:List UInt8} (h:Wd wI B aR aS aO T) (hl:LowEq B wI w):OutV w aO:=
 (show OutV wI aO from ⟨h.ev.out,h.ev.bO⟩).low h.ev.lt.2.2.1 hl
section
variable {wI w:World} {C:Cn} {B g:Nat} {aR aS aO:Addr} {T:List UInt8} {p f k:Nat} {A:Ab}
theorem At.fresh {w1:World} (h:At wI w C B g T false w p f k A C) (hb:Below w.heap.size w w1):At wI w1 C B g T false w1 p f k A C:=
 ⟨(h.below hb).to_.rep,Pas.refl _ _ _,(h.below hb).to_.is,(h.below hb).to_.low⟩
set_option maxHeartbeats 1000000 in
theorem told_0 (hW:Wd wI B aR aS aO T) (h:At wI w C B g T false w p f k A C) (prec d:Int) :
  Calls Tryz.prog 12 #[.pointer (some ⟨g,0,none⟩),.agg (askC 0 prec d)] w (ToldPost w B g T C ((nextP T ⟨p,f,k⟩).1,tdS (nextP T ⟨p,f,k⟩).2)):=by
 have hb:=kW_below w 0 prec d
 have HN:=Lib.hid (next_spec hW.init (h.fresh hb))
 have AT0:=Lib.hid (h.below hb).to_
 have Q0:=Lib.hid (kq_start w 0 prec d)
 have HB:=Lib.hid h.base
 obtain ⟨⟨⟨p1,f1,k1⟩,b⟩,hr⟩:∃ r,nextP T ⟨p,f,k⟩=r:=⟨_,rfl⟩
 rw [hr] at HN ⊢
 clear hr hb h hW
 unfold askC
 go_enter Tryz.func12,Tryz.ntmps12
 go_wp2_with fail
 refine HN.out.mono ?_
 clear HN
 rintro e w2 ⟨A1,C1,rfl,hr1,hpa1,his1⟩
 have AT:=Lib.hid (AT0.out.call hr1 hpa1 his1)
 have Q:=Lib.hid (Q0.out.step AT0.out.rep hpa1)
 clear hr1 hpa1 his1 AT0 Q0
 go_wp2_with (with_reducible refine wpList_store_row rfl 39 (.tmp 4) (.tmp 28) rfl (w.heap.size+1) (TD.cells (tdS b)) rfl rfl 39 zTD.cells Q.out (by kernel_rfl) rfl (td_all _) ?_)
 refine bodyPost_ret (res_c39 rfl _ _ (w.heap.size+1) (TD.cells (tdS b)) rfl (setRow_heap _ _ _ _ _ _ Q.out) rfl) rfl ?_
 exact told_end AT.out Q.out (Nat.le_refl _) HB.out rfl
set_option maxHeartbeats 2000000 in
theorem told_1 (hW:Wd wI B aR aS aO T) (h:At wI w C B g T false w p f k A C) (prec d:Int) :
  Calls Tryz.prog 12 #[.pointer (some ⟨g,0,none⟩),.agg (askC 1 prec d)] w (ToldPost w B g T C ((nameP false T ⟨p,f,k⟩).1,tdN (nameP false T ⟨p,f,k⟩).2)):=by
 have hb:=kW_below w 1 prec d
 have HN:=Lib.hid (name_at hW.init (h.fresh hb))
 have AT0:=Lib.hid (h.below hb).to_
 have Q0:=Lib.hid (kq_start w 1 prec d)
 have HB:=Lib.hid h.base
 have HWD:=Lib.hid hW
 obtain ⟨⟨⟨p1,f1,k1⟩,r⟩,hr⟩:∃ r,nameP false T ⟨p,f,k⟩=r:=⟨_,rfl⟩
 rw [hr] at HN ⊢
 clear hr hb h hW
 unfold askC
 go_enter Tryz.func12,Tryz.ntmps12
 go_wp2_with fail
 refine HN.out.mono ?_
 clear HN
 rintro e w2 ⟨A1,C1,v,ev,rfl,hr1,hpa1,his1,hres⟩
 have AT:=Lib.hid (AT0.out.call hr1 hpa1 his1)
 have Q:=Lib.hid (Q0.out.step AT0.out.rep hpa1)
 obtain ⟨sm,L,is,l,c,out,hsq,hfq,htd⟩:=resv_q (HWD.out.out AT.out.low) HWD.out.ev.lt.2.2.1 hres
 obtain ⟨va,vcap,rfl⟩:=hsq.tb.len
 have hne:=hsq.ne
 have TBK:=Lib.hid hsq.tb
 have FQ:=Lib.hid hfq
 have HTD:=Lib.hid htd
 clear hr1 hpa1 his1 AT0 Q0 hsq hfq htd hres
 go_wp2_with fail
 refine start_ (n:=8) (S:=fun w'=>Below (w2).heap.size (w2) w') (ds:=[7]) (bA 8 0) (by kernel_rfl) rfl rfl (Below.refl _ _).drew (fun _=>?_)
 refine pure_ (i:=0) (N:=some 36) (v:=?_) (a':=?_) (bA 8 1) rfl rfl (by kernel_rfl) (fun _ _ _ h=>h) (Or.inl ⟨by rfl,?_⟩) ?_ ?_
 rotate_left
 ·intro w';go_simp;with_reducible rfl
 rotate_left
 ·simp only [Act.put,aA,aB,aC];rfl
 refine pure_ (i:=1) (N:=some 37) (v:=?_) (a':=?_) (bA 8 3) rfl rfl (by kernel_rfl) (fun _ _ _ h=>h) (Or.inl ⟨by rfl,?_⟩) ?_ ?_
 rotate_left
 ·intro w';go_simp;with_reducible rfl
 rotate_left
 ·simp only [Act.put,aA,aB,aC];rfl
 refine pure_ (i:=2) (N:=some 38) (v:=?_) (a':=?_) (bA 8 7) rfl rfl (by kernel_rfl) (fun _ _ _ h=>h) (Or.inl ⟨by rfl,?_⟩) ?_ ?_
 rotate_left
 ·intro w';go_simp;with_reducible rfl
 rotate_left
 ·simp only [Act.put,aA,aB,aC];rfl
 refine take_ (i:=3) (N:=some 39) (v:=?_) (a':=?_) (bA 8 15) rfl rfl (by kernel_rfl) (fun _ _ _ h=>h) (Or.inl ⟨by rfl,?_⟩) (Below.refl _ _).drew ?_ ?_
 rotate_left
 ·intro w' hS;have hcv:=conv_told (TBK.out.below hS);go_simp;with_reducible rfl
 rotate_left
 ·simp only [Act.put,aA,aB,aC];rfl
 refine pure_ (i:=4) (N:=some 40) (v:=?_) (a':=?_) (bA 8 31) rfl rfl (by kernel_rfl) (fun _ _ _ h=>h) (Or.inl ⟨by rfl,?_⟩) ?_ ?_
 rotate_left
 ·intro w';go_simp;with_reducible rfl
 rotate_left
 ·simp only [Act.put,aA,aB,aC];rfl
 refine one_ (i:=5) (N:=some 41) (bA 8 63) rfl rfl (by kernel_rfl) (by decide) (fun K hK=>?_)
 refine call_ 26 #[ev] (by rfl) rfl (by go_simp) ?_
 refine (FQ.out.call _ (Below.refl _ _).drew).mono ?_
 rintro e w3 ⟨he,hb⟩
 unfold fltC at he
 subst he
 have hb3:Below (w2).heap.size (w2) w3:=(Below.refl _ _).drew.trans hb
 refine ⟨_,rfl,hK.out _ _ hb3 (fun _=>?_)⟩
 clear hK K hb
 refine take_ (i:=6) (N:=some 42) (v:=?_) (a':=?_) (bA 8 127) rfl rfl (by kernel_rfl) (fun _ _ _ h=>h) (Or.inl ⟨by rfl,?_⟩) hb3 ?_ ?_
 rotate_left
 ·intro w' hS;have hcv:=conv_told (TBK.out.below hS);go_simp;with_reducible rfl
 rotate_left
 ·simp only [Act.put,aA,aB,aC];rfl
 refine last_ (i:=7) (N:=none) (bA 8 255) rfl rfl (by kernel_rfl) (by decide) (fun K hK=>?_)
 refine skip_ (by rfl) rfl (row_run0 39 (.tmp 4) (.tmp 42) rfl (w.heap.size+1) (TD.cells ⟨sm,sOf L,⟨#[]⟩,0,zVl,0,is,l,c,out⟩) (by rfl) (by rfl) 39 _ (Q.out.below hb3) (by kernel_rfl) rfl (td_all _)) ?_
 refine hK.out _ _ ?_
 clear hK K
 refine done_ (by kernel_rfl) ?_
 have AT3:=Lib.hid (AT.out.below hb3).to_
 have Q3:=Lib.hid (Kq.below Q.out hb3)
 clear hb3
 go_wp2_with fail
 refine bodyPost_ret (res_c39 rfl _ _ (w.heap.size+1) (TD.cells ⟨sm,sOf L,⟨#[]⟩,0,zVl,0,is,l,c,out⟩) rfl (setRow_heap _ _ _ _ _ _ Q3.out) rfl) rfl ?_
 rw [HTD.out]
 exact told_end AT3.out Q3.out (Nat.le_refl _) HB.out rfl
set_option maxHeartbeats 2000000 in
theorem told_5 (hW:Wd wI B aR aS aO T) (h:At wI w C B g T false w p f k A C) (prec d:Int) :
  Calls Tryz.prog 12 #[.pointer (some ⟨g,0,none⟩),.agg (askC 5 prec d)] w (ToldPost w B g T C ((timeF T ⟨p,f,k⟩).1,tdN (timeF T ⟨p,f,k⟩).2)):=by
 have hb:=kW_below w 5 prec d
 have HN:=Lib.hid (time_full hW.init (h.fresh hb))
 have AT0:=Lib.hid (h.below hb).to_
 have Q0:=Lib.hid (kq_start w 5 prec d)
 have HB:=Lib.hid h.base
 have HWD:=Lib.hid hW
 obtain ⟨⟨⟨p1,f1,k1⟩,r⟩,hr⟩:∃ r,timeF T ⟨p,f,k⟩=r:=⟨_,rfl⟩
 rw [hr] at HN ⊢
 clear hr hb h hW
 unfold askC
 go_enter Tryz.func12,Tryz.ntmps12
 go_wp2_with fail
 refine HN.out.mono ?_
 clear HN
 rintro e w2 ⟨A1,C1,v,ev,rfl,hr1,hpa1,his1,hres⟩
 have AT:=Lib.hid (AT0.out.call hr1 hpa1 his1)
 have Q:=Lib.hid (Q0.out.step AT0.out.rep hpa1)
 obtain ⟨sm,L,is,l,c,out,hsq,hfq,htd⟩:=resv_q (HWD.out.out AT.out.low) HWD.out.ev.lt.2.2.1 hres
 obtain ⟨va,vcap,rfl⟩:=hsq.tb.len
 have hne:=hsq.ne
 have TBK:=Lib.hid hsq.tb
 have FQ:=Lib.hid hfq
 have HTD:=Lib.hid htd
 clear hr1 hpa1 his1 AT0 Q0 hsq hfq htd hres
 go_wp2_with fail
 refine start_ (n:=8) (S:=fun w'=>Below (w2).heap.size (w2) w') (ds:=[7]) (bA 8 0) (by kernel_rfl) rfl rfl (Below.refl _ _).drew (fun _=>?_)
 refine pure_ (i:=0) (N:=some 108) (v:=?_) (a':=?_) (bA 8 1) rfl rfl (by kernel_rfl) (fun _ _ _ h=>h) (Or.inl ⟨by rfl,?_⟩) ?_ ?_
 rotate_left
 ·intro w';go_simp;with_reducible rfl
 rotate_left
 ·simp only [Act.put,aA,aB,aC];rfl
 refine pure_ (i:=1) (N:=some 109) (v:=?_) (a':=?_) (bA 8 3) rfl rfl (by kernel_rfl) (fun _ _ _ h=>h) (Or.inl ⟨by rfl,?_⟩) ?_ ?_
 rotate_left
 ·intro w';go_simp;with_reducible rfl
 rotate_left
 ·simp only [Act.put,aA,aB,aC];rfl
 refine pure_ (i:=2) (N:=some 110) (v:=?_) (a':=?_) (bA 8 7) rfl rfl (by kernel_rfl) (fun _ _ _ h=>h) (Or.inl ⟨by rfl,?_⟩) ?_ ?_
 rotate_left
 ·intro w';go_simp;with_reducible rfl
 rotate_left
 ·simp only [Act.put,aA,aB,aC];rfl
 refine take_ (i:=3) (N:=some 111) (v:=?_) (a':=?_) (bA 8 15) rfl rfl (by kernel_rfl) (fun _ _ _ h=>h) (Or.inl ⟨by rfl,?_⟩) (Below.refl _ _).drew ?_ ?_
 rotate_left
 ·intro w' hS;have hcv:=conv_told (TBK.out.below hS);go_simp;with_reducible rfl
 rotate_left
 ·simp only [Act.put,aA,aB,aC];rfl
 refine pure_ (i:=4) (N:=some 112) (v:=?_) (a':=?_) (bA 8 31) rfl rfl (by kernel_rfl) (fun _ _ _ h=>h) (Or.inl ⟨by rfl,?_⟩) ?_ ?_
 rotate_left
 ·intro w';go_simp;with_reducible rfl
 rotate_left
 ·simp only [Act.put,aA,aB,aC];rfl
 refine one_ (i:=5) (N:=some 113) (bA 8 63) rfl rfl (by kernel_rfl) (by decide) (fun K hK=>?_)
 refine call_ 26 #[ev] (by rfl) rfl (by go_simp) ?_
 refine (FQ.out.call _ (Below.refl _ _).drew).mono ?_
 rintro e w3 ⟨he,hb⟩
 unfold fltC at he
 subst he
 have hb3:Below (w2).heap.size (w2) w3:=(Below.refl _ _).drew.trans hb
 refine ⟨_,rfl,hK.out _ _ hb3 (fun _=>?_)⟩
 clear hK K hb
 refine take_ (i:=6) (N:=some 114) (v:=?_) (a':=?_) (bA 8 127) rfl rfl (by kernel_rfl) (fun _ _ _ h=>h) (Or.inl ⟨by rfl,?_⟩) hb3 ?_ ?_
 rotate_left
 ·intro w' hS;have hcv:=conv_told (TBK.out.below hS);go_simp;with_reducible rfl
 rotate_left
 ·simp only [Act.put,aA,aB,aC];rfl
 refine last_ (i:=7) (N:=none) (bA 8 255) rfl rfl (by kernel_rfl) (by decide) (fun K hK=>?_)
 refine skip_ (by rfl) rfl (row_run0 39 (.tmp 4) (.tmp 114) rfl (w.heap.size+1) (TD.cells ⟨sm,sOf L,⟨#[]⟩,0,zVl,0,is,l,c,out⟩) (by rfl) (by rfl) 39 _ (Q.out.below hb3) (by kernel_rfl) rfl (td_all _)) ?_
 refine hK.out _ _ ?_
 clear hK K
 refine done_ (by kernel_rfl) ?_
 have AT3:=Lib.hid (AT.out.below hb3).to_
 have Q3:=Lib.hid (Kq.below Q.out hb3)
 clear hb3
 go_wp2_with fail
 refine bodyPost_ret (res_c39 rfl _ _ (w.heap.size+1) (TD.cells ⟨sm,sOf L,⟨#[]⟩,0,zVl,0,is,l,c,out⟩) rfl (setRow_heap _ _ _ _ _ _ Q3.out) rfl) rfl ?_
 rw [HTD.out]
 exact told_end AT3.out Q3.out (Nat.le_refl _) HB.out rfl
set_option maxHeartbeats 2000000 in
theorem told_2 (hW:Wd wI B aR aS aO T) (h:At wI w C B g T false w p f k A C) (prec d:Int) :
  Calls Tryz.prog 12 #[.pointer (some ⟨g,0,none⟩),.agg (askC 2 prec d)] w (ToldPost w B g T C ((tagF T ⟨p,f,k⟩).1,tdT (tagF T ⟨p,f,k⟩).2)):=by
 have hb:=kW_below w 2 prec d
 have HN:=Lib.hid (tag_full hW.init (h.fresh hb))
 have AT0:=Lib.hid (h.below hb).to_
 have Q0:=Lib.hid (kq_start w 2 prec d)
 have HB:=Lib.hid h.base
 have HWD:=Lib.hid hW
 obtain ⟨⟨⟨p1,f1,k1⟩,r⟩,hr⟩:∃ r,tagF T ⟨p,f,k⟩=r:=⟨_,rfl⟩
 rw [hr] at HN ⊢
 clear hr hb h hW
 unfold askC
 go_enter Tryz.func12,Tryz.ntmps12
 go_wp2_with fail
 refine HN.out.mono ?_
 clear HN
 rintro e w2 ⟨A1,C1,kv,v,ev,rfl,hr1,hpa1,his1,hres⟩
 have AT:=Lib.hid (AT0.out.call hr1 hpa1 his1)
 have Q:=Lib.hid (Q0.out.step AT0.out.rep hpa1)
 obtain ⟨sm,L,L2,is,l,c,out,hsq,ht2,hfq,htd⟩:=tag_q (HWD.out.out AT.out.low) HWD.out.ev.lt.2.2.1 hres
 obtain ⟨va,vcap,rfl⟩:=hsq.tb.len
 have hne:=hsq.ne
 have TBK:=Lib.hid hsq.tb
 have TBV:=Lib.hid ht2
 have FQ:=Lib.hid hfq
 have HTD:=Lib.hid htd
 clear hr1 hpa1 his1 AT0 Q0 hsq hfq htd hres ht2
 go_wp2_with fail
 refine start_ (n:=10) (S:=fun w'=>Below (w2).heap.size (w2) w') (ds:=[9]) (bA 10 0) (by kernel_rfl) rfl rfl (Below.refl _ _).drew (fun _=>?_)
 refine pure_ (i:=0) (N:=some 51) (v:=?_) (a':=?_) (bA 10 1) rfl rfl (by kernel_rfl) (fun _ _ _ h=>h) (Or.inl ⟨by rfl,?_⟩) ?_ ?_
 rotate_left
 ·intro w';go_simp;with_reducible rfl
 rotate_left
 ·simp only [Act.put,aA,aB,aC];rfl
 refine pure_ (i:=1) (N:=some 52) (v:=?_) (a':=?_) (bA 10 3) rfl rfl (by kernel_rfl) (fun _ _ _ h=>h) (Or.inl ⟨by rfl,?_⟩) ?_ ?_
 rotate_left
 ·intro w';go_simp;with_reducible rfl
 rotate_left
 ·simp only [Act.put,aA,aB,aC];rfl
 refine pure_ (i:=2) (N:=some 53) (v:=?_) (a':=?_) (bA 10 7) rfl rfl (by kernel_rfl) (fun _ _ _ h=>h) (Or.inl ⟨by rfl,?_⟩) ?_ ?_
 rotate_left
 ·intro w';go_simp;with_reducible rfl
 rotate_left
 ·simp only [Act.put,aA,aB,aC];rfl
 refine take_ (i:=3) (N:=some 54) (v:=?_) (a':=?_) (bA 10 15) rfl rfl (by kernel_rfl) (fun _ _ _ h=>h) (Or.inl ⟨by rfl,?_⟩) (Below.refl _ _).drew ?_ ?_
 rotate_left
 ·intro w' hS;have hcv:=conv_told (TBK.out.below hS);have hcw:=conv_told (TBV.out.below hS);go_simp;with_reducible rfl
 rotate_left
 ·simp only [Act.put,aA,aB,aC];rfl
 refine pure_ (i:=4) (N:=some 55) (v:=?_) (a':=?_) (bA 10 31) rfl rfl (by kernel_rfl) (fun _ _ _ h=>h) (Or.inl ⟨by rfl,?_⟩) ?_ ?_
 rotate_left
 ·intro w';go_simp;with_reducible rfl
 rotate_left
 ·simp only [Act.put,aA,aB,aC];rfl
 refine take_ (i:=5) (N:=some 56) (v:=?_) (a':=?_) (bA 10 63) rfl rfl (by kernel_rfl) (fun _ _ _ h=>h) (Or.inl ⟨by rfl,?_⟩) (Below.refl _ _).drew ?_ ?_
 rotate_left
 ·intro w' hS;have hcv:=conv_told (TBK.out.below hS);have hcw:=conv_told (TBV.out.below hS);go_simp;with_reducible rfl
 rotate_left
 ·simp only [Act.put,aA,aB,aC];rfl
 refine pure_ (i:=6) (N:=some 57) (v:=?_) (a':=?_) (bA 10 127) rfl rfl (by kernel_rfl) (fun _ _ _ h=>h) (Or.inl ⟨by rfl,?_⟩) ?_ ?_
 rotate_left
 ·intro w';go_simp;with_reducible rfl
 rotate_left
 ·simp only [Act.put,aA,aB,aC];rfl
 refine one_ (i:=7) (N:=some 58) (bA 10 255) rfl rfl (by kernel_rfl) (by decide) (fun K hK=>?_)
 refine call_ 26 #[ev] (by rfl) rfl (by go_simp) ?_
 refine (FQ.out.call _ (Below.refl _ _).drew).mono ?_
 rintro e w3 ⟨he,hb⟩
 unfold fltC at he
 subst he
 have hb3:Below (w2).heap.size (w2) w3:=(Below.refl _ _).drew.trans hb
 refine ⟨_,rfl,hK.out _ _ hb3 (fun _=>?_)⟩
 clear hK K hb
 refine take_ (i:=8) (N:=some 59) (v:=?_) (a':=?_) (bA 10 511) rfl rfl (by kernel_rfl) (fun _ _ _ h=>h) (Or.inl ⟨by rfl,?_⟩) hb3 ?_ ?_
 rotate_left
 ·intro w' hS;have hcv:=conv_told (TBK.out.below hS);have hcw:=conv_told (TBV.out.below hS);go_simp;with_reducible rfl
 rotate_left
 ·simp only [Act.put,aA,aB,aC];rfl
 refine last_ (i:=9) (N:=none) (bA 10 1023) rfl rfl (by kernel_rfl) (by decide) (fun K hK=>?_)
 refine skip_ (by rfl) rfl (row_run0 39 (.tmp 4) (.tmp 59) rfl (w.heap.size+1) (TD.cells ⟨sm,sOf L,sOf L2,0,zVl,0,is,l,c,out⟩) (by rfl) (by rfl) 39 _ (Q.out.below hb3) (by kernel_rfl) rfl (td_all _)) ?_
 refine hK.out _ _ ?_
 clear hK K
 refine done_ (by kernel_rfl) ?_
 have AT3:=Lib.hid (AT.out.below hb3).to_
 have Q3:=Lib.hid (Kq.below Q.out hb3)
 clear hb3
 go_wp2_with fail
 refine bodyPost_ret (res_c39 rfl _ _ (w.heap.size+1) (TD.cells ⟨sm,sOf L,sOf L2,0,zVl,0,is,l,c,out⟩) rfl (setRow_heap _ _ _ _ _ _ Q3.out) rfl) rfl ?_
 rw [HTD.out]
 exact told_end AT3.out Q3.out (Nat.le_refl _) HB.out rfl
set_option maxHeartbeats 2000000 in
theorem told_4 (hW:Wd wI B aR aS aO T) (h:At wI w C B g T false w p f k A C) (prec d:Int) :
  Calls Tryz.prog 12 #[.pointer (some ⟨g,0,none⟩),.agg (askC 4 prec d)] w (ToldPost w B g T C ((fieldF T ⟨p,f,k⟩).1,tdF (fieldF T ⟨p,f,k⟩).2)):=by
 have hb:=kW_below w 4 prec d
 have HN:=Lib.hid (field_full hW.init (h.fresh hb))
 have AT0:=Lib.hid (h.below hb).to_
 have Q0:=Lib.hid (kq_start w 4 prec d)
 have HB:=Lib.hid h.base
 have HWD:=Lib.hid hW
 obtain ⟨⟨⟨p1,f1,k1⟩,r⟩,hr⟩:∃ r,fieldF T ⟨p,f,k⟩=r:=⟨_,rfl⟩
 have HN5:=Lib.hid (fun a n b (e:r=.got (a,n,b))=>(fldF_got (T:=T) (s:=⟨p,f,k⟩) (a:=a) (n:=n) (b:=b) (by rw [hr];exact e)).1.2)
 rw [hr] at HN ⊢
 clear hr hb h hW
 unfold askC
 go_enter Tryz.func12,Tryz.ntmps12
 go_wp2_with fail
 refine HN.out.mono ?_
 clear HN
 rintro e w2 ⟨A1,C1,kv,kd,v,ev,rfl,hr1,hpa1,his1,hres⟩
 have AT:=Lib.hid (AT0.out.call hr1 hpa1 his1)
 have Q:=Lib.hid (Q0.out.step AT0.out.rep hpa1)
 obtain ⟨sm,L,n,L2,is,l,c,out,hsq,⟨rfl,hn5⟩,ht2,hfq,htd⟩:=fld_q (HWD.out.out AT.out.low) HWD.out.ev.lt.2.2.1 HN5.out hres
 obtain ⟨va,vcap,rfl⟩:=hsq.tb.len
 have hne:=hsq.ne
 have WN:IntKind.i64.wrap (n:Int)=(n:Int):=IntWalk.i64_in _ (by omega)
 have TBK:=Lib.hid hsq.tb
 have TBV:=Lib.hid ht2
 have FQ:=Lib.hid hfq
 have HTD:=Lib.hid htd
 clear hr1 hpa1 his1 AT0 Q0 hsq hfq htd hres ht2 hn5
 go_wp2_with fail
 refine start_ (n:=12) (S:=fun w'=>Below (w2).heap.size (w2) w') (ds:=[11]) (bA 12 0) (by kernel_rfl) rfl rfl (Below.refl _ _).drew (fun _=>?_)
 refine pure_ (i:=0) (N:=some 90) (v:=?_) (a':=?_) (bA 12 1) rfl rfl (by kernel_rfl) (fun _ _ _ h=>h) (Or.inl ⟨by rfl,?_⟩) ?_ ?_
 rotate_left
 ·intro w';go_simp;with_reducible rfl
 rotate_left
 ·simp only [Act.put,aA,aB,aC];rfl
 refine pure_ (i:=1) (N:=some 91) (v:=?_) (a':=?_) (bA 12 3) rfl rfl (by kernel_rfl) (fun _ _ _ h=>h) (Or.inl ⟨by rfl,?_⟩) ?_ ?_
 rotate_left
 ·intro w';go_simp;with_reducible rfl
 rotate_left
 ·simp only [Act.put,aA,aB,aC];rfl
 refine pure_ (i:=2) (N:=some 92) (v:=?_) (a':=?_) (bA 12 7) rfl rfl (by kernel_rfl) (fun _ _ _ h=>h) (Or.inl ⟨by rfl,?_⟩) ?_ ?_
 rotate_left
 ·intro w';go_simp;with_reducible rfl
 rotate_left
 ·simp only [Act.put,aA,aB,aC];rfl
 refine take_ (i:=3) (N:=some 93) (v:=?_) (a':=?_) (bA 12 15) rfl rfl (by kernel_rfl) (fun _ _ _ h=>h) (Or.inl ⟨by rfl,?_⟩) (Below.refl _ _).drew ?_ ?_
 rotate_left
 ·intro w' hS;have hcv:=conv_told (TBK.out.below hS);have hcw:=conv_told (TBV.out.below hS);go_simp;with_reducible rfl
 rotate_left
 ·simp only [Act.put,aA,aB,aC];rfl
 refine pure_ (i:=4) (N:=some 94) (v:=?_) (a':=?_) (bA 12 31) rfl rfl (by kernel_rfl) (fun _ _ _ h=>h) (Or.inl ⟨by rfl,?_⟩) ?_ ?_
 rotate_left
 ·intro w';go_simp;with_reducible rfl
 rotate_left
 ·simp only [Act.put,aA,aB,aC];rfl
 refine take_ (i:=5) (N:=some 95) (v:=?_) (a':=?_) (bA 12 63) rfl rfl (by kernel_rfl) (fun _ _ _ h=>h) (Or.inl ⟨by rfl,?_⟩) (Below.refl _ _).drew ?_ ?_
 rotate_left
 ·intro w' hS;have hcv:=conv_told (TBK.out.below hS);have hcw:=conv_told (TBV.out.below hS);go_simp;with_reducible rfl
 rotate_left
 ·simp only [Act.put,aA,aB,aC];rfl
 refine pure_ (i:=6) (N:=some 96) (v:=?_) (a':=?_) (bA 12 127) rfl rfl (by kernel_rfl) (fun _ _ _ h=>h) (Or.inl ⟨by rfl,?_⟩) ?_ ?_
 rotate_left
 ·intro w';go_simp;with_reducible rfl
 rotate_left
 ·simp only [Act.put,aA,aB,aC];rfl
 refine take_ (i:=7) (N:=some 97) (v:=?_) (a':=?_) (bA 12 255) rfl rfl (by kernel_rfl) (fun _ _ _ h=>h) (Or.inl ⟨by rfl,?_⟩) (Below.refl _ _).drew ?_ ?_
 rotate_left
 ·intro w' hS;have hcv:=conv_told (TBK.out.below hS);have hcw:=conv_told (TBV.out.below hS);go_simp;with_reducible rfl
 rotate_left
 ·simp only [Act.put,aA,aB,aC];rfl
 refine pure_ (i:=8) (N:=some 98) (v:=?_) (a':=?_) (bA 12 511) rfl rfl (by kernel_rfl) (fun _ _ _ h=>h) (Or.inl ⟨by rfl,?_⟩) ?_ ?_
 rotate_left
 ·intro w';go_simp;with_reducible rfl
 rotate_left
 ·simp only [Act.put,aA,aB,aC];rfl
 refine one_ (i:=9) (N:=some 99) (bA 12 1023) rfl rfl (by kernel_rfl) (by decide) (fun K hK=>?_)
 refine call_ 26 #[ev] (by rfl) rfl (by go_simp) ?_
 refine (FQ.out.call _ (Below.refl _ _).drew).mono ?_
 rintro e w3 ⟨he,hb⟩
 unfold fltC at he
 subst he
 have hb3:Below (w2).heap.size (w2) w3:=(Below.refl _ _).drew.trans hb
 refine ⟨_,rfl,hK.out _ _ hb3 (fun _=>?_)⟩
 clear hK K hb
 refine take_ (i:=10) (N:=some 100) (v:=?_) (a':=?_) (bA 12 2047) rfl rfl (by kernel_rfl) (fun _ _ _ h=>h) (Or.inl ⟨by rfl,?_⟩) hb3 ?_ ?_
 rotate_left
 ·intro w' hS;have hcv:=conv_told (TBK.out.below hS);have hcw:=conv_told (TBV.out.below hS);go_simp;with_reducible rfl
 rotate_left
 ·simp only [Act.put,aA,aB,aC];rfl
 refine last_ (i:=11) (N:=none) (bA 12 4095) rfl rfl (by kernel_rfl) (by decide) (fun K hK=>?_)
 refine skip_ (by rfl) rfl (row_run0 39 (.tmp 4) (.tmp 100) rfl (w.heap.size+1) (TD.cells ⟨sm,sOf L,sOf L2,n,zVl,0,is,l,c,out⟩) (by rfl) (by rfl) 39 _ (Q.out.below hb3) (by kernel_rfl) rfl (td_all _)) ?_
 refine hK.out _ _ ?_
 clear hK K
 refine done_ (by kernel_rfl) ?_
 have AT3:=Lib.hid (AT.out.below hb3).to_
 have Q3:=Lib.hid (Kq.below Q.out hb3)
 clear hb3
 go_wp2_with fail
 refine bodyPost_ret (res_c39 rfl _ _ (w.heap.size+1) (TD.cells ⟨sm,sOf L,sOf L2,n,zVl,0,is,l,c,out⟩) rfl (setRow_heap _ _ _ _ _ _ Q3.out) rfl) rfl ?_
 rw [HTD.out]
 exact told_end AT3.out Q3.out (Nat.le_refl _) HB.out rfl
end
end Go.Proofs.YtkfggfjdplnkpaaGreatDoor
end
section
namespace Go.Proofs.YtkfggfjdplnkpaaGreatDoor
open Go Go.RowKit Go.Proofs.YtkfggfjdplnkpaaGreatDoorW.PrintLast
section
variable {wI w:World} {C:Cn} {B g:Nat} {aR aS aO:Addr} {T:List UInt8} {p f k:Nat} {A:Ab}
def DtQ (w:World) (ev:Value) (n:Int) (t:TD):Prop:=∃ is l c out,Fq w ev is l c out∧(ev=.nilIface∨∃ ty v,ev=.iface ty v)∧t=⟨!is,⟨#[]⟩,⟨#[]⟩,0,zVl,n,is,l,c,out⟩
theorem dt_q {w:World} {B:Nat} {aO:Addr} {kk:Nat} {d n:Int} {ev:Value} {r:Res (List UInt8)} (hV:OutV w aO) (hlt:aO.block<B) (h:DtR w B aO kk d n ev r):DtQ w ev n (tdD kk d r):=by
 cases r with
 | flt f=>
  obtain ⟨rfl,h2⟩:=h
  have h3:=h2
  obtain ⟨q,q2,rfl,_⟩:=h3
  exact ⟨_,_,_,_,fq_flt hV hlt h2,.inr ⟨_,_,rfl⟩,rfl⟩
 | non=>
  obtain ⟨rfl,rfl⟩:=h
  exact ⟨_,_,_,_,fq_nil w,.inl rfl,rfl⟩
 | got L=>
  have h':(match tmN kk L with | .ok x=>ev=.nilIface∧n=x | .bad out=>n=0∧ErrB w B aO out ev):=h
  cases ht:tmN kk L with
  | ok x=>
   rw [ht] at h'
   obtain ⟨rfl,rfl⟩:=h'
   exact ⟨_,_,_,_,fq_nil w,.inl rfl,by unfold tdD;dsimp only;rw [ht];rfl⟩
  | bad out=>
   rw [ht] at h'
   obtain ⟨rfl,h2⟩:=h'
   have h3:=h2
   obtain ⟨q,rfl,_⟩:=h3
   exact ⟨_,_,_,_,fq_bare hV hlt h2,.inr ⟨_,_,rfl⟩,by unfold tdD;dsimp only;rw [ht];rfl⟩
set_option maxHeartbeats 2000000 in
theorem told_6 (hW:Wd wI B aR aS aO T) (h:At wI w C B g T false w p f k A C) (kk:Nat) (hk:kk≤3) (d:Int) (hd1:-9223372036854775808≤d) (hd2:d≤9223372036854775807) :
  Calls Tryz.prog 12 #[.pointer (some ⟨g,0,none⟩),.agg (askC 6 (kk:Int) d)] w (ToldPost w B g T C ((timeF T ⟨p,f,k⟩).1,tdD kk d (timeF T ⟨p,f,k⟩).2)):=by
 have hb:=kW_below w 6 (kk:Int) d
 have HN:=Lib.hid (door_spec kk hk hd1 hd2 hW.init hW.ev hW.len (h.fresh hb))
 have AT0:=Lib.hid (h.below hb).to_
 have Q0:=Lib.hid (kq_start w 6 (kk:Int) d)
 have HB:=Lib.hid h.base
 have HWD:=Lib.hid hW
 have WP:IntKind.u8.wrap (kk:Int)=(kk:Int):=IntWalk.u8_in _ (by omega)
 obtain ⟨⟨⟨p1,f1,k1⟩,r⟩,hr⟩:∃ r,timeF T ⟨p,f,k⟩=r:=⟨_,rfl⟩
 rw [hr] at HN ⊢
 clear hr hb h hW hk hd1 hd2
 unfold askC
 go_enter Tryz.func12,Tryz.ntmps12
 go_wp2_with fail
 refine HN.out.mono ?_
 clear HN WP
 rintro e w2 ⟨A1,C1,n,ev,rfl,hr1,hpa1,his1,hres⟩
 have AT:=Lib.hid (AT0.out.call hr1 hpa1 his1)
 have Q:=Lib.hid (Q0.out.step AT0.out.rep hpa1)
 obtain ⟨is,l,c,out,hfq,hev,htd⟩:=dt_q (HWD.out.out AT.out.low) HWD.out.ev.lt.2.2.1 hres
 have FQ:=Lib.hid hfq
 have HTD:=Lib.hid htd
 clear hr1 hpa1 his1 AT0 Q0 hfq htd hres
 rcases hev with rfl | ⟨ty,v,rfl⟩
 ·skip
  have heq:=FQ.out.eq
  go_wp2_with fail
  refine start_ (n:=7) (S:=fun w'=>Below (w2).heap.size (w2) w') (ds:=[6]) (bA 7 0) (by kernel_rfl) rfl rfl (Below.refl _ _).drew (fun _=>?_)
  refine pure_ (i:=0) (N:=some 127) (v:=?_) (a':=?_) (bA 7 1) rfl rfl (by kernel_rfl) (fun _ _ _ h=>h) (Or.inl ⟨by rfl,?_⟩) ?_ ?_
  rotate_left
  ·intro w';go_simp;with_reducible rfl
  rotate_left
  ·simp only [Act.put,aA,aB,aC];rfl
  refine pure_ (i:=1) (N:=some 128) (v:=?_) (a':=?_) (bA 7 3) rfl rfl (by kernel_rfl) (fun _ _ _ h=>h) (Or.inl ⟨by rfl,?_⟩) ?_ ?_
  rotate_left
  ·intro w';go_simp;with_reducible rfl
  rotate_left
  ·simp only [Act.put,aA,aB,aC];rfl
  refine pure_ (i:=2) (N:=some 129) (v:=?_) (a':=?_) (bA 7 7) rfl rfl (by kernel_rfl) (fun _ _ _ h=>h) (Or.inl ⟨by rfl,?_⟩) ?_ ?_
  rotate_left
  ·intro w';go_simp;with_reducible rfl
  rotate_left
  ·simp only [Act.put,aA,aB,aC];rfl
  refine pure_ (i:=3) (N:=some 130) (v:=?_) (a':=?_) (bA 7 15) rfl rfl (by kernel_rfl) (fun _ _ _ h=>h) (Or.inl ⟨by rfl,?_⟩) ?_ ?_
  rotate_left
  ·intro w';go_simp;with_reducible rfl
  rotate_left
  ·simp only [Act.put,aA,aB,aC];rfl
  refine one_ (i:=4) (N:=some 131) (bA 7 31) rfl rfl (by kernel_rfl) (by decide) (fun K hK=>?_)
  refine call_ 26 #[.nilIface] (by rfl) rfl (by go_simp) ?_
  refine (FQ.out.call _ (Below.refl _ _).drew).mono ?_
  rintro e w3 ⟨he,hb⟩
  unfold fltC at he
  subst he
  have hb3:Below (w2).heap.size (w2) w3:=(Below.refl _ _).drew.trans hb
  refine ⟨_,rfl,hK.out _ _ hb3 (fun _=>?_)⟩
  clear hK K hb
  refine take_ (i:=5) (N:=some 132) (v:=?_) (a':=?_) (bA 7 63) rfl rfl (by kernel_rfl) (fun _ _ _ h=>h) (Or.inl ⟨by rfl,?_⟩) hb3 ?_ ?_
  rotate_left
  ·intro w' hS;go_simp;with_reducible rfl
  rotate_left
  ·simp only [Act.put,aA,aB,aC];rfl
  refine last_ (i:=6) (N:=none) (bA 7 127) rfl rfl (by kernel_rfl) (by decide) (fun K hK=>?_)
  refine skip_ (by rfl) rfl (row_run0 39 (.tmp 4) (.tmp 132) rfl (w.heap.size+1) (TD.cells ⟨!is,⟨#[]⟩,⟨#[]⟩,0,zVl,n,is,l,c,out⟩) (by rfl) (by rfl) 39 _ (Q.out.below hb3) (by kernel_rfl) rfl (td_all _)) ?_
  refine hK.out _ _ ?_
  clear hK K
  refine done_ (by kernel_rfl) ?_
  have AT3:=Lib.hid (AT.out.below hb3).to_
  have Q3:=Lib.hid (Kq.below Q.out hb3)
  clear hb3
  go_wp2_with fail
  refine bodyPost_ret (res_c39 rfl _ _ (w.heap.size+1) (TD.cells ⟨!is,⟨#[]⟩,⟨#[]⟩,0,zVl,n,is,l,c,out⟩) rfl (setRow_heap _ _ _ _ _ _ Q3.out) rfl) rfl ?_
  rw [HTD.out]
  exact told_end AT3.out Q3.out (Nat.le_refl _) HB.out rfl
 ·skip
  have heq:=FQ.out.eq
  go_wp2_with fail
  refine start_ (n:=7) (S:=fun w'=>Below (w2).heap.size (w2) w') (ds:=[6]) (bA 7 0) (by kernel_rfl) rfl rfl (Below.refl _ _).drew (fun _=>?_)
  refine pure_ (i:=0) (N:=some 127) (v:=?_) (a':=?_) (bA 7 1) rfl rfl (by kernel_rfl) (fun _ _ _ h=>h) (Or.inl ⟨by rfl,?_⟩) ?_ ?_
  rotate_left
  ·intro w';go_simp;with_reducible rfl
  rotate_left
  ·simp only [Act.put,aA,aB,aC];rfl
  refine pure_ (i:=1) (N:=some 128) (v:=?_) (a':=?_) (bA 7 3) rfl rfl (by kernel_rfl) (fun _ _ _ h=>h) (Or.inl ⟨by rfl,?_⟩) ?_ ?_
  rotate_left
  ·intro w';go_simp;with_reducible rfl
  rotate_left
  ·simp only [Act.put,aA,aB,aC];rfl
  refine pure_ (i:=2) (N:=some 129) (v:=?_) (a':=?_) (bA 7 7) rfl rfl (by kernel_rfl) (fun _ _ _ h=>h) (Or.inl ⟨by rfl,?_⟩) ?_ ?_
  rotate_left
  ·intro w';go_simp;with_reducible rfl
  rotate_left
  ·simp only [Act.put,aA,aB,aC];rfl
  refine pure_ (i:=3) (N:=some 130) (v:=?_) (a':=?_) (bA 7 15) rfl rfl (by kernel_rfl) (fun _ _ _ h=>h) (Or.inl ⟨by rfl,?_⟩) ?_ ?_
  rotate_left
  ·intro w';go_simp;with_reducible rfl
  rotate_left
  ·simp only [Act.put,aA,aB,aC];rfl
  refine one_ (i:=4) (N:=some 131) (bA 7 31) rfl rfl (by kernel_rfl) (by decide) (fun K hK=>?_)
  refine call_ 26 #[.iface ty v] (by rfl) rfl (by go_simp) ?_
  refine (FQ.out.call _ (Below.refl _ _).drew).mono ?_
  rintro e w3 ⟨he,hb⟩
  unfold fltC at he
  subst he
  have hb3:Below (w2).heap.size (w2) w3:=(Below.refl _ _).drew.trans hb
  refine ⟨_,rfl,hK.out _ _ hb3 (fun _=>?_)⟩
  clear hK K hb
  refine take_ (i:=5) (N:=some 132) (v:=?_) (a':=?_) (bA 7 63) rfl rfl (by kernel_rfl) (fun _ _ _ h=>h) (Or.inl ⟨by rfl,?_⟩) hb3 ?_ ?_
  rotate_left
  ·intro w' hS;go_simp;with_reducible rfl
  rotate_left
  ·simp only [Act.put,aA,aB,aC];rfl
  refine last_ (i:=6) (N:=none) (bA 7 127) rfl rfl (by kernel_rfl) (by decide) (fun K hK=>?_)
  refine skip_ (by rfl) rfl (row_run0 39 (.tmp 4) (.tmp 132) rfl (w.heap.size+1) (TD.cells ⟨!is,⟨#[]⟩,⟨#[]⟩,0,zVl,n,is,l,c,out⟩) (by rfl) (by rfl) 39 _ (Q.out.below hb3) (by kernel_rfl) rfl (td_all _)) ?_
  refine hK.out _ _ ?_
  clear hK K
  refine done_ (by kernel_rfl) ?_
  have AT3:=Lib.hid (AT.out.below hb3).to_
  have Q3:=Lib.hid (Kq.below Q.out hb3)
  clear hb3
  go_wp2_with fail
  refine bodyPost_ret (res_c39 rfl _ _ (w.heap.size+1) (TD.cells ⟨!is,⟨#[]⟩,⟨#[]⟩,0,zVl,n,is,l,c,out⟩) rfl (setRow_heap _ _ _ _ _ _ Q3.out) rfl) rfl ?_
  rw [HTD.out]
  exact told_end AT3.out Q3.out (Nat.le_refl _) HB.out rfl
end
end Go.Proofs.YtkfggfjdplnkpaaGreatDoor
end
section
namespace Go.Proofs.YtkfggfjdplnkpaaGreatDoor
open Go Go.RowKit Go.Proofs.YtkfggfjdplnkpaaGreatDoorW.PrintLast
section
variable {wI w:World} {C:Cn} {B g:Nat} {aR aS aO:Addr} {T:List UInt8} {p f k:Nat} {A:Ab}
def tdK (sm:Bool) (L:List UInt8) (v:Vl) (is:Bool) (l c:Int) (out:Bool):TD:=⟨sm,sOf L,⟨#[]⟩,0,v,0,is,l,c,out⟩
theorem wpList_store_val {ops:Array Oper} {rest:List Oper} {o:Oper} {a:Act} {w:World} {Q:Exit→Act→World→Prop} (hgd:o.guard=none) (x y:Operand) (ho:o.op=.store 35 x y)
  (q:Nat) (v:Vl) (hx:a.eval x=.pointer (some ⟨q,4,none⟩)) (hy:a.eval y=.agg v.cells) (sm:Bool) (L:List UInt8) (is:Bool) (l c:Int) (out:Bool)
  (hg:w.heap[q]?=some (.cells (tdK sm L zVl is l c out).cells 39 (0,0)))
  (h:wpList Tryz.prog ops Q rest (a.put o.dst undef) (w.setRow q (tdK sm L v is l c out).cells)):wpList Tryz.prog ops Q (o::rest) a w:=
 wpList_plain hgd fun K hK=>by
  have hrun:=run_storeCells_at (P:=Tryz.prog) q 4 39 v.cells.toList 0 _ w hg (by show 4+0+6≤15;omega) (fun x hx=>(Array.all_eq_true_iff_forall_mem.1 (vl_all v)) x (by simpa using hx))
  unfold Oper.wp execOp
  obtain ⟨i,hi⟩:∃ i,Tryz.prog.info? 35=some i:=Option.isSome_iff_exists.1 (by kernel_rfl)
  have hs:i.size=6:=by
   have:(Tryz.prog.info? 35).map (·.size)=some 6:=by kernel_rfl
   rw [hi] at this;simpa using this
  have hst:(storeVar 35 ⟨q,4,none⟩ (.agg v.cells)).run Tryz.prog w=.ok () (w.setRow q (tdK sm L v is l c out).cells):=by
   have h6:v.cells.size=i.size:=by rw [hs];rfl
   simp [storeVar,sizeOf,typeInfo,hi,Value.cells,h6,hrun]
   rw [hs]
   rfl
  simp only [ho,hx,hy,Instr.storeAt,Instr.sureAddr,Sem.run_bind,Sem.run_pure,Result.andThen_ok,hst]
  exact hK _ _ h
set_option maxHeartbeats 4000000 in
theorem told_3 (hW:Wd wI B aR aS aO T) (h:At wI w C B g T false w p f k A C) (prec d:Int) :
  Calls Tryz.prog 12 #[.pointer (some ⟨g,0,none⟩),.agg (askC 3 prec d)] w (ToldPost w B g T C ((valF T ⟨p,f,k⟩).1,tdV (valF T ⟨p,f,k⟩).2)):=by
 have hb:=kW_below w 3 prec d
 have HN:=Lib.hid (nf_spec hW.init hW.tabs hW.ev hW.len (h.fresh hb))
 have AT0:=Lib.hid (h.below hb).to_
 have Q0:=Lib.hid (kq_start w 3 prec d)
 have HB:=Lib.hid h.base
 have HWD:=Lib.hid hW
 obtain ⟨⟨⟨p1,f1,k1⟩,r⟩,hr⟩:∃ r,valF T ⟨p,f,k⟩=r:=⟨_,rfl⟩
 rw [hr] at HN ⊢
 clear hr hb h hW
 unfold askC
 go_enter Tryz.func12,Tryz.ntmps12
 go_wp2_with fail
 refine HN.out.mono ?_
 clear HN
 rintro e w2 ⟨A1,C1,kv,vv,ev,rfl,hr1,hpa1,his1,hres⟩
 have AT:=Lib.hid (AT0.out.call hr1 hpa1 his1)
 have Q:=Lib.hid (Q0.out.step AT0.out.rep hpa1)
 obtain ⟨sm,L,num,va,vl,vc,kd,L2,is,ln,cn,out,hsq,rfl,hval,hfq,htd⟩:=val_q (HWD.out.out AT.out.low) HWD.out.ev.lt.2.2.1 hres
 obtain ⟨ka,kcap,rfl⟩:=hsq.tb.len
 have hne:=hsq.ne
 have hb2:=vbox_below w2 num va vl vc kd
 have TBK:=Lib.hid (hsq.tb.below hb2)
 have HVAL:=Lib.hid hval
 have FQ0:=Lib.hid hfq
 have HTD:=Lib.hid htd
 have VB:=Lib.hid (Vb.start w2 num va vl vc kd)
 have AT1:=Lib.hid (AT.out.below hb2).to_
 have Q1:=Lib.hid (Kq.below Q.out hb2)
 have FQ:=Lib.hid (fun W2 (hb:Below (vbox w2 num va vl vc kd).heap.size (vbox w2 num va vl vc kd) W2)=>hfq.call W2 (hb2.trans (hb.mono hb2.size)))
 obtain ⟨W,hWW⟩:∃ W,vbox w2 num va vl vc kd=W:=⟨_,rfl⟩
 rw [hWW] at TBK VB AT1 Q1 FQ
 have HWW:=Lib.hid hWW
 clear hr1 hpa1 his1 AT0 Q0 hsq hfq htd hres hval hb2 hWW FQ0
 go_upto_region 12 with fail
 show Code.wp Tryz.prog _ _ _ (vbox w2 num va vl vc kd)
 rw [HWW.out]
 refine start_ (n:=9) (S:=fun w'=>Below (W).heap.size (W) w') (ds:=[8]) (bA 9 0) (by kernel_rfl) rfl rfl (Below.refl _ _).drew (fun _=>?_)
 refine pure_ (i:=0) (N:=some 68) (v:=?_) (a':=?_) (bA 9 1) rfl rfl (by kernel_rfl) (fun _ _ _ h=>h) (Or.inl ⟨by rfl,?_⟩) ?_ ?_
 rotate_left
 ·intro w';go_simp;with_reducible rfl
 rotate_left
 ·simp only [Act.put,aA,aB,aC];rfl
 refine pure_ (i:=1) (N:=some 69) (v:=?_) (a':=?_) (bA 9 3) rfl rfl (by kernel_rfl) (fun _ _ _ h=>h) (Or.inl ⟨by rfl,?_⟩) ?_ ?_
 rotate_left
 ·intro w';go_simp;with_reducible rfl
 rotate_left
 ·simp only [Act.put,aA,aB,aC];rfl
 refine pure_ (i:=2) (N:=some 70) (v:=?_) (a':=?_) (bA 9 7) rfl rfl (by kernel_rfl) (fun _ _ _ h=>h) (Or.inl ⟨by rfl,?_⟩) ?_ ?_
 rotate_left
 ·intro w';go_simp;with_reducible rfl
 rotate_left
 ·simp only [Act.put,aA,aB,aC];rfl
 refine take_ (i:=3) (N:=some 71) (v:=?_) (a':=?_) (bA 9 15) rfl rfl (by kernel_rfl) (fun _ _ _ h=>h) (Or.inl ⟨by rfl,?_⟩) (Below.refl _ _).drew ?_ ?_
 rotate_left
 ·intro w' hS;have hcv:=conv_told (TBK.out.below hS);go_simp;with_reducible rfl
 rotate_left
 ·simp only [Act.put,aA,aB,aC];rfl
 refine pure_ (i:=4) (N:=some 72) (v:=?_) (a':=?_) (bA 9 31) rfl rfl (by kernel_rfl) (fun _ _ _ h=>h) (Or.inl ⟨by rfl,?_⟩) ?_ ?_
 rotate_left
 ·intro w';go_simp;with_reducible rfl
 rotate_left
 ·simp only [Act.put,aA,aB,aC];rfl
 refine join_ (σ:=Nat) 1 (bA 9 255) (fun q=>[(73,.agg #[.bool is,.int .i64 ln,.int .i64 cn,.bool out]),(74,(.agg (tdK sm L zVl is ln cn out).cells)),(13,.pointer (some ⟨q,0,none⟩))]) (fun q w'=>Below W.heap.size W w'∧w'.heap[q]?=some (.cells zTD.cells 39 (0,0))∧W.heap.size≤q) ?_ ?_
 rotate_left
 ·intro HC
  have HCC:=Lib.hid HC
  clear HC
  refine two_ (i:=5) (j:=7) (Ni:=some 73) (Nj:=some 13) #[true,true,true,true,true,true,false,false,false] (bA 9 159) rfl rfl rfl rfl (by kernel_rfl) (by decide) (by decide) (fun K hK=>?_) (fun K hK=>?_)
  ·refine call_ 26 #[ev] (by rfl) rfl (by go_simp) ?_
   refine (FQ.out _ (Below.refl _ _).drew).mono ?_
   rintro e w3 ⟨he,hb⟩
   unfold fltC at he
   subst he
   have hb3:Below W.heap.size W w3:=(Below.refl _ _).drew.trans hb
   refine ⟨_,rfl,hK.out _ _ hb3 (fun _=>?_)⟩
   clear hK K hb
   refine take_ (i:=6) (N:=some 74) (v:=?_) (a':=?_) (bA 9 127) rfl rfl (by kernel_rfl) (fun _ _ _ h=>h) (Or.inl ⟨by rfl,?_⟩) hb3 ?_ ?_
   rotate_left
   ·intro w' hS;go_simp;with_reducible rfl
   rotate_left
   ·simp only [Act.put,aA,aB,aC];rfl
   refine one_ (i:=7) (N:=some 13) (bA 9 255) rfl rfl (by kernel_rfl) (by decide) (fun K hK=>?_)
   refine value_ (v:=.pointer (some ⟨w3.heap.size,0,none⟩)) (w1:=w3.alloc (.cells zTD.cells 39)) (by rfl) rfl (by go_simp;rfl) ?_
   refine hK.out _ _ (hb3.alloc hb3.size _) (fun _=>?_)
   exact HCC.out w3.heap.size _ ⟨hb3.alloc hb3.size _,heap_alloc_new _ _,hb3.size⟩
  ·refine value_ (v:=.pointer (some ⟨W.drew.heap.size,0,none⟩)) (w1:=W.drew.alloc (.cells zTD.cells 39)) (by rfl) rfl (by go_simp;rfl) ?_
   have hb0:Below W.heap.size W (W.drew.alloc (.cells zTD.cells 39)):=((Below.refl _ _).drew).alloc (Nat.le_refl _) _
   refine hK.out _ _ hb0 (fun _=>?_)
   clear hK K
   refine one_ (i:=5) (N:=some 73) (bA 9 191) rfl rfl (by kernel_rfl) (by decide) (fun K hK=>?_)
   refine call_ 26 #[ev] (by rfl) rfl (by go_simp) ?_
   refine (FQ.out _ hb0).mono ?_
   rintro e w3 ⟨he,hb⟩
   unfold fltC at he
   subst he
   have hb3:Below W.heap.size W w3:=hb0.trans (hb.mono hb0.size)
   refine ⟨_,rfl,hK.out _ _ hb3 (fun _=>?_)⟩
   clear hK K
   refine take_ (i:=6) (N:=some 74) (v:=?_) (a':=?_) (bA 9 255) rfl rfl (by kernel_rfl) (fun _ _ _ h=>h) (Or.inl ⟨by rfl,?_⟩) hb3 ?_ ?_
   rotate_left
   ·intro w' hS;go_simp;with_reducible rfl
   rotate_left
   ·simp only [Act.put,aA,aB,aC];rfl
   exact HCC.out W.drew.heap.size _ ⟨hb3,(hb.block _ (by show W.heap.size<(W.heap.push _).size;rw [Array.size_push];omega)).trans (heap_alloc_new _ _),Nat.le_refl _⟩
 ·rintro q W2 ⟨hb3,hq,hle⟩
  have HB3:=Lib.hid hb3
  have HQ:=Lib.hid hq
  have HLE:=Lib.hid hle
  clear hb3 hq hle
  refine norm_ (a':=?_) ?_ ?_
  rotate_left
  ·simp only [putAll,Act.put,List.setIfInBounds_toArray,List.set_cons_zero,List.set_cons_succ];rfl
  refine last_ (i:=8) (N:=none) (bA 9 511) rfl rfl (by kernel_rfl) (by decide) (fun K hK=>?_)
  refine skip_ (by rfl) rfl (row_run0 39 (.tmp 13) (.tmp 74) rfl q (tdK sm L zVl is ln cn out).cells (by rfl) (by rfl) 39 _ HQ.out (by kernel_rfl) rfl (td_all _)) ?_
  refine hK.out _ _ ?_
  clear hK K
  refine done_ (by kernel_rfl) ?_
  have hne4:w.heap.size+1≠q:=by have:=blk_lt Q1.out;have:=HLE.out;omega
  obtain ⟨W3,hW3⟩:∃ W3,W2.setRow q (tdK sm L zVl is ln cn out).cells=W3:=⟨_,rfl⟩
  have hb3:Below W.heap.size W W3:=by rw [←hW3];exact HB3.out.trans ⟨rfl,rfl,rfl,by simp [World.setRow],fun k hk=>setRow_other _ _ _ _ (by have:=HLE.out;omega)⟩
  have hq3:W3.heap[q]?=some (.cells (tdK sm L zVl is ln cn out).cells 39 (0,0)):=by rw [←hW3];exact setRow_heap _ _ _ _ _ _ HQ.out
  rw [hW3]
  have HB4:=Lib.hid hb3
  have HQ3:=Lib.hid hq3
  have Q3:Hid (W3.heap[w.heap.size+1]?=some (.cells zTD.cells 39 (0,0))):=Lib.hid (Kq.below Q1.out hb3)
  have AT3:=Lib.hid (AT1.out.below hb3).to_
  have hvb:=VB.out.below hb3
  obtain ⟨c0,c1,c2⟩:=hvb.facts
  have HVB:=Lib.hid hvb
  clear hb3 hq3 hW3 HQ HB3 hvb
  cases sm with
  | false=>
   clear c0 c1 c2
   go_wp2_with (first | (with_reducible refine wpList_load_row rfl 39 (.tmp 13) rfl q rfl 39 (tdK false L zVl is ln cn out).cells (0,0) _ HQ3.out Tryz.underlying39 rfl (by kernel_rfl) ?_) | (with_reducible refine wpList_store_row rfl 39 (.tmp 4) (.tmp 80) rfl (w.heap.size+1) (tdK false L zVl is ln cn out).cells rfl rfl 39 zTD.cells Q3.out (by kernel_rfl) rfl (td_all _) ?_))
   refine bodyPost_ret (res_c39 rfl _ _ (w.heap.size+1) (tdK false L zVl is ln cn out).cells rfl (setRow_heap _ _ _ _ _ _ Q3.out) rfl) rfl ?_
   rw [HTD.out]
   exact told_end AT3.out Q3.out (Nat.le_refl _) HB.out rfl
  | true=>
   have HPL:=Lib.hid (plain_spec (L:=L2) (w:=W3) (n:=num) (a:=va) (l:=vl) (c:=vc) (k:=kd) (HVAL.out rfl).1 (fun e=>((HVAL.out rfl).2 e).below HVB.out.b))
   clear HVB
   go_wp2_with fail
   refine HPL.out.mono ?_
   clear HPL c0 c1 c2
   rintro e W4 ⟨rfl,hb5⟩
   have hb6:Below W.heap.size W (W4.setRow q (tdK true L (plOf num kd L2) is ln cn out).cells):=(HB4.out.trans (hb5.mono HB4.out.size)).trans ⟨rfl,rfl,rfl,by simp [World.setRow],fun k hk=>setRow_other _ _ _ _ (by have:=HLE.out;omega)⟩
   have HQ4:Hid (W4.heap[q]?=some (.cells (tdK true L zVl is ln cn out).cells 39 (0,0))):=Lib.hid ((hb5.block _ (blk_lt HQ3.out)).trans HQ3.out)
   have HQ5:Hid ((W4.setRow q (tdK true L (plOf num kd L2) is ln cn out).cells).heap[q]?=some (.cells (tdK true L (plOf num kd L2) is ln cn out).cells 39 (0,0))):=Lib.hid (setRow_heap _ _ _ _ _ _ HQ4.out)
   have Q5:Hid ((W4.setRow q (tdK true L (plOf num kd L2) is ln cn out).cells).heap[w.heap.size+1]?=some (.cells zTD.cells 39 (0,0))):=Lib.hid ((setRow_other _ _ _ _ hne4).trans ((hb5.block _ (blk_lt Q3.out)).trans Q3.out))
   have AT5:=Lib.hid (AT1.out.below hb6).to_
   clear hb5 hb6 hne4
   go_wp2_with (first | (with_reducible refine wpList_store_val rfl (.tmp 79) (.tmp 78) rfl q (plOf num kd L2) rfl rfl true L is ln cn out HQ4.out ?_) | (with_reducible refine wpList_load_row rfl 39 (.tmp 13) rfl q rfl 39 (tdK true L (plOf num kd L2) is ln cn out).cells (0,0) _ HQ5.out Tryz.underlying39 rfl (by kernel_rfl) ?_) | (with_reducible refine wpList_store_row rfl 39 (.tmp 4) (.tmp 80) rfl (w.heap.size+1) (tdK true L (plOf num kd L2) is ln cn out).cells rfl rfl 39 zTD.cells Q5.out (by kernel_rfl) rfl (td_all _) ?_))
   refine bodyPost_ret (res_c39 rfl _ _ (w.heap.size+1) (tdK true L (plOf num kd L2) is ln cn out).cells rfl (setRow_heap _ _ _ _ _ _ Q5.out) rfl) rfl ?_
   rw [HTD.out]
   exact told_end AT5.out Q5.out (Nat.le_refl _) HB.out rfl
end
end Go.Proofs.YtkfggfjdplnkpaaGreatDoor
end
section
namespace Go.Proofs.YtkfggfjdplnkpaaGreatDoor
open Go Go.RowKit
theorem idle_17 (a b c:Value) (w:World):CallsD Tryz.prog 17 #[a,b,c] .returning w fun e u' w'=>e=.returned (.tuple #[])∧u'=.returning∧w'=w:=by
 refine callsD_of_wpS Tryz.func17 rfl fun c₀ cs hu=>?_
 apply wpS_seq
 apply wpS_region
 simp [wpOpsS,go_sem,recoverD,hu,Tryz.ntmps17,Exit.thenS]
 refine wpS_cond (t:=false) (by simp [Act.eval,Array.replicate]) ?_
 simp only [Bool.false_eq_true,if_false]
 refine wpS_of_wp (wp_skip ?_)
 cases c₀
 simp_all [bodyPostS,results,Tryz.results17]
theorem idle_10 (a b c:Value) (w:World):CallsD Tryz.prog 10 #[a,b,c] .returning w fun e u' w'=>e=.returned (.tuple #[])∧u'=.returning∧w'=w:=by
 refine callsD_of_wpS Tryz.func10 rfl fun c₀ cs hu=>?_
 apply wpS_seq
 apply wpS_region
 simp [wpOpsS,go_sem,recoverD,hu,Tryz.ntmps10,Exit.thenS]
 refine wpS_cond (t:=false) (by simp [Act.eval,Array.replicate]) ?_
 simp only [Bool.false_eq_true,if_false]
 refine wpS_of_wp (wp_skip ?_)
 cases c₀
 simp_all [bodyPostS,results,Tryz.results10]
def NvQ (w:World) (aO:Addr) (va:Option Addr) (vl vc:Nat):NV→Ending→World→Prop
 | .good n st k,e,w'=>∃ xa xl xc,stV st (.slice va vl vc)=.slice xa xl xc∧e=.returned (.tuple #[.agg #[.int .u64 n,.slice xa xl xc,.int .u8 (k:Int)],.nilIface])∧Below w.heap.size w w'
 | .bad out,e,w'=>∃ q:Addr,e=.returned (.tuple #[.agg #[.int .u64 0,.slice none 0 0,.int .u8 0],.iface 167 (.pointer (some q))])∧Below w.heap.size w w'∧(out=true→q=aO)∧(out=false→w.heap.size≤q.block∧∃ cs,w'.heap[q.block]?=some (.cells cs 169 (0,0)))
theorem nvq_of {w w':World} {aO:Addr} {vl vc:Nat} {va:Option Addr} {r:NV} {e:Ending} (h:NvPost w aO (.slice va vl vc) r e w'):NvQ w aO va vl vc r e w':=by
 cases r with
 | good n st k=>exact h.good_
 | bad out=>
  obtain ⟨ev,h1,h2,q,rfl,h3,h4,_⟩:=h
  exact ⟨q,h1,h2,h3,fun e=>⟨(h4 e).1,(h4 e).2.2⟩⟩
set_option maxHeartbeats 1000000 in
theorem nvb_spec {w:World} {aO:Addr} {vl vc k:Nat} {va:Option Addr} {r:NV}
  (h:Calls Tryz.prog 40 #[.int .u8 (k:Int),.slice va vl vc,.bool true] (w.alloc (.cells #[.int .u64 0,.slice none 0 0,.int .u8 0] 57)) (NvPost (w.alloc (.cells #[.int .u64 0,.slice none 0 0,.int .u8 0] 57)) aO (.slice va vl vc) r)) :
  Calls Tryz.prog 18 #[.int .u8 (k:Int),.slice va vl vc] w (NvQ w aO va vl vc r):=by
 have hb0:=(Below.refl w.heap.size w).alloc (Nat.le_refl _) (.cells #[.int .u64 0,.slice none 0 0,.int .u8 0] 57)
 have hq0:Vq (w.alloc (.cells #[.int .u64 0,.slice none 0 0,.int .u8 0] 57)) w.heap.size:=⟨heap_alloc_new _ _⟩
 have H:=Lib.hid h
 have HB0:=Lib.hid hb0
 have HQ0:=Lib.hid hq0
 clear h hb0 hq0
 go_enter Tryz.func18,Tryz.ntmps18
 go_wp2_with fail
 refine H.out.mono ?_
 clear H
 intro e w2 hp
 have hp2:=nvq_of hp
 clear hp
 cases r with
 | good n st kd=>
  obtain ⟨xa,xl,xc,hst,rfl,hb⟩:=hp2
  have HS:=Lib.hid hst
  have Q:=Lib.hid (HQ0.out.below hb)
  have HB:=Lib.hid (HB0.out.trans (hb.mono HB0.out.size))
  clear hst hb HQ0 HB0
  obtain ⟨v1,v2,v3,v4,v5,v6⟩:=Q.out.facts
  go_wp2_with fail
  refine bodyPost_ret (res_ct rfl _ _ w.heap.size 57 #[.int .u64 n,.slice xa xl xc,.int .u8 (kd:Int)] (0,0) rfl (Q.out.put _ _ _) Tryz.underlying57 (by kernel_rfl)) rfl ?_
  exact ⟨xa,xl,xc,HS.out,rfl,((HB.out.setCell (Nat.le_refl _) _).setCell (Nat.le_refl _) _).setCell (Nat.le_refl _) _⟩
 | bad out=>
  obtain ⟨q,rfl,hb,h1,h2⟩:=hp2
  have H1:=Lib.hid h1
  have H2:=Lib.hid h2
  have Q:=Lib.hid (HQ0.out.below hb)
  have HB:=Lib.hid (HB0.out.trans (hb.mono HB0.out.size))
  have HL:=Lib.hid HB0.out.size
  clear h1 h2 hb HQ0 HB0
  obtain ⟨v1,v2,v3,v4,v5,v6⟩:=Q.out.facts
  go_wp2_with fail
  refine bodyPost_ret (res_ct rfl _ _ w.heap.size 57 #[.int .u64 0,.slice none 0 0,.int .u8 0] (0,0) rfl (Q.out.put _ _ _) Tryz.underlying57 (by kernel_rfl)) rfl ?_
  refine ⟨q,rfl,((HB.out.setCell (Nat.le_refl _) _).setCell (Nat.le_refl _) _).setCell (Nat.le_refl _) _,H1.out,fun e=>?_⟩
  obtain ⟨h3,cs,h4⟩:=H2.out e
  exact ⟨Nat.le_trans HL.out h3,cs,(put_other _ _ _ (blk_type h4 Q.out.blk (by decide))).trans h4⟩
end Go.Proofs.YtkfggfjdplnkpaaGreatDoor
end
section
namespace Go.Proofs.YtkfggfjdplnkpaaGreatDoor
open Go Go.RowKit
def okA (o p d:Int):Prop:=0≤o∧o≤6∧(o=6→0≤p∧p≤3∧-9223372035854775808≤d)
structure CallsAt (w:World) (a:Option Addr) (n:Nat) (O P D:Nat→Int):Prop where
 cells:∀ j,j<n→∃ b o,a=some ⟨b,o,none⟩∧b<w.heap.size∧w.cell? ⟨b,o+j*3,none⟩=some (.int .i64 (O j))∧w.cell? ⟨b,o+j*3+1,none⟩=some (.int .i64 (P j))∧w.cell? ⟨b,o+j*3+2,none⟩=some (.int .i64 (D j))
theorem CallsAt.keep {w w':World} {a:Option Addr} {n:Nat} {O P D:Nat→Int} (h:CallsAt w a n O P D) (hs:w.heap.size≤w'.heap.size) (hb:∀ b o,a=some ⟨b,o,none⟩→b<w.heap.size→w'.heap[b]?=w.heap[b]?):CallsAt w' a n O P D:=
 ⟨fun j hj=>by
  obtain ⟨b,o,h1,h2,h3,h4,h5⟩:=h.cells j hj
  have e:=hb b o h1 h2
  exact ⟨b,o,h1,by omega,(World.cell?_of_block (a:=⟨b,o+j*3,none⟩) e).trans h3,(World.cell?_of_block (a:=⟨b,o+j*3+1,none⟩) e).trans h4,(World.cell?_of_block (a:=⟨b,o+j*3+2,none⟩) e).trans h5⟩⟩
theorem CallsAt.below {w w':World} {a:Option Addr} {n:Nat} {O P D:Nat→Int} (h:CallsAt w a n O P D) (hb:Below w.heap.size w w'):CallsAt w' a n O P D:=
 h.keep hb.size fun b _ _ hl=>hb.block b hl
def AsdPost (w:World) (t:ByteArray) (sn n:Nat) (O P D:Nat→Int) (e:Ending) (w':World):Prop:=
 ∃ b,e=.returned (.bool b)∧Below w.heap.size w w'∧(b=true→t.size≤800∧sn≤100∧n≤200∧∀ j,j<n→okA (O j) (P j) (D j))
theorem asd_false {w w':World} {t:ByteArray} {sn n:Nat} {O P D:Nat→Int} (h:Below w.heap.size w w'):AsdPost w t sn n O P D (.returned (.bool false)) w':=⟨false,rfl,h,fun h=>by cases h⟩
set_option maxHeartbeats 4000000 in
theorem asd_spec {w:World} {t:ByteArray} {sa ca:Option Addr} {sn sc n cc:Nat} {O P D:Nat→Int} (hn:n≤100000000) (hcap:n≤cc) (hC:CallsAt w ca n O P D) :
  Calls Tryz.prog 5 #[.string t,.slice sa sn sc,.slice ca n cc] w (AsdPost w t sn n O P D):=by
 have HC:=Lib.hid hC
 have HN:=Lib.hid (And.intro hn hcap)
 clear hC hn hcap
 go_enter Tryz.func5,Tryz.ntmps5
 go_wp2_with fail
 go_loopg [11] n (fun mq v11 wr=>∃ (i:Nat) (x:Int),v11=.int .i64 x∧x=(i:Int)∧i+mq=n∧Below w.heap.size w wr∧∀ j,j<i→okA (O j) (P j) (D j))
 case atStart=>exact ⟨0,0,rfl,rfl,by omega,Below.refl _ _,fun j hj=>by omega⟩
 case round=>
  obtain ⟨i,x,rfl,hx,hm,hb,hok⟩:=hrel
  by_cases hi:i<n
  ·cases gk with
   | zero=>omega
   | succ m=>
    obtain ⟨b,o,hca,hbl,k0,k1,k2⟩:=(HC.out.below hb).cells i hi
    subst hca
    subst hx
    obtain ⟨O1,hO1⟩:∃ x,O i=x:=⟨_,rfl⟩
    obtain ⟨P1,hP1⟩:∃ x,P i=x:=⟨_,rfl⟩
    obtain ⟨D1,hD1⟩:∃ x,D i=x:=⟨_,rfl⟩
    rw [hO1] at k0
    rw [hP1] at k1
    rw [hD1] at k2
    have HB:=Lib.hid hb
    have HOK:=Lib.hid hok
    have HD:=Lib.hid (And.intro hO1 (And.intro hP1 hD1))
    have HM:=Lib.hid hm
    have hi2:(i:Int)<(n:Int):=by omega
    clear hb hok hO1 hP1 hD1 hm
    by_cases c1:O1<0
    ·skip
     go_wp2_with fail
     go_ret
     exact asd_false (HB.out.alloc HB.out.size _)
    ·by_cases c2:6<O1
     ·skip
      go_wp2_with fail
      go_ret
      exact asd_false (HB.out.alloc HB.out.size _)
     ·by_cases c3:O1=6
      ·subst c3
       clear c1 c2
       by_cases c4:P1<0
       ·skip
        go_wp2_with fail
        go_ret
        exact asd_false (HB.out.alloc HB.out.size _)
       ·by_cases c5:3<P1
        ·skip
         go_wp2_with fail
         go_ret
         exact asd_false (HB.out.alloc HB.out.size _)
        ·by_cases c6:D1 < -9223372035854775808
         ·skip
          go_wp2_with fail
          go_ret
          exact asd_false (HB.out.alloc HB.out.size _)
         ·skip
          have WX:IntKind.i64.wrap ((i:Int)+1)=(i:Int)+1:=IntWalk.i64_in _ (by have:=HN.out;have:=HM.out;omega)
          have b1:(i:Int)≤100000000:=by have:=HN.out;have:=HM.out;omega
          go_wp2_with fail
          go_roundg m
          case measure=>omega
          case rel=>
           refine ⟨i+1,(i:Int)+1,rfl,by omega,by have:=HM.out;omega,HB.out.alloc HB.out.size _,fun j hj=>?_⟩
           by_cases hj2:j<i
           ·exact HOK.out j hj2
           ·obtain rfl:j=i:=by omega
            obtain ⟨e1,e2,e3⟩:=HD.out
            rw [e1,e2,e3]
            exact ⟨by omega,by omega,fun _=>⟨by omega,by omega,by omega⟩⟩
      ·skip
       have WX:IntKind.i64.wrap ((i:Int)+1)=(i:Int)+1:=IntWalk.i64_in _ (by have:=HN.out;have:=HM.out;omega)
       have b1:(i:Int)≤100000000:=by have:=HN.out;have:=HM.out;omega
       go_wp2_with fail
       go_roundg m
       case measure=>omega
       case rel=>
        refine ⟨i+1,(i:Int)+1,rfl,by omega,by have:=HM.out;omega,HB.out.alloc HB.out.size _,fun j hj=>?_⟩
        by_cases hj2:j<i
        ·exact HOK.out j hj2
        ·obtain rfl:j=i:=by omega
         obtain ⟨e1,e2,e3⟩:=HD.out
         rw [e1,e2,e3]
         exact ⟨by omega,by omega,fun e=>absurd e c3⟩
  ·have hi2:¬(i:Int)<(n:Int):=by omega
   have HB:=Lib.hid hb
   have HOK:=Lib.hid hok
   have HI:Hid (i=n):=Lib.hid (by omega)
   subst hx
   clear hb hok hm hi
   by_cases d1:t.size≤800
   ·have e1:(t.size:Int)≤800:=by omega
    by_cases d2:sn≤100
    ·have e2:(sn:Int)≤100:=by omega
     by_cases d3:n≤200
     ·have e3:(n:Int)≤200:=by omega
      go_wp2_with fail
      go_ret
      exact ⟨true,rfl,HB.out,fun _=>⟨d1,d2,d3,fun j hj=>HOK.out j (by rw [HI.out];exact hj)⟩⟩
     ·have e3:¬(n:Int)≤200:=by omega
      go_wp2_with fail
      go_ret
      exact asd_false HB.out
    ·have e2:¬(sn:Int)≤100:=by omega
     go_wp2_with fail
     go_ret
     exact asd_false HB.out
   ·have e1:¬(t.size:Int)≤800:=by omega
    go_wp2_with fail
    go_ret
    exact asd_false HB.out
end Go.Proofs.YtkfggfjdplnkpaaGreatDoor
end
section
namespace Go.Proofs.YtkfggfjdplnkpaaGreatDoor
open Go Go.RowKit
def A0:Ab:=⟨0,0,5,false,[],1⟩
def NdPost (w:World) (a:Option Addr) (l c:Nat) (e:Ending) (w':World):Prop:=
 ∃ g eb,e=.returned (.pointer (some ⟨g,0,none⟩))∧w'.heap[g]?=some (.cells #[.nilIface,.slice a l c,.int .i64 0,.int .i64 0,.bool true,.int .u8 5,.bool false,.slice (some ⟨eb,0,none⟩) 0 512,.int .i64 1,.nilIface] 83 (0,0))∧
  w'.heap[eb]?=some (.cells (zs 512) 5 (0,0))∧w.heap.size≤g∧w.heap.size≤eb∧Below w.heap.size w w'
theorem make_512 (w:World):(Instr.makeSlice 54 (.int .i64 0) (.int .i64 512)).run Tryz.prog w=.ok (.slice (some ⟨w.heap.size,0,none⟩) 0 512) (w.alloc (.cells (zs 512) 5)):=make_bytes 512 (by decide) 0 (by decide) w
theorem nd_spec (w:World) (a:Option Addr) (l c:Nat):Calls Tryz.prog 21 #[.slice a l c] w (NdPost w a l c):=by
 have hmk:=make_512
 go_enter Tryz.func21,Tryz.ntmps21
 go_wp2_with fail
 go_ret
 have e1:(w.alloc (.cells (zs 512) 5)).heap.size=w.heap.size+1:=Array.size_push _
 refine ⟨w.heap.size+1,w.heap.size,rfl,?_,?_,by omega,by omega,?_⟩
 ·exact heap_alloc2_new w _ _
 ·exact heap_alloc2_old w _ _
 ·exact ((Below.refl w.heap.size w).alloc (Nat.le_refl _) _).alloc (by rw [e1];omega) _
def DecPost (w:World) (B:Nat) (T:List UInt8) (e:Ending) (w':World):Prop:=
 ∃ g C,e=.returned (.pointer (some ⟨g,0,none⟩))∧Rep w' B g T A0 C∧Below w.heap.size w w'
theorem dec_bytes {w:World} {B:Nat} {t:ByteArray} (ht:t.size≤800) (hB:B≤w.heap.size) (a:Option Addr) (c:Nat) (b:Bool):Calls Tryz.prog 11 #[.string t,.slice a 0 c,.bool b] w (DecPost w B t.data.toList):=by
 have hcv:=fun W=>Lib.run_convert_string_bytes (P:=Tryz.prog) W 9 54 5 t Tryz.underlying9 Tryz.underlying54 Tryz.underlying5
 have HN:=Lib.hid nd_spec
 have HT:=Lib.hid ht
 have HBB:=Lib.hid hB
 clear ht hB
 go_enter Tryz.func11,Tryz.ntmps11
 go_wp2_with fail
 refine (HN.out _ _ _ _).mono ?_
 rintro e w2 ⟨g,eb,rfl,h1,h2,h3,h4,h5⟩
 have H:=Lib.hid (And.intro h1 (And.intro h2 (And.intro h3 (And.intro h4 h5))))
 clear h1 h2 h3 h4 h5 HN hcv
 go_wp2_with fail
 go_ret
 obtain ⟨h1,h2,h3,h4,h5⟩:=H.out
 have hs1:=Lib.bytesWorld_size w 5 t
 rw [hs1] at h3 h4 h5
 have hn1:=Lib.bytesWorld_at_new w 5 t
 have hb1:Below w.heap.size w (Lib.bytesWorld w 5 t):=⟨rfl,rfl,rfl,by rw [hs1];omega,fun k hk=>Lib.bytesWorld_at_old w 5 t k hk⟩
 have hg:=grownCap_ge w t.size 0 5
 have hm:=grownCap_le_maxLen w t.size 0 5 (by have:=HT.out;unfold maxLen;omega)
 have hsz:(Lib.bytesCells w 5 t).size=grownCap w t.size 0 5:=by
  unfold Lib.bytesCells
  rw [Array.size_append,Array.size_map,Array.size_replicate]
  show t.size+_=_
  omega
 have hlen:t.data.toList.length=t.size:=Array.length_toList
 have hbuf:w2.heap[w.heap.size]?=some (.cells (Lib.bytesCells w 5 t) 5 (mkF true (grownCap w t.size 0 5))):=by
  rw [h5.block _ (by omega),hn1,hsz]
  rfl
 have htk:(Lib.bytesCells w 5 t).toList.take (t.size*1)=t.data.toList.map bcell:=by
  unfold Lib.bytesCells
  rw [Array.toList_append,Array.toList_map,Nat.mul_one,List.take_left' (by rw [List.length_map];exact hlen)]
  rfl
 refine ⟨g,{ rd:=.nilIface,bv:=.slice (some ⟨w.heap.size,0,none⟩) t.size (grownCap w t.size 0 5),bl:=t.size,bx:=t.data.toList.map bcell,r0:=0,r1:=0,cmp:=true,ev:=.slice (some ⟨eb,0,none⟩) 0 512 },rfl,?_,hb1.trans (h5.mono (by omega))⟩
 have ht:=HT.out
 have hB:=HBB.out
 refine ⟨h1,by omega,⟨by rw [List.length_map,hlen,Nat.mul_one],.inr ⟨w.heap.size,_,_,rfl,hB,hbuf,hg,hm,by rw [hsz,Nat.mul_one],htk⟩⟩,⟨rfl,.inr ⟨eb,512,zs 512,rfl,by omega,h2,by decide,by unfold maxLen;omega,by rw [zs_size],by rfl⟩⟩,by simp [Value.ownBlock],?_,Nat.le_refl _,Nat.zero_le _,rfl,?_,?_,Nat.le_refl _,?_,by decide,by decide,by decide,fun _=>?_,fun h=>(by cases h),fun k hk=>(by cases hk)⟩
 ·show some w.heap.size≠some eb
  intro e
  injection e with e
  omega
 ·show (t.data.toList.map bcell).drop 0=((t.data.toList.drop 0).take (t.size-0)).map bcell
  rw [List.drop_zero,List.drop_zero,Nat.sub_zero,List.take_of_length_le (by omega)]
 ·show 0+(t.size-0)≤_
  omega
 ·show t.data.toList.length≤1000
  omega
 ·show 0+(t.size-0)=_
  omega
end Go.Proofs.YtkfggfjdplnkpaaGreatDoor
end
