/- A part of the proof that the law FnDecodeValues returns true; its conditions are those of the last part. -/
import Derived.Test.YtkfggfjdplnkpaaGreatDoorVTol
import Derived.Lib.ConvBytes
import Derived.Laws.FloatArith
import Derived.Test.YtkfggfjdplnkpaaGreatDoorVNvb
set_option maxRecDepth 100000
set_option linter.unusedVariables false
set_option linter.unusedSimpArgs false
section
namespace Go.Proofs.YtkfggfjdplnkpaaGreatDoor
open Go Go.RowKit Go.Proofs.YtkfggfjdplnkpaaGreatDoorW.PrintLast
noncomputable def runP (T:List UInt8) (f:Nat→Ask):Nat→PS × List TD
 | 0=>(⟨0,0,5⟩,[])
 | n+1=>((ansP T (runP T f n).1 (f n)).1,(runP T f n).2++[(ansP T (runP T f n).1 (f n)).2])
def cellsOf (l:List TD):List Value:=l.flatMap fun t=>t.cells.toList
def AskOk (a:Ask):Prop:=a.op≤6∧(a.op=6→0≤a.prec∧a.prec≤3∧-9223372036854775808≤a.d∧a.d≤9223372036854775807)
theorem told_all {wI w:World} {C:Cn} {B g:Nat} {aR aS aO:Addr} {T:List UInt8} {p f k:Nat} {A:Ab} (hW:Wd wI B aR aS aO T) (h:At wI w C B g T false w p f k A C) (a:Ask) (ha:AskOk a) :
  Calls Tryz.prog 12 #[.pointer (some ⟨g,0,none⟩),.agg (askC (a.op:Int) a.prec a.d)] w (ToldPost w B g T C (ansP T ⟨p,f,k⟩ a)):=by
 obtain ⟨op,prec,d⟩:=a
 obtain ⟨h1,h2⟩:=ha
 dsimp only at h1 h2 ⊢
 match op,h1,h2 with
 | 0,_,_=>exact told_0 hW h prec d
 | 1,_,_=>exact told_1 hW h prec d
 | 2,_,_=>exact told_2 hW h prec d
 | 3,_,_=>exact told_3 hW h prec d
 | 4,_,_=>exact told_4 hW h prec d
 | 5,_,_=>exact told_5 hW h prec d
 | 6,_,h2=>
  obtain ⟨h3,h4,h5,h6⟩:=h2 rfl
  have e:((prec.toNat:Nat):Int)=prec:=by omega
  have:=told_6 hW h prec.toNat (by omega) d h5 h6
  rw [e] at this
  exact this
theorem appN_ {ops:Array Oper} {oi:Oper} {N:Option Tmp} {a:Act} {w:World} {K:Act→World→Prop} {Q:Exit→Act→World→Prop} (hw:Region.wanted oi (yielded ops a.tmps)=true) (hN:oi.dst=N)
  (s x:Operand) (ho:oi.op=.call { callee:=.builtin .append,args:=#[s,x],argTypes:=#[25,25] })
  (base:Nat) (v:Value) (n:Nat) (xs:List Value) (hs:a.eval s=v) (hown:w.ownsRow base 39 15 v n xs)
  (ad:Addr) (c:Nat) (t:TD) (hx:a.eval x=.slice (some ad) 1 c) (hnews:∀ j u,t.cells.toList[j]?=some u→w.cell? (ad.add j)=some u)
  (h63:n≤1000) (hbase:base≤w.heap.size)
  (h:∀ v' w',w'.ownsRow base 39 15 v' (n+1) (xs++t.cells.toList)→w.grownBy w' v.ownBlock→K (a.put N v') w'):if Region.wanted oi (yielded ops a.tmps)=true then Oper.wp Tryz.prog oi a w K Q else K (a.put N undef) w:=by
 rw [if_pos hw]
 subst hN
 obtain ⟨i,hi⟩:∃ i,Tryz.prog.info? 39=some i:=Option.isSome_iff_exists.1 (by kernel_rfl)
 have hz:i.zero=some (.agg zTD.cells):=by
  have:(Tryz.prog.info? 39).map (·.zero)=some (some (.agg zTD.cells)):=by kernel_rfl
  rw [hi] at this;simpa using this
 have hsz:i.size=15:=by
  have:(Tryz.prog.info? 39).map (·.size)=some 15:=by kernel_rfl
  rw [hi] at this;simpa using this
 have hby:i.bytes≤1000:=by
  have:(Tryz.prog.info? 39).map (fun i=>decide (i.bytes≤1000))=some true:=by kernel_rfl
  rw [hi] at this;simpa using this
 obtain ⟨v',w',hr,h2,h3,_⟩:=run_append_own (P:=Tryz.prog) w base 25 oi.type 39 i (.agg zTD.cells) 15 i.bytes Tryz.underlying25 hi hz hsz rfl rfl (by decide) v n xs hown ad 1 c t.cells.toList rfl hnews (fun u hu=>(Array.all_eq_true_iff_forall_mem.1 (td_all t)) u (by simpa using hu)) (by unfold maxLen;omega) (Nat.le_trans (Nat.mul_le_mul (show n+1≤1001 by omega) hby) (by decide)) hbase
 unfold Oper.wp execOp
 simp only [ho,resolve,invoke,builtin,Sem.run_bind,Sem.run_pure,Result.andThen_ok,List.map_toArray,List.map_cons,List.map_nil,hs,hx,hr]
 exact h v' w' h2 h3
structure Sc (w W:World) (lv:Value):Prop where
 q0:W.heap[w.heap.size]?=some (.cells #[lv] 25 (0,0))
 q1:W.heap[w.heap.size+1]?=some (.cells #[.bool false] 4 (0,0))
 q2:W.heap[w.heap.size+1+1]?=some (.cells #[.bool false] 4 (0,0))
def scW (w:World):World:=((w.alloc (.cells #[.slice none 0 0] 25)).alloc (.cells #[.bool false] 4)).alloc (.cells #[.bool false] 4)
theorem Sc.start (w:World):Sc w (scW w) (.slice none 0 0)∧Below w.heap.size w (scW w):=by
 have e1:(w.alloc (.cells #[.slice none 0 0] 25)).heap.size=w.heap.size+1:=Array.size_push _
 have e2:((w.alloc (.cells #[.slice none 0 0] 25)).alloc (.cells #[.bool false] 4)).heap.size=w.heap.size+2:=(Array.size_push _).trans (by rw [e1])
 have a0:=heap_alloc2_old w (.cells #[.slice none 0 0] 25) (.cells #[.bool false] 4)
 have a1:=heap_alloc2_new w (.cells #[.slice none 0 0] 25) (.cells #[.bool false] 4)
 refine ⟨⟨(heap_alloc_old _ _ (by rw [e2];omega)).trans a0,(heap_alloc_old _ _ (by rw [e2];omega)).trans a1,?_⟩,(((Below.refl w.heap.size w).alloc (Nat.le_refl _) _).alloc (by rw [e1];omega) _).alloc (by rw [e2];omega) _⟩
 have:=heap_alloc_new ((w.alloc (.cells #[.slice none 0 0] 25)).alloc (.cells #[.bool false] 4)) (.cells #[.bool false] 4)
 rw [e2] at this
 exact this
theorem Sc.below {w W W2:World} {lv:Value} (h:Sc w W lv) (hb:Below W.heap.size W W2):Sc w W2 lv:=
 ⟨(hb.block _ (blk_lt h.q0)).trans h.q0,(hb.block _ (blk_lt h.q1)).trans h.q1,(hb.block _ (blk_lt h.q2)).trans h.q2⟩
theorem Sc.step {w W W2:World} {lv:Value} {B g:Nat} {T:List UInt8} {A:Ab} {C C':Cn} (h:Sc w W lv) (hr:Rep W B g T A C) (hp:Pas g W C W2 C'):Sc w W2 lv:=
 ⟨(hp.only.block _ (blk_lt h.q0) (hr.not_own h.q0 (by decide))).trans h.q0,(hp.only.block _ (blk_lt h.q1) (hr.not_own h.q1 (by decide))).trans h.q1,(hp.only.block _ (blk_lt h.q2) (hr.not_own h.q2 (by decide))).trans h.q2⟩
theorem own_step {W W2:World} {lv:Value} {N n:Nat} {xs:List Value} {B g:Nat} {T:List UInt8} {A:Ab} {C C':Cn} (h:W.ownsRow N 39 15 lv n xs) (hr:Rep W B g T A C) (hp:Pas g W C W2 C'):W2.ownsRow N 39 15 lv n xs:=by
 obtain ⟨h1,h2⟩:=h
 refine ⟨h1,?_⟩
 rcases h2 with h2 | ⟨q,cap,cur,hv,hg,hh,r⟩
 ·exact .inl h2
 ·exact .inr ⟨q,cap,cur,hv,hg,(hp.only.block q (blk_lt hh) (hr.not_own hh (by decide))).trans hh,r⟩
theorem own_below {W W2:World} {lv:Value} {N n:Nat} {xs:List Value} (h:W.ownsRow N 39 15 lv n xs) (hb:Below W.heap.size W W2):W2.ownsRow N 39 15 lv n xs:=by
 obtain ⟨h1,h2⟩:=h
 refine ⟨h1,?_⟩
 rcases h2 with h2 | ⟨q,cap,cur,hv,hg,hh,r⟩
 ·exact .inl h2
 ·exact .inr ⟨q,cap,cur,hv,hg,(hb.block q (blk_lt hh)).trans hh,r⟩
theorem At.asideS {wI w0 w w':World} {C0 C:Cn} {B g:Nat} {T:List UInt8} {sk:Bool} {p f k:Nat} {A:Ab} (h:At wI w0 C0 B g T sk w p f k A C) {q:Nat} {cs:Array Value} {t:TypeId} (hq:w.heap[q]?=some (.cells cs t (0,0))) (ht:t≠83∧t≠5∧t≠105) (hBB:B≤q) (ho:Only (fun k=>k=q) w w'):At wI w' C B g T sk w' p f k A C:=
 ⟨h.rep.aside (h.rep.not_own hq ht) hBB ho,Pas.refl _ _ _,h.is,h.low.trans (fun k hk=>ho.block k (by have:=h.base;omega) (fun e=>by omega))⟩
theorem news_at {w:World} {q:Nat} {t:TD} (h:w.heap[q]?=some (.cells t.cells 39 (0,0))):∀ j u,t.cells.toList[j]?=some u→w.cell? ((⟨q,0,none⟩:Addr).add j)=some u:=by
 intro j u hj
 rw [show (⟨q,0,none⟩:Addr).add j=⟨q,j,none⟩ by unfold Addr.add; split <;> simp_all,blk_cell h,←Array.getElem?_toList]
 exact hj
theorem at_grown {wI w w4:World} {C:Cn} {B g n:Nat} {T:List UInt8} {p f k:Nat} {A:Ab} {lv:Value} {xs:List Value} (h:At wI w C B g T false w p f k A C) (ho:w.ownsRow B 39 15 lv n xs) (hg:w.grownBy w4 lv.ownBlock) :
  At wI w4 C B g T false w4 p f k A C∧∀ (q:Nat) (cs:Array Value) (t:TypeId),w.heap[q]?=some (Obj.cells cs t (0,0))→t≠39→w4.heap[q]?=w.heap[q]?:=by
 rcases ho.2 with ⟨rfl,_⟩ | ⟨q,cap,cur,rfl,hB,hq,_⟩
 ·have hb:Below w.heap.size w w4:=⟨hg.os,hg.tape,hg.output,hg.size,fun k hk=>hg.block k hk (by simp [Value.ownBlock])⟩
  exact ⟨h.fresh hb,fun q cs t h1 _=>hb.block q (blk_lt h1)⟩
 ·have ho2:Only (fun k=>k=q) w w4:=⟨hg.os,hg.tape,hg.output,hg.size,fun k hk hn=>hg.block k hk (by simp [Value.ownBlock];exact fun e=>hn e)⟩
  exact ⟨h.asideS hq (by decide) hB ho2,fun q' cs t h1 h2=>ho2.block q' (blk_lt h1) (fun e=>by rw [e] at h1;exact blk_type h1 hq h2 rfl)⟩
theorem below_of_at {w W1 W3 W4:World} {C0 C:Cn} {g:Nat} {T:List UInt8} {p f k:Nat} {A:Ab} (h:At w W4 C0 w.heap.size g T false W4 p f k A C) (hb:Below w.heap.size w W1) (h1:W4.os=W3.os) (h2:W4.tape=W3.tape) (h3:W4.output=W3.output) (hs:W1.heap.size≤W4.heap.size)
  (h4:W3.os=W1.os∧W3.tape=W1.tape∧W3.output=W1.output):Below w.heap.size w W4:=
 ⟨(h1.trans h4.1).trans hb.os,(h2.trans h4.2.1).trans hb.tape,(h3.trans h4.2.2).trans hb.output,Nat.le_trans hb.size hs,fun k hk=>h.low k hk⟩
theorem ownR_only {W W2:World} {lv:Value} {N n q:Nat} {xs:List Value} {cs:Array Value} {t:TypeId} (h:W.ownsRow N 39 15 lv n xs) (hq:W.heap[q]?=some (.cells cs t (0,0))) (ht:t≠39) (ho:Only (fun k=>k=q) W W2):W2.ownsRow N 39 15 lv n xs:=by
 obtain ⟨h1,h2⟩:=h
 refine ⟨h1,?_⟩
 rcases h2 with h2 | ⟨q',cap,cur,hv,hg,hh,r⟩
 ·exact .inl h2
 ·exact .inr ⟨q',cap,cur,hv,hg,(ho.block q' (blk_lt hh) (blk_type hh hq (Ne.symm ht))).trans hh,r⟩
theorem res_scc {fn:Func} {p1 p2 p3:Tmp} (h:fn.results=#[.cell p1 25,.cell p2 4,.cell p3 4]) (tmps:Array Value) (w:World) (g1 g2 g3:Nat) (la:Option Addr) (ll lc:Nat) (a b:Bool)
  (hp1:tmps.getD p1 undef=.pointer (some ⟨g1,0,none⟩)) (hp2:tmps.getD p2 undef=.pointer (some ⟨g2,0,none⟩)) (hp3:tmps.getD p3 undef=.pointer (some ⟨g3,0,none⟩))
  (h1:w.cell? ⟨g1,0,none⟩=some (.slice la ll lc)) (h2:w.cell? ⟨g2,0,none⟩=some (.bool a)) (h3:w.cell? ⟨g3,0,none⟩=some (.bool b)) :
  (results fn tmps).run Tryz.prog w=.ok (.tuple #[.slice la ll lc,.bool a,.bool b]) w:=by
 have hp1':tmps[p1]?.getD undef=.pointer (some ⟨g1,0,none⟩):=by simpa using hp1
 have hp2':tmps[p2]?.getD undef=.pointer (some ⟨g2,0,none⟩):=by simpa using hp2
 have hp3':tmps[p3]?.getD undef=.pointer (some ⟨g3,0,none⟩):=by simpa using hp3
 have hl1:(loadVar 25 ⟨g1,0,none⟩).run Tryz.prog w=.ok (.slice la ll lc) w:=by simp [go_sem,h1]
 have hl2:(loadVar 4 ⟨g2,0,none⟩).run Tryz.prog w=.ok (.bool a) w:=by simp [go_sem,h2]
 have hl3:(loadVar 4 ⟨g3,0,none⟩).run Tryz.prog w=.ok (.bool b) w:=by simp [go_sem,h3]
 simp only [results,h]
 simp [Sem.run_bind,hp1',hp2',hp3',asAddr,hl1,hl2,hl3,Result.andThen]
theorem sc_end {w W:World} {lv:Value} (h:Sc w W lv) (hb:Below w.heap.size w W) {N n:Nat} {xs:List Value} (ho:W.ownsRow N 39 15 lv n xs) :
  (((W.setCell ⟨w.heap.size,0,none⟩ lv).setCell ⟨w.heap.size+1,0,none⟩ (.bool false)).setCell ⟨w.heap.size+1+1,0,none⟩ (.bool true)).cell? ⟨w.heap.size,0,none⟩=some lv∧
  (((W.setCell ⟨w.heap.size,0,none⟩ lv).setCell ⟨w.heap.size+1,0,none⟩ (.bool false)).setCell ⟨w.heap.size+1+1,0,none⟩ (.bool true)).cell? ⟨w.heap.size+1,0,none⟩=some (.bool false)∧
  (((W.setCell ⟨w.heap.size,0,none⟩ lv).setCell ⟨w.heap.size+1,0,none⟩ (.bool false)).setCell ⟨w.heap.size+1+1,0,none⟩ (.bool true)).cell? ⟨w.heap.size+1+1,0,none⟩=some (.bool true)∧
  Below w.heap.size w (((W.setCell ⟨w.heap.size,0,none⟩ lv).setCell ⟨w.heap.size+1,0,none⟩ (.bool false)).setCell ⟨w.heap.size+1+1,0,none⟩ (.bool true))∧
  (((W.setCell ⟨w.heap.size,0,none⟩ lv).setCell ⟨w.heap.size+1,0,none⟩ (.bool false)).setCell ⟨w.heap.size+1+1,0,none⟩ (.bool true)).ownsRow N 39 15 lv n xs:=by
 have n1:w.heap.size≠w.heap.size+1:=by omega
 have n2:w.heap.size≠w.heap.size+1+1:=by omega
 have n3:w.heap.size+1≠w.heap.size+1+1:=by omega
 have a0:=blk_set h.q0 0 lv
 have a1:(W.setCell ⟨w.heap.size,0,none⟩ lv).heap[w.heap.size+1]?=_:=(Below.heap_setCell _ _ _ _ (by exact n1.symm)).trans h.q1
 have a2:(W.setCell ⟨w.heap.size,0,none⟩ lv).heap[w.heap.size+1+1]?=_:=(Below.heap_setCell _ _ _ _ (by exact n2.symm)).trans h.q2
 have b1:=blk_set a1 0 (.bool false)
 have b2:((W.setCell ⟨w.heap.size,0,none⟩ lv).setCell ⟨w.heap.size+1,0,none⟩ (.bool false)).heap[w.heap.size+1+1]?=_:=(Below.heap_setCell _ _ _ _ (by exact n3.symm)).trans a2
 have c2:=blk_set b2 0 (.bool true)
 refine ⟨(cell_set_ne _ _ _ (by exact n2)).trans ((cell_set_ne _ _ _ (by exact n1)).trans (blk_cell a0 0)),(cell_set_ne _ _ _ (by exact n3)).trans (blk_cell b1 0),blk_cell c2 0,?_,?_⟩
 ·exact ((hb.setCell (p:=⟨w.heap.size,0,none⟩) (Nat.le_refl _) _).setCell (p:=⟨w.heap.size+1,0,none⟩) (Nat.le_succ _) _).setCell (p:=⟨w.heap.size+1+1,0,none⟩) (by show w.heap.size≤w.heap.size+1+1;omega) _
 ·have o1:=ownR_only ho h.q0 (by decide) ((Only.refl (fun k=>k=w.heap.size) W).setCell (p:=⟨w.heap.size,0,none⟩) (.inl rfl) lv)
  have o2:=ownR_only o1 a1 (by decide) ((Only.refl (fun k=>k=w.heap.size+1) _).setCell (p:=⟨w.heap.size+1,0,none⟩) (.inl rfl) (.bool false))
  exact ownR_only o2 b2 (by decide) ((Only.refl (fun k=>k=w.heap.size+1+1) _).setCell (p:=⟨w.heap.size+1+1,0,none⟩) (.inl rfl) (.bool true))
theorem leaves_put {fn:Func} {tmps tmps':Array Value} {R:Ending→World→Prop} (h:∀ w,(results fn tmps').run Tryz.prog w=(results fn tmps).run Tryz.prog w):∀ (ds:List Deferred) (u:FrameMode) (w:World),Leaves Tryz.prog fn tmps' R ds u w→Leaves Tryz.prog fn tmps R ds u w
 | [],.returning,w,⟨v,h1,h2⟩=>⟨v,(h w).symm.trans h1,h2⟩
 | [],.panicking c,w,hh=>hh
 | [],.run,_,hh=>hh.elim
 | d::ds,u,w,⟨h1,fv,cap,f,args,h2,h3,h4⟩=>⟨h1,fv,cap,f,args,h2,h3,h4.mono (fun e u' w' hr=>by
   cases e with
   | returned v=>exact leaves_put h ds _ _ hr
   | panicked c=>exact leaves_put h ds _ _ hr
   | outgrown=>exact hr)⟩
theorem pan_6 {R:Ending→World→Prop} (i:Nat) {v:Value} (hi:i≠8∧i≠9∧i≠10) {c:List PanicEntry} {a:Act} {w:World} (h:bodyPostD Tryz.prog Tryz.f6 R (.panic c) (a.put (some i) v) w):bodyPostD Tryz.prog Tryz.f6 R (.panic c) a w:=by
 refine leaves_put (tmps':=(a.put (some i) v).tmps) (fun w=>?_) _ _ _ h
 have e:∀ j,j≠i→(a.put (some i) v).tmps[j]?=a.tmps[j]?:=fun j hj=>by simp [Act.put,Array.getElem?_setIfInBounds,Ne.symm hj]
 simp [results,Tryz.results6,e 8 hi.1.symm,e 9 hi.2.1.symm,e 10 hi.2.2.symm]
def ScrPost (w:World) (T:List UInt8) (f:Nat→Ask) (n:Nat) (e:Ending) (w':World):Prop:=
 ∃ lv,e=.returned (.tuple #[lv,.bool false,.bool true])∧Below w.heap.size w w'∧w'.ownsRow w.heap.size 39 15 lv n (cellsOf (runP T f n).2)
set_option maxHeartbeats 4000000 in
theorem script_spec {w:World} {aR aS aO:Addr} {n cc sn sc:Nat} {t:ByteArray} {sa ca:Option Addr} {O P D:Nat→Int} {f:Nat→Ask} (hW:Wd w w.heap.size aR aS aO t.data.toList) (hn:n≤1000) (hcap:n≤cc) (hC:CallsAt w ca n O P D)
  (hf:∀ j,j<n→AskOk (f j)∧((f j).op:Int)=O j∧(f j).prec=P j∧(f j).d=D j)
  (hdec:∀ W,Below w.heap.size w W→Calls Tryz.prog 11 #[.string t,.slice sa sn sc,.bool false] W (DecPost W w.heap.size t.data.toList)) :
  Calls Tryz.prog 6 #[.string t,.slice sa sn sc,.bool false,.slice ca n cc] w (ScrPost w t.data.toList f n):=by
 have hmf:∀ (fn:Fn) (first cap:Array Value) (w:World),(Instr.makeFunc fn first cap).run Tryz.prog w=.ok (.func fn first cap) w:=fun _ _ _ _=>rfl
 obtain ⟨hsc,hbsc⟩:=Sc.start w
 have HD:=Lib.hid (hdec _ hbsc)
 obtain ⟨T,hT⟩:∃ T,t.data.toList=T:=⟨_,rfl⟩
 rw [hT] at hW HD ⊢
 have HWD:=Lib.hid hW
 have HC:=Lib.hid hC
 have HF:=Lib.hid hf
 have HN:=Lib.hid (And.intro hn hcap)
 have SC0:=Lib.hid hsc
 have HB0:=Lib.hid hbsc
 clear hT hW hC hf hn hcap hsc hbsc hdec
 go_enter_defers Tryz.func6,Tryz.ntmps6
 go_wp2_with fail
 refine HD.out.mono ?_
 clear HD
 rintro e W0 ⟨g,C0,rfl,hrep,hbel⟩
 have SC1:=Lib.hid (SC0.out.below hbel)
 have AT1:Hid (At w W0 C0 w.heap.size g T false W0 0 0 5 A0 C0):=Lib.hid ⟨hrep,Pas.refl _ _ _,⟨rfl,rfl,rfl,rfl,rfl,by show 0+0≤0;omega⟩,LowEq.of_below (HB0.out.trans (hbel.mono HB0.out.size)) (Nat.le_refl _)⟩
 have HB1:=Lib.hid (HB0.out.trans (hbel.mono HB0.out.size))
 clear hrep hbel SC0 HB0
 go_wp2_with fail
 go_loopg [21] n (fun mq v21 wr=>∃ (i:Nat) (x:Int) (s:PS) (A:Ab) (C:Cn) (lv:Value),v21=.int .i64 x∧x=(i:Int)∧i+mq=n∧(runP T f i).1=s∧At w wr C w.heap.size g T false wr s.at_ s.from_ s.part A C∧Sc w wr lv∧wr.ownsRow w.heap.size 39 15 lv i (cellsOf (runP T f i).2)∧Below w.heap.size w wr)
 case atStart=>exact ⟨0,0,⟨0,0,5⟩,A0,C0,.slice none 0 0,rfl,rfl,by omega,rfl,AT1.out,SC1.out,World.ownsRow_nil _ _ _ _,HB1.out⟩
 case round=>
  obtain ⟨i,x,s,A,C,lv,rfl,hx,hm,hs,hat,hsc,how,hb⟩:=hrel
  subst hx
  have AT1:=Lib.hid hat
  have SC1:=Lib.hid hsc
  have OW1:=Lib.hid how
  have HB1:=Lib.hid hb
  have HS:=Lib.hid hs
  clear hat hsc how hb hs
  by_cases hi:i<n
  ·cases gk with
   | zero=>omega
   | succ m=>
    obtain ⟨b,off,hca,hbl,k0,k1,k2⟩:=(HC.out.below HB1.out).cells i hi
    subst hca
    have hi2:(i:Int)<(n:Int):=by omega
    have HM:=Lib.hid hm
    have HI:=Lib.hid hi
    clear hm hi
    go_upto_region 6 with fail
    obtain ⟨w1,hw1⟩:∃ w1,wr.alloc (.cells (askC (O i) (P i) (D i)) 31)=w1:=⟨_,rfl⟩
    have hb1:Below wr.heap.size wr w1:=by rw [←hw1];exact (Below.refl _ _).alloc (Nat.le_refl _) _
    have hq1:w1.heap[wr.heap.size]?=some (.cells (askC (O i) (P i) (D i)) 31 (0,0)):=by rw [←hw1];exact heap_alloc_new _ _
    have hb1d:Below wr.heap.size wr w1.drew:=hb1.trans ((Below.refl _ _).drew.mono hb1.size)
    have AT1d:=Lib.hid (AT1.out.fresh hb1d)
    have SC1d:=Lib.hid (SC1.out.below hb1d)
    have OW1d:=Lib.hid (own_below OW1.out hb1d)
    have HQ1:Hid (w1.drew.heap[wr.heap.size]?=some (.cells (askC (O i) (P i) (D i)) 31 (0,0))):=Lib.hid hq1
    obtain ⟨hok,e1,e2,e3⟩:=HF.out i HI.out
    have hto:=told_all HWD.out AT1d.out (f i) hok
    rw [e1,e2,e3] at hto
    obtain ⟨⟨⟨p2,f2,k2'⟩,td⟩,hr⟩:∃ r,ansP T ⟨s.at_,s.from_,s.part⟩ (f i)=r:=⟨_,rfl⟩
    rw [hr] at hto
    have HTOLD:=Lib.hid hto
    have HR:Hid (runP T f (i+1)=(⟨p2,f2,k2'⟩,(runP T f i).2++[td])):=Lib.hid (by
     show ((ansP T (runP T f i).1 (f i)).1,(runP T f i).2++[(ansP T (runP T f i).1 (f i)).2])=_
     rw [HS.out]
     have hr':ansP T s (f i)=(⟨p2,f2,k2'⟩,td):=hr
     rw [hr'])
    have HI1:Hid (i≤1000):=Lib.hid (by have:=HN.out;have:=HI.out;omega)
    have HW1:=Lib.hid hw1
    have HBW:Hid (Below w.heap.size w w1.drew):=Lib.hid (HB1.out.trans (hb1d.mono HB1.out.size))
    have hs1:w1.cell? ⟨w.heap.size,0,none⟩=some lv∧w1.cell? ⟨wr.heap.size,0,none⟩=some (.int .i64 (O i))∧w1.cell? ⟨wr.heap.size,1,none⟩=some (.int .i64 (P i))∧w1.cell? ⟨wr.heap.size,2,none⟩=some (.int .i64 (D i)):=⟨blk_cell SC1d.out.q0 0,blk_cell hq1 0,blk_cell hq1 1,blk_cell hq1 2⟩
    show Code.wp Tryz.prog _ _ _ (wr.alloc (.cells (askC (O i) (P i) (D i)) 31))
    rw [HW1.out]
    clear hw1 hb1 hq1 hb1d hok e1 e2 e3 hto hr k0 k1 k2 hbl hi2
    refine start_ (n:=7) (S:=fun w'=>w'.cell? ⟨w.heap.size,0,none⟩=some lv∧w'.cell? ⟨wr.heap.size,0,none⟩=some (.int .i64 (O i))∧w'.cell? ⟨wr.heap.size,1,none⟩=some (.int .i64 (P i))∧w'.cell? ⟨wr.heap.size,2,none⟩=some (.int .i64 (D i))) (ds:=[6]) (bA 7 0) (by kernel_rfl) rfl rfl hs1 (fun _=>?_)
    refine take_ (i:=0) (N:=some 25) (v:=?_) (a':=?_) (bA 7 1) rfl rfl (by kernel_rfl) (fun _ _ _ h=>pan_6 (R:=ScrPost w T f n) 25 (by decide) h) (Or.inl ⟨by rfl,?_⟩) hs1 ?_ ?_
    rotate_left
    ·intro w' hS;obtain ⟨e0,e1,e2,e3⟩:=hS;go_simp;with_reducible rfl
    rotate_left
    ·simp only [Act.put,aA,aB,aC];rfl
    refine pure_ (i:=1) (N:=some 26) (v:=?_) (a':=?_) (bA 7 3) rfl rfl (by kernel_rfl) (fun _ _ _ h=>pan_6 (R:=ScrPost w T f n) 26 (by decide) h) (Or.inl ⟨by rfl,?_⟩) ?_ ?_
    rotate_left
    ·intro w';go_simp;with_reducible rfl
    rotate_left
    ·simp only [Act.put,aA,aB,aC];rfl
    refine take_ (i:=2) (N:=some 27) (v:=?_) (a':=?_) (bA 7 7) rfl rfl (by kernel_rfl) (fun _ _ _ h=>pan_6 (R:=ScrPost w T f n) 27 (by decide) h) (Or.inl ⟨by rfl,?_⟩) hs1 ?_ ?_
    rotate_left
    ·intro w' hS;obtain ⟨e0,e1,e2,e3⟩:=hS;go_simp;with_reducible rfl
    rotate_left
    ·simp only [Act.put,aA,aB,aC];rfl
    refine one_ (i:=3) (N:=some 28) (bA 7 15) rfl rfl (by kernel_rfl) (by decide) (fun K hK=>?_)
    refine call_ 12 #[.pointer (some ⟨g,0,none⟩),.agg (askC (O i) (P i) (D i))] (by rfl) rfl (by go_simp;rfl) ?_
    refine HTOLD.out.mono ?_
    rintro e w2 ⟨A2,C2,rfl,hr2,hpa2,his2⟩
    have AT2:=Lib.hid (AT1d.out.call hr2 hpa2 his2).own
    have SC2:=Lib.hid (SC1d.out.step AT1d.out.rep hpa2)
    have OW2:=Lib.hid (own_step OW1d.out AT1d.out.rep hpa2)
    have HQ2:=Lib.hid ((hpa2.only.block _ (blk_lt HQ1.out) (AT1d.out.rep.not_own HQ1.out (by decide))).trans HQ1.out)
    have HBB2:=Lib.hid hpa2.only.size
    have HE3:Hid (w2.os=w1.drew.os∧w2.tape=w1.drew.tape∧w2.output=w1.drew.output):=Lib.hid ⟨hpa2.only.os,hpa2.only.tape,hpa2.only.output⟩
    refine ⟨_,rfl,hK.out _ _ ⟨blk_cell SC2.out.q0 0,blk_cell HQ2.out 0,blk_cell HQ2.out 1,blk_cell HQ2.out 2⟩ (fun _=>?_)⟩
    clear hK K hr2 hpa2 his2
    refine one_ (i:=4) (N:=some 29) (bA 7 31) rfl rfl (by kernel_rfl) (by decide) (fun K hK=>?_)
    refine value_ (v:=.slice (some ⟨w2.heap.size,0,none⟩) 1 1) (w1:=w2.alloc (.cells td.cells 39)) (by rfl) rfl (by unfold TD.cells tdC;go_simp) ?_
    have hb3:Below w2.heap.size w2 (w2.alloc (.cells td.cells 39)):=(Below.refl _ _).alloc (Nat.le_refl _) _
    have AT3:=Lib.hid ((AT2.out.below hb3).to_).own
    have SC3:=Lib.hid (SC2.out.below hb3)
    have OW3:=Lib.hid (own_below OW2.out hb3)
    have HQ3:=Lib.hid ((hb3.block _ (blk_lt HQ2.out)).trans HQ2.out)
    have HT3:=Lib.hid (heap_alloc_new w2 (.cells td.cells 39))
    have HBB3:=Lib.hid (Nat.le_trans HBB2.out hb3.size)
    refine hK.out _ _ ⟨blk_cell SC3.out.q0 0,blk_cell HQ3.out 0,blk_cell HQ3.out 1,blk_cell HQ3.out 2⟩ (fun _=>?_)
    clear hK K hb3
    refine one_ (i:=5) (N:=some 30) (bA 7 63) rfl rfl (by kernel_rfl) (by decide) (fun K hK=>?_)
    refine appN_ (by rfl) rfl (.tmp 25) (.tmp 29) rfl w.heap.size lv i (cellsOf (runP T f i).2) (by rfl) OW3.out ⟨w2.heap.size,0,none⟩ 1 td (by rfl) (news_at HT3.out) HI1.out AT3.out.base ?_
    intro lv2 w4 how4 hgr
    obtain ⟨AT4,HK4⟩:=at_grown AT3.out OW3.out hgr
    have AT4:=Lib.hid AT4
    have SC4:Hid (Sc w w4 lv):=Lib.hid ⟨(HK4 _ _ _ SC3.out.q0 (by decide)).trans SC3.out.q0,(HK4 _ _ _ SC3.out.q1 (by decide)).trans SC3.out.q1,(HK4 _ _ _ SC3.out.q2 (by decide)).trans SC3.out.q2⟩
    have HQ4:=Lib.hid ((HK4 _ _ _ HQ3.out (by decide)).trans HQ3.out)
    have OW4:=Lib.hid how4
    have HB4:=Lib.hid (below_of_at (w:=w) AT4.out HBW.out hgr.os hgr.tape hgr.output (Nat.le_trans HBB3.out hgr.size) HE3.out)
    obtain ⟨la,lc,rfl⟩:=own_slice how4
    refine hK.out _ _ ⟨blk_cell SC4.out.q0 0,blk_cell HQ4.out 0,blk_cell HQ4.out 1,blk_cell HQ4.out 2⟩ (fun _=>?_)
    clear hK K how4 hgr HK4
    refine last_ (i:=6) (N:=none) (bA 7 127) rfl rfl (by kernel_rfl) (by decide) (fun K hK=>?_)
    have z0:w4.cell? ⟨w.heap.size,0,none⟩=some lv:=blk_cell SC4.out.q0 0
    have z1:=blk_frozen SC4.out.q0 0
    refine skip_ (w1:=?_) (by rfl) rfl ?_ ?_
    rotate_left
    ·go_simp
     rfl
    refine hK.out _ _ ?_
    clear hK K z0 z1
    refine done_ (by kernel_rfl) ?_
    have SC5:Hid (Sc w (w4.setCell ⟨w.heap.size,0,none⟩ (.slice la (i+1) lc)) (.slice la (i+1) lc)):=Lib.hid ⟨blk_set SC4.out.q0 0 _,(Below.heap_setCell _ _ _ _ (by show w.heap.size+1≠w.heap.size;omega)).trans SC4.out.q1,(Below.heap_setCell _ _ _ _ (by show w.heap.size+1+1≠w.heap.size;omega)).trans SC4.out.q2⟩
    have ho5:Only (fun k=>k=w.heap.size) w4 (w4.setCell ⟨w.heap.size,0,none⟩ (.slice la (i+1) lc)):=(Only.refl (fun k=>k=w.heap.size) w4).setCell (p:=⟨w.heap.size,0,none⟩) (.inl rfl) _
    have AT5:=Lib.hid (AT4.out.asideS SC4.out.q0 (by decide) (Nat.le_refl _) ho5)
    have OW5:=Lib.hid (ownR_only OW4.out SC4.out.q0 (by decide) ho5)
    have HB5:Hid (Below w.heap.size w (w4.setCell ⟨w.heap.size,0,none⟩ (.slice la (i+1) lc))):=Lib.hid (HB4.out.setCell (p:=⟨w.heap.size,0,none⟩) (Nat.le_refl _) _)
    have WX:IntKind.i64.wrap ((i:Int)+1)=(i:Int)+1:=IntWalk.i64_in _ (by have:=HI1.out;omega)
    have b1:(i:Int)≤1000:=by have:=HI1.out;omega
    clear ho5 AT4 SC4 OW4 HB4 hs1
    go_wp2_with fail
    go_roundg m
    case measure=>omega
    case rel=>
     refine ⟨i+1,(i:Int)+1,⟨p2,f2,k2'⟩,A2,C2,.slice la (i+1) lc,rfl,by omega,by have:=HM.out;omega,by rw [HR.out],AT5.out,SC5.out,?_,HB5.out⟩
     rw [HR.out]
     have:=OW5.out
     unfold cellsOf at this ⊢
     rw [List.flatMap_append]
     simpa using this
  ·have hi2:¬(i:Int)<(n:Int):=by omega
   obtain rfl:n=i:=by omega
   clear hi hm
   have HERR:=Lib.hid (err_spec (AT1.out.drew.to_).own)
   have hs1:wr.cell? ⟨w.heap.size,0,none⟩=some lv:=blk_cell SC1.out.q0 0
   go_upto_region 8 with fail
   refine start_ (n:=7) (S:=fun w'=>w'.cell? ⟨w.heap.size,0,none⟩=some lv) (ds:=[4,5,6]) (bA 7 0) (by kernel_rfl) rfl rfl hs1 (fun _=>?_)
   refine take_ (i:=0) (N:=some 32) (v:=?_) (a':=?_) (bA 7 1) rfl rfl (by kernel_rfl) (fun _ _ _ h=>pan_6 (R:=ScrPost w T f n) 32 (by decide) h) (Or.inl ⟨by rfl,?_⟩) hs1 ?_ ?_
   rotate_left
   ·intro w' hS;go_simp;with_reducible rfl
   rotate_left
   ·simp only [Act.put,aA,aB,aC];rfl
   refine pure_ (i:=1) (N:=some 33) (v:=?_) (a':=?_) (bA 7 3) rfl rfl (by kernel_rfl) (fun _ _ _ h=>pan_6 (R:=ScrPost w T f n) 33 (by decide) h) (Or.inl ⟨by rfl,?_⟩) ?_ ?_
   rotate_left
   ·intro w';go_simp;with_reducible rfl
   rotate_left
   ·simp only [Act.put,aA,aB,aC];rfl
   refine one_ (i:=2) (N:=some 34) (bA 7 7) rfl rfl (by kernel_rfl) (by decide) (fun K hK=>?_)
   refine call_ 13 #[.pointer (some ⟨g,0,none⟩)] (by rfl) rfl (by go_simp) ?_
   refine HERR.out.mono ?_
   rintro e w2 ⟨rfl,hw2⟩
   have hs2:w2.cell? ⟨w.heap.size,0,none⟩=some lv:=by rw [hw2];exact hs1
   have HW2:=Lib.hid hw2
   refine ⟨_,rfl,hK.out _ _ hs2 (fun _=>?_)⟩
   clear hK K hw2
   refine pure_ (i:=3) (N:=some 35) (v:=?_) (a':=?_) (bA 7 15) rfl rfl (by kernel_rfl) (fun _ _ _ h=>pan_6 (R:=ScrPost w T f n) 35 (by decide) h) (Or.inl ⟨by rfl,?_⟩) ?_ ?_
   rotate_left
   ·intro w';go_simp;with_reducible rfl
   rotate_left
   ·simp only [Act.put,aA,aB,aC];rfl
   refine last_ (i:=4) (N:=none) (bA 7 31) rfl rfl (by kernel_rfl) (by decide) (fun K hK=>?_)
   obtain ⟨la,lc,rfl⟩:=own_slice OW1.out
   have SC2:Hid (Sc w w2 (.slice la n lc)):=Lib.hid (by rw [HW2.out];exact SC1.out.below (Below.refl _ _).drew)
   have z0:w2.cell? ⟨w.heap.size,0,none⟩=some (.slice la n lc):=blk_cell SC2.out.q0 0
   have z1:=blk_frozen SC2.out.q0 0
   have z2:w2.cell? ⟨w.heap.size+1,0,none⟩=some (.bool false):=blk_cell SC2.out.q1 0
   have z3:=blk_frozen SC2.out.q1 0
   have z4:w2.cell? ⟨w.heap.size+1+1,0,none⟩=some (.bool false):=blk_cell SC2.out.q2 0
   have z5:=blk_frozen SC2.out.q2 0
   refine skip_ (w1:=?_) (by rfl) rfl ?_ ?_
   rotate_left
   ·go_simp
    rfl
   refine hK.out _ _ ?_
   clear hK K
   refine last_ (i:=5) (N:=none) (bA 7 63) rfl rfl (by kernel_rfl) (by decide) (fun K hK=>?_)
   refine skip_ (w1:=?_) (by rfl) rfl ?_ ?_
   rotate_left
   ·go_simp
    rfl
   refine hK.out _ _ ?_
   clear hK K
   refine last_ (i:=6) (N:=none) (bA 7 127) rfl rfl (by kernel_rfl) (by decide) (fun K hK=>?_)
   refine skip_ (w1:=?_) (by rfl) rfl ?_ ?_
   rotate_left
   ·go_simp
    rfl
   refine hK.out _ _ ?_
   clear hK K
   refine done_ (by kernel_rfl) ?_
   clear z0 z1 z2 z3 z4 z5 hs1 hs2
   go_wp2_with fail
   refine leaves_cons (f:=10) (args:=#[.pointer (some ⟨w.heap.size,0,none⟩),.pointer (some ⟨w.heap.size+1,0,none⟩),.pointer (some ⟨w.heap.size+1+1,0,none⟩)]) (by simp) (by simp [go_sem]) ?_
   refine (idle_10 _ _ _ _).mono ?_
   rintro e u' w'' ⟨rfl,rfl,rfl⟩
   obtain ⟨z1,z2,z3,z4,z5⟩:=sc_end SC2.out (by rw [HW2.out];exact HB1.out.trans ((Below.refl _ _).drew.mono HB1.out.size)) (xs:=cellsOf (runP T f n).2) (by rw [HW2.out];exact own_below OW1.out (Below.refl _ _).drew)
   exact ⟨_,res_scc rfl _ _ _ _ _ la n lc false true rfl rfl rfl z1 z2 z3,_,rfl,z4,z5⟩
end Go.Proofs.YtkfggfjdplnkpaaGreatDoor
end
section
namespace Go.Proofs.YtkfggfjdplnkpaaGreatDoor
open Go Go.RowKit
def triW (w:World):World:=((w.alloc (.cells plZ 35)).alloc (.cells #[.bool false] 4)).alloc (.cells #[.bool false] 4)
structure Tri (w W:World):Prop where
 q0:W.heap[w.heap.size]?=some (.cells plZ 35 (0,0))
 q1:W.heap[w.heap.size+1]?=some (.cells #[.bool false] 4 (0,0))
 q2:W.heap[w.heap.size+1+1]?=some (.cells #[.bool false] 4 (0,0))
 b:Below w.heap.size w W
theorem Tri.start (w:World):Tri w (triW w):=by
 have e1:(w.alloc (.cells plZ 35)).heap.size=w.heap.size+1:=Array.size_push _
 have e2:((w.alloc (.cells plZ 35)).alloc (.cells #[.bool false] 4)).heap.size=w.heap.size+2:=(Array.size_push _).trans (by rw [e1])
 have a0:=heap_alloc2_old w (.cells plZ 35) (.cells #[.bool false] 4)
 have a1:=heap_alloc2_new w (.cells plZ 35) (.cells #[.bool false] 4)
 refine ⟨(heap_alloc_old _ _ (by rw [e2];omega)).trans a0,(heap_alloc_old _ _ (by rw [e2];omega)).trans a1,?_,(((Below.refl w.heap.size w).alloc (Nat.le_refl _) _).alloc (by rw [e1];omega) _).alloc (by rw [e2];omega) _⟩
 have:=heap_alloc_new ((w.alloc (.cells plZ 35)).alloc (.cells #[.bool false] 4)) (.cells #[.bool false] 4)
 rw [e2] at this
 exact this
theorem Tri.below {w W W2:World} (h:Tri w W) (hb:Below W.heap.size W W2):Tri w W2:=
 ⟨(hb.block _ (blk_lt h.q0)).trans h.q0,(hb.block _ (blk_lt h.q1)).trans h.q1,(hb.block _ (blk_lt h.q2)).trans h.q2,h.b.trans (hb.mono h.b.size)⟩
theorem bytes_below (w:World) (s:ByteArray):Below w.heap.size w (Lib.bytesWorld w 5 s):=⟨rfl,rfl,rfl,by rw [Lib.bytesWorld_size];omega,fun k hk=>Lib.bytesWorld_at_old w 5 s k hk⟩
theorem bytes_tb (w:World) (L:List UInt8):TB (Lib.bytesWorld w 5 (sOf L)) (.slice (some ⟨w.heap.size,0,none⟩) L.length (grownCap w L.length 0 5)) L:=
 ⟨⟨_,_,rfl⟩,fun _=>⟨w.heap.size,0,_,rfl,by rw [Lib.bytesWorld_size];omega,fun j hj=>by
  have:=Lib.bytesWorld_cell w 5 (sOf L) j hj
  rw [Nat.zero_add,this,List.getElem?_eq_getElem hj]
  show some (Value.int .u8 (L.getD j 0).toNat)=some (bcell L[j])
  rw [List.getD_eq_getElem?_getD,List.getElem?_eq_getElem hj]
  rfl⟩⟩
theorem utf8_low {w w':World} {B:Nat} (hB:25<B) (h:Lib.Utf8Tabs 4 5 w) (k:LowEq B w w'):Lib.Utf8Tabs 4 5 w':=
 ⟨fun c hc=>(k.cell (by omega)).trans (h.1 c hc),fun i hi=>⟨(k.cell (by omega)).trans (h.2 i hi).1,(k.cell (by omega)).trans (h.2 i hi).2⟩⟩
def nvT (L:List UInt8):NV→Vl × Bool × Bool
 | .good n st kd=>(plOf n kd L,true,false)
 | .bad out=>(zVl,false,out)
def triF (w W:World) (v:Vl) (a b:Bool):World:=((W.setRow w.heap.size v.cells).setCell ⟨w.heap.size+1,0,none⟩ (.bool a)).setCell ⟨w.heap.size+1+1,0,none⟩ (.bool b)
theorem Tri.facts {w W:World} (h:Tri w W) (v:Vl):(W.setRow w.heap.size v.cells).cell? ⟨w.heap.size+1,0,none⟩=some (.bool false)∧(W.setRow w.heap.size v.cells).cell? ⟨w.heap.size+1+1,0,none⟩=some (.bool false)∧
  (W.setRow w.heap.size v.cells).frozen? ⟨w.heap.size+1,0,none⟩=false∧(W.setRow w.heap.size v.cells).frozen? ⟨w.heap.size+1+1,0,none⟩=false:=by
 have e1:=(setRow_other W w.heap.size (w.heap.size+1) v.cells (by omega)).trans h.q1
 have e2:=(setRow_other W w.heap.size (w.heap.size+1+1) v.cells (by omega)).trans h.q2
 exact ⟨blk_cell e1 0,blk_cell e2 0,blk_frozen e1 0,blk_frozen e2 0⟩
theorem Tri.fill {w W:World} (h:Tri w W) (v:Vl) (a b:Bool):(triF w W v a b).heap[w.heap.size]?=some (.cells v.cells 35 (0,0))∧(triF w W v a b).cell? ⟨w.heap.size+1,0,none⟩=some (.bool a)∧(triF w W v a b).cell? ⟨w.heap.size+1+1,0,none⟩=some (.bool b)∧Below w.heap.size w (triF w W v a b):=by
 have e0:(W.setRow w.heap.size v.cells).heap[w.heap.size]?=some (.cells v.cells 35 (0,0)):=setRow_heap _ _ _ _ _ _ h.q0
 have e1:=(setRow_other W w.heap.size (w.heap.size+1) v.cells (by omega)).trans h.q1
 have e2:=(setRow_other W w.heap.size (w.heap.size+1+1) v.cells (by omega)).trans h.q2
 refine ⟨?_,?_,?_,?_⟩
 ·exact (Below.heap_setCell _ _ _ _ (by show w.heap.size≠w.heap.size+1+1;omega)).trans ((Below.heap_setCell _ _ _ _ (by show w.heap.size≠w.heap.size+1;omega)).trans e0)
 ·exact (cell_set_ne _ _ _ (by show w.heap.size+1≠w.heap.size+1+1;omega)).trans (blk_cell (blk_set e1 0 (.bool a)) 0)
 ·exact blk_cell (blk_set ((Below.heap_setCell _ _ _ _ (by show w.heap.size+1+1≠w.heap.size+1;omega)).trans e2) 0 (.bool b)) 0
 ·have b0:Below w.heap.size w (W.setRow w.heap.size v.cells):=h.b.trans ⟨rfl,rfl,rfl,by simp [World.setRow],fun k hk=>setRow_other W w.heap.size k v.cells (by omega)⟩
  have b1:=b0.setCell (p:=⟨w.heap.size+1,0,none⟩) (by show w.heap.size≤w.heap.size+1;omega) (.bool a)
  exact b1.setCell (p:=⟨w.heap.size+1+1,0,none⟩) (by show w.heap.size≤w.heap.size+1+1;omega) (.bool b)
theorem res_ccc {fn:Func} {p1 p2 p3:Tmp} (h:fn.results=#[.cell p1 35,.cell p2 4,.cell p3 4]) (tmps:Array Value) (w:World) (g1 g2 g3:Nat) (cs:Array Value) (a b:Bool)
  (hp1:tmps.getD p1 undef=.pointer (some ⟨g1,0,none⟩)) (hp2:tmps.getD p2 undef=.pointer (some ⟨g2,0,none⟩)) (hp3:tmps.getD p3 undef=.pointer (some ⟨g3,0,none⟩))
  (h1:w.heap[g1]?=some (.cells cs 35 (0,0))) (hs:cs.size=6) (h2:w.cell? ⟨g2,0,none⟩=some (.bool a)) (h3:w.cell? ⟨g3,0,none⟩=some (.bool b)) :
  (results fn tmps).run Tryz.prog w=.ok (.tuple #[.agg cs,.bool a,.bool b]) w:=by
 have hp1':tmps[p1]?.getD undef=.pointer (some ⟨g1,0,none⟩):=by simpa using hp1
 have hp2':tmps[p2]?.getD undef=.pointer (some ⟨g2,0,none⟩):=by simpa using hp2
 have hp3':tmps[p3]?.getD undef=.pointer (some ⟨g3,0,none⟩):=by simpa using hp3
 have hl:=run_loadVar_row (P:=Tryz.prog) w g1 35 35 cs (0,0) _ h1 Tryz.underlying35 rfl ((show (Tryz.prog.info? 35).map (·.size)=some 6 by kernel_rfl).trans (by rw [hs]))
 have hl2:(loadVar 4 ⟨g2,0,none⟩).run Tryz.prog w=.ok (.bool a) w:=by simp [go_sem,h2]
 have hl3:(loadVar 4 ⟨g3,0,none⟩).run Tryz.prog w=.ok (.bool b) w:=by simp [go_sem,h3]
 simp only [results,h]
 simp [Sem.run_bind,hp1',hp2',hp3',asAddr,hl,hl2,hl3,Result.andThen]
noncomputable def vfR (k:Nat) (L:List UInt8):Vl × Bool × Bool:=nvT L (nvR k L)
def VfPost (w:World) (r:Vl × Bool × Bool) (e:Ending) (w':World):Prop:=e=.returned (.tuple #[.agg r.1.cells,.bool r.2.1,.bool r.2.2])∧Below w.heap.size w w'
set_option maxHeartbeats 1000000 in
theorem vfb_spec {w:World} {B:Nat} {aR aS aO:Addr} {k:Nat} {L:List UInt8} (hT:Tabs w B) (hV:EV w B aR aS aO) (hU:Lib.Utf8Tabs 4 5 w) (hk:1≤k∧k≤5) (hL:L.length≤800) (hval:k=1→Lib.validD L=true) :
  Calls Tryz.prog 8 #[.int .i64 (k:Int),.string (sOf L)] w (VfPost w (vfR k L)):=by
 have hmf:∀ (fn:Fn) (first cap:Array Value) (w:World),(Instr.makeFunc fn first cap).run Tryz.prog w=.ok (.func fn first cap) w:=fun _ _ _ _=>rfl
 have hcv:=fun W=>Lib.run_convert_string_bytes (P:=Tryz.prog) W 9 54 5 (sOf L) Tryz.underlying9 Tryz.underlying54 Tryz.underlying5
 have WK:IntKind.u8.wrap (k:Int)=(k:Int):=IntWalk.u8_in _ (by omega)
 have hle:=hV.le
 have hlow:∀ W,Below w.heap.size w W→LowEq B w W:=fun W hb=>LowEq.of_below hb hle
 have T0:=Tri.start w
 have T1:=T0.below (bytes_below (triW w) (sOf L))
 have hb1:Below w.heap.size w ((Lib.bytesWorld (triW w) 5 (sOf L)).alloc (.cells #[.int .u64 0,.slice none 0 0,.int .u8 0] 57)):=T1.b.alloc T1.b.size _
 have H40:=nvR_spec hk hL hval (w:=(Lib.bytesWorld (triW w) 5 (sOf L)).alloc (.cells #[.int .u64 0,.slice none 0 0,.int .u8 0] 57)) (chk:=true) (hT.low (hlow _ hb1) (Nat.le_trans hle hb1.size)) (hV.low (hlow _ hb1) (Nat.le_trans hle hb1.size))
  (fun _=>grownCap_ge _ _ _ _) (fun w' hb=>utf8_low hV.lt.2.2.2 hU (hlow _ (hb1.trans (hb.mono hb1.size)))) ((bytes_tb (triW w) L).below ((Below.refl _ _).alloc (Nat.le_refl _) _))
 have H18:=Lib.hid (nvb_spec H40)
 have HL:Hid ((sOf L).size=L.length):=Lib.hid rfl
 obtain ⟨rv,hrv⟩:∃ r,nvR k L=r:=⟨_,rfl⟩
 have hR:vfR k L=nvT L rv:=by unfold vfR;rw [hrv]
 have HOK:Hid (NvOk rv):=Lib.hid (by rw [←hrv];exact nvR_ok k L)
 rw [hrv] at H18
 have hsz:(triW w).heap.size=w.heap.size+1+1+1:=by simp [triW]
 rw [hsz] at H18
 clear hsz
 rw [hR]
 have TR:=Lib.hid T1
 have TBL:=Lib.hid (bytes_tb (triW w) L)
 have HV:=Lib.hid hV
 have HLO:=Lib.hid hlow
 clear hle hlow T0 T1 hb1 H40 hrv hR hT hV hU hk hL hval
 go_enter_defers Tryz.func8,Tryz.ntmps8
 go_wp2_with fail
 refine H18.out.mono ?_
 intro e w2 hp
 cases rv with
 | good n st kd=>
  obtain ⟨xa,xl,xc,hst,rfl,hb⟩:=hp
  have T2:=Lib.hid (TR.out.below hb)
  have hb3:Below w2.heap.size w2 (w2.alloc (.cells #[.int .u64 n,.slice xa xl xc,.int .u8 (kd:Int)] 57)):=(Below.refl _ _).alloc (Nat.le_refl _) _
  have hkd:kd=0∨2≤kd∧kd≤5:=by
   rcases HOK.out.1 with ⟨_,h6⟩ | ⟨_,h6,h7⟩
   ·exact .inl h6
   ·exact .inr ⟨h6,h7⟩
  have htb:kd=0→TB (w2.alloc (.cells #[.int .u64 n,.slice xa xl xc,.int .u8 (kd:Int)] 57)) (.slice xa xl xc) L:=by
   intro e
   rcases HOK.out.1 with ⟨h5,h6⟩ | ⟨h5,h6,h7⟩
   ·rw [h5] at hst
    have hst2:Value.slice _ L.length _=.slice xa xl xc:=hst
    injection hst2 with e1 e2 e3
    subst e1
    subst e2
    subst e3
    have ht:=TBL.out
    have hsz:(triW w).heap.size=w.heap.size+1+1+1:=by simp [triW]
    rw [hsz] at ht
    exact (ht.below hb).below hb3
   ·omega
  have H20:=Lib.hid (plain_spec (L:=L) (w:=w2.alloc (.cells #[.int .u64 n,.slice xa xl xc,.int .u8 (kd:Int)] 57)) (n:=n) (a:=xa) (l:=xl) (c:=xc) (k:=kd) hkd htb)
  have T3:=Lib.hid (T2.out.below hb3)
  clear hst hb htb hkd H18 TR TBL hcv hb3 T2
  go_wp2_with fail
  refine H20.out.mono ?_
  rintro e w4 ⟨rfl,hb⟩
  have T4:=Lib.hid (T3.out.below hb)
  have T4q:Hid (w4.heap[w.heap.size]?=some (.cells plZ 35 (0,0))):=Lib.hid T4.out.q0
  obtain ⟨c1,c2,f1,f2⟩:=T4.out.facts (plOf n kd L)
  clear H20 hb T3
  go_wp2_with (with_reducible refine wpList_store_row rfl 35 (.tmp 4) (.tmp 24) rfl w.heap.size (plOf n kd L).cells rfl rfl 35 plZ T4q.out (by kernel_rfl) rfl (vl_all (plOf n kd L)) ?_)
  refine leaves_cons (f:=17) (args:=#[.pointer (some ⟨w.heap.size,0,none⟩),.pointer (some ⟨w.heap.size+1,0,none⟩),.pointer (some ⟨w.heap.size+1+1,0,none⟩)]) (by simp) (by simp [go_sem]) ?_
  refine (idle_17 _ _ _ _).mono ?_
  rintro e u' w'' ⟨rfl,rfl,rfl⟩
  obtain ⟨z1,z2,z3,z4⟩:=T4.out.fill (plOf n kd L) true false
  exact ⟨_,res_ccc rfl _ _ _ _ _ (plOf n kd L).cells true false rfl rfl rfl z1 rfl z2 z3,rfl,z4⟩
 | bad out=>
  obtain ⟨q,rfl,hb,h1,h2⟩:=hp
  have T2:=Lib.hid (TR.out.below hb)
  have HO:Hid (OutQ w2 aO q out):=Lib.hid ⟨h1,fun e=>by
   obtain ⟨h3,cs,h4⟩:=h2 e
   have:=TR.out.b.size
   have:=HV.out.le
   exact ⟨B,HV.out.lt.2.2.1,by omega,cs,h4⟩⟩
  have HOV:Hid (OutV w2 aO):=Lib.hid ((show OutV w aO from ⟨HV.out.out,HV.out.bO⟩).below (TR.out.b.trans (hb.mono TR.out.b.size)))
  clear h1 h2 hb H18 TR TBL hcv
  go_wp2_with fail
  obtain ⟨w3,hw3⟩:∃ w3,w2.alloc (.cells #[.int .u64 0,.slice none 0 0,.int .u8 0] 57)=w3:=⟨_,rfl⟩
  have hb3:Below w2.heap.size w2 w3:=by rw [←hw3];exact (Below.refl _ _).alloc (Nat.le_refl _) _
  rw [hw3]
  have T3:=Lib.hid (T2.out.below hb3)
  have H19:=Lib.hid (out_spec (HOV.out.below hb3) (HO.out.below hb3))
  clear hw3 hb3 T2 HO HOV
  refine H19.out.mono ?_
  rintro e w4 ⟨rfl,rfl⟩
  have T3q:Hid (w4.heap[w.heap.size]?=some (.cells plZ 35 (0,0))):=Lib.hid T3.out.q0
  obtain ⟨c1,c2,f1,f2⟩:=T3.out.facts zVl
  clear H19
  go_wp2_with (with_reducible refine wpList_store_row rfl 35 (.tmp 4) (.tmp 20) rfl w.heap.size zVl.cells rfl rfl 35 plZ T3q.out (by kernel_rfl) rfl (vl_all zVl) ?_)
  refine leaves_cons (f:=17) (args:=#[.pointer (some ⟨w.heap.size,0,none⟩),.pointer (some ⟨w.heap.size+1,0,none⟩),.pointer (some ⟨w.heap.size+1+1,0,none⟩)]) (by simp) (by simp [go_sem]) ?_
  refine (idle_17 _ _ _ _).mono ?_
  rintro e u' w'' ⟨rfl,rfl,rfl⟩
  obtain ⟨z1,z2,z3,z4⟩:=T3.out.fill zVl false out
  exact ⟨_,res_ccc rfl _ _ _ _ _ zVl.cells false out rfl rfl rfl z1 rfl z2 z3,rfl,z4⟩
end Go.Proofs.YtkfggfjdplnkpaaGreatDoor
end
section
namespace Go.Proofs.YtkfggfjdplnkpaaGreatDoor
open Go Ieee
theorem datum_self (d:Datum) (h:d.isNaN=false):d.order d=some .eq:=by
 cases d with
 | nan s t=>cases h
 | infinity s=>cases s <;> rfl
 | number s m i=>
  show some (compare (signed s m (i-min i i).toNat) (signed s m (i-min i i).toNat))=some .eq
  congr 1
  generalize signed s m (i-min i i).toNat=x
  show compareOfLessAndEq x x=.eq
  unfold compareOfLessAndEq
  rw [if_neg (Int.lt_irrefl x),if_pos rfl]
theorem self_datum (d:Datum) (h:d.order d=some .eq):d.isNaN=false:=by
 cases d with
 | nan s t=>cases h
 | infinity s=>rfl
 | number s m i=>rfl
theorem read_word (neg:Bool) (rung:Nat) (h:rung≤double.infRung):(double.read (double.word neg rung)).isNaN=false:=by
 have e1:double.infRung=9218868437227405312:=rfl
 have e2:double.signWeight=9223372036854775808:=rfl
 have h2:double.word neg rung % double.signWeight=rung:=by
  unfold Format.word
  rw [e2]
  rw [e1] at h
  cases neg
  ·show rung % _=rung
   omega
  ·show (9223372036854775808+rung) % _=rung
   omega
 unfold Format.read
 dsimp only
 rw [h2]
 split
 ·rfl
 ·split
  ·rfl
  ·split
   ·rfl
   ·omega
theorem read_write (d:Datum) (h:d.isNaN=false):(double.read (double.write d)).isNaN=false:=by
 cases d with
 | nan s t=>cases h
 | infinity s=>exact read_word s _ (Nat.le_refl _)
 | number s m i=>
  show (double.read (double.nearest s m i)).isNaN=false
  unfold Format.nearest
  split
  ·exact read_word s 0 (Nat.zero_le _)
  ·exact read_word s _ (Nat.min_le_right _ _)
theorem quot_one (d:Datum) (h:d.isNaN=false):∃ d',(Datum.number false 4503599627370496 (-52)).quotient 54 d=some d'∧d'.isNaN=false:=by
 cases d with
 | nan s t=>cases h
 | infinity s=>exact ⟨_,rfl,rfl⟩
 | number t n j=>
  unfold Datum.quotient
  dsimp only
  split
  ·rw [if_neg (by decide)]
   exact ⟨_,rfl,rfl⟩
  ·exact ⟨_,rfl,rfl⟩
def oneF:Nat:=4607182418800017408
theorem inv_self (n:Nat) (h:FloatKind.f64.format.order n n=some .eq):∃ r,floatBits .quo .f64 oneF n=some r∧FloatKind.f64.format.order r r=some .eq:=by
 have h1:=self_datum _ h
 obtain ⟨d,h2,h3⟩:=quot_one _ h1
 have e:double.read oneF=.number false 4503599627370496 (-52):=by decide +kernel
 refine ⟨double.write d,?_,datum_self _ (read_write d h3)⟩
 show ((double.read oneF).quotient 54 (double.read n)).map double.write=_
 rw [e]
 show ((Datum.number false 4503599627370496 (-52)).quotient 54 (double.read n)).map double.write=_
 have h2':(Datum.number false 4503599627370496 (-52)).quotient 54 (double.read n)=some d:=h2
 rw [h2']
 rfl
end Go.Proofs.YtkfggfjdplnkpaaGreatDoor
end
section
namespace Go.Proofs.YtkfggfjdplnkpaaGreatDoor
open Go Go.RowKit
set_option maxHeartbeats 2000000 in
theorem same_spec (v:Vl) (hF:FloatKind.f64.format.order v.f v.f=some .eq) (w:World):Calls Tryz.prog 9 #[.agg v.cells,.agg v.cells] w (RetB w (.bool true)):=by
 obtain ⟨r,hq,hr⟩:=inv_self v.f hF
 have e1:(FloatKind.f64.format.order v.f v.f==some .eq)=true:=by rw [hF];rfl
 have e2:(FloatKind.f64.format.order r r==some .eq)=true:=by rw [hr];rfl
 have e3:=fun W=>run_float_arith (P:=Tryz.prog) W .quo 33 .f64 oneF v.f r hq
 unfold oneF at e3
 have HB:=Lib.hid (show Below w.heap.size w ((w.alloc (.cells v.cells 35)).alloc (.cells v.cells 35)) from ((Below.refl w.heap.size w).alloc (Nat.le_refl _) _).alloc (by have:(w.alloc (.cells v.cells 35)).heap.size=w.heap.size+1:=Array.size_push _;omega) _)
 clear hq hr hF
 unfold Vl.cells at HB ⊢
 go_enter Tryz.func9,Tryz.ntmps9
 go_wp2_with fail
 go_ret
 exact ⟨rfl,HB.out⟩
end Go.Proofs.YtkfggfjdplnkpaaGreatDoor
end
