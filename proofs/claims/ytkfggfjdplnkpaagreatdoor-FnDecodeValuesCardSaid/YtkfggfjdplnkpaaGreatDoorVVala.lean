/- A part of the proof that the law FnDecodeValues returns true; its conditions are those of the last part. -/
import Derived.Test.YtkfggfjdplnkpaaGreatDoorVScr
import Derived.Laws.StructEq
import Derived.Test.YtkfggfjdplnkpaaGreatDoorRows
import Derived.Lib.LaidU8T
import Derived.PinnedBridge
import Derived.LaidMore
set_option maxRecDepth 100000
set_option linter.unusedVariables false
set_option linter.unusedSimpArgs false
section
namespace Go.Proofs.YtkfggfjdplnkpaaGreatDoor
open Go Go.RowKit
theorem Wd.up {w w':World} {aR aS aO:Addr} {T:List UInt8} (h:Wd w w.heap.size aR aS aO T) (hb:Below w.heap.size w w'):Wd w' w'.heap.size aR aS aO T:=by
 have hl:LowEq w.heap.size w w':=fun k hk=>hb.block k hk
 have hs:=hb.size
 have hi:Init w' w.heap.size:=⟨h.init.envAt hl,h.init.tabAt hl⟩
 have ht:=h.tabs.low hl hs
 have he:=h.ev.low hl hs
 obtain ⟨f1,f2,f3,⟨pb,po,cap,p1,p2⟩,⟨cb,co,cc,c1,c2⟩,f4⟩:=ht.f
 obtain ⟨g1,⟨qb,qo,qc,q1,q2⟩,g2⟩:=ht.e
 obtain ⟨l1,l2,l3,l4⟩:=he.lt
 exact ⟨⟨⟨hi.env.eof,by omega⟩,hi.tab⟩,⟨⟨f1,f2,f3,⟨pb,po,cap,by omega,p2⟩,⟨cb,co,cc,by omega,c2⟩,by omega⟩,⟨g1,⟨qb,qo,qc,by omega,q2⟩,by omega⟩,ht.p,ht.opt,ht.h11,ht.h9,Nat.le_refl _⟩,
  ⟨he.rng,he.syn,he.out,he.bad,he.bR,he.bS,he.bO,he.ne,⟨by omega,by omega,by omega,by omega⟩,Nat.le_refl _⟩,h.len⟩
def extI (f:Nat→Int) (n:Nat) (x:Int):Nat→Int:=fun j=>if j<n then f j else x
def AppC (w:World) (a:Option Addr) (n q:Nat) (O P D:Nat→Int) (op:Int) (ty:TypeId):Prop:=
 ∃ b cap w',(Builtin.append_ #[23,23] ty #[.slice a n n,.slice (some ⟨q,0,none⟩) 1 1]).run Tryz.prog w=.ok (.slice (some ⟨b,0,none⟩) (n+1) cap) w'∧n+1≤cap∧Below w.heap.size w w'∧w.heap.size<w'.heap.size∧
  CallsAt w' (some ⟨b,0,none⟩) (n+1) (extI O n op) (extI P n 0) (extI D n 0)
def triC (O P D:Nat→Int):Nat→List Value
 | 0=>[]
 | n+1=>triC O P D n++[.int .i64 (O n),.int .i64 (P n),.int .i64 (D n)]
theorem triC_len (O P D:Nat→Int):∀ n,(triC O P D n).length=n*3
 | 0=>rfl
 | n+1=>by show (triC O P D n++_).length=_;rw [List.length_append,triC_len O P D n];simp;omega
theorem triC_at (O P D:Nat→Int):∀ n j,j<n→(triC O P D n)[j*3]?=some (.int .i64 (O j))∧(triC O P D n)[j*3+1]?=some (.int .i64 (P j))∧(triC O P D n)[j*3+2]?=some (.int .i64 (D j))
 | 0,j,h=>by omega
 | n+1,j,h=>by
  have hl:=triC_len O P D n
  by_cases hj:j<n
  ·obtain ⟨h1,h2,h3⟩:=triC_at O P D n j hj
   show (triC O P D n++_)[_]?=_∧(triC O P D n++_)[_]?=_∧(triC O P D n++_)[_]?=_
   rw [List.getElem?_append_left (by omega),List.getElem?_append_left (by omega),List.getElem?_append_left (by omega)]
   exact ⟨h1,h2,h3⟩
  ·obtain rfl:j=n:=by omega
   show (triC O P D j++_)[_]?=_∧(triC O P D j++_)[_]?=_∧(triC O P D j++_)[_]?=_
   rw [List.getElem?_append_right (by omega),List.getElem?_append_right (by omega),List.getElem?_append_right (by omega),hl,Nat.sub_self,show j*3+1-j*3=1 by omega,show j*3+2-j*3=2 by omega]
   exact ⟨rfl,rfl,rfl⟩
theorem triC_cells {w:World} {a:Option Addr} {n:Nat} {O P D:Nat→Int} (h:CallsAt w a n O P D) {b o:Nat} (ha:a=some ⟨b,o,none⟩):∀ j v,(triC O P D n)[j]?=some v→w.cell? ⟨b,o+j,none⟩=some v:=by
 intro j v hj
 have hlt:j<n*3:=by
  have:=(List.getElem?_eq_some_iff.1 hj).1
  rw [triC_len] at this;exact this
 obtain ⟨h1,h2,h3⟩:=triC_at O P D n (j/3) (by omega)
 obtain ⟨b2,o2,e,_,k1,k2,k3⟩:=h.cells (j/3) (by omega)
 rw [ha] at e
 injection e with e
 injection e with e1 e2
 subst e1;subst e2
 have hm:j % 3=0∨j % 3=1∨j % 3=2:=by omega
 rcases hm with hm | hm | hm
 ·have e:j/3*3=j:=by omega
  rw [e] at h1 k1
  rw [k1];rw [h1] at hj;exact hj
 ·have e:j/3*3+1=j:=by omega
  have e2:o+j/3*3+1=o+j:=by omega
  rw [e] at h2;rw [e2] at k2
  rw [k2];rw [h2] at hj;exact hj
 ·have e:j/3*3+2=j:=by omega
  have e2:o+j/3*3+2=o+j:=by omega
  rw [e] at h3;rw [e2] at k3
  rw [k3];rw [h3] at hj;exact hj
theorem ext_calls {w:World} {b n:Nat} {O P D:Nat→Int} {op:Int} {cs:List Value} {fr:Nat × Nat} {rest:List Value} (h:w.heap[b]?=some (.cells cs.toArray 31 fr)) (hc:cs=triC O P D n++[.int .i64 op,.int .i64 0,.int .i64 0]++rest) :
  CallsAt w (some ⟨b,0,none⟩) (n+1) (extI O n op) (extI P n 0) (extI D n 0):=by
 refine ⟨fun j hj=>⟨b,0,rfl,blk_lt h,?_⟩⟩
 have hl:=triC_len O P D n
 simp only [cell_of_row _ _ _ _ _ _ h,Nat.zero_add,List.getElem?_toArray,hc]
 by_cases h2:j<n
 ·obtain ⟨h3,h4,h5⟩:=triC_at O P D n j h2
  unfold extI
  rw [if_pos h2,if_pos h2,if_pos h2,List.append_assoc,List.getElem?_append_left (by omega),List.getElem?_append_left (by omega),List.getElem?_append_left (by omega)]
  exact ⟨h3,h4,h5⟩
 ·obtain rfl:j=n:=by omega
  unfold extI
  have e:∀ k,(triC O P D j++([.int .i64 op,.int .i64 0,.int .i64 0]++rest))[j*3+k]?=([.int .i64 op,.int .i64 0,.int .i64 0]++rest)[k]?:=fun k=>by
   rw [List.getElem?_append_right (by omega),hl,Nat.add_sub_cancel_left]
  rw [if_neg h2,if_neg h2,if_neg h2,List.append_assoc]
  exact ⟨e 0,e 1,e 2⟩
theorem app_calls {w:World} {a:Option Addr} {n q:Nat} {O P D:Nat→Int} {op:Int} {ty:TypeId} (hn:n≤1000) (hC:CallsAt w a n O P D) (ha:∀ ad,a=some ad→∃ b o,ad=⟨b,o,none⟩) (ha0:a=none→n=0) (hq:w.heap[q]?=some (.cells (askC op 0 0) 31 (0,0))):AppC w a n q O P D op ty:=by
 obtain ⟨i,hi⟩:∃ i,Tryz.prog.info? 31=some i:=Option.isSome_iff_exists.1 (by kernel_rfl)
 obtain ⟨z,hz⟩:∃ z,i.zero=some z:=by
  have:(Tryz.prog.info? 31).map (fun i=>i.zero.isSome)=some true:=by kernel_rfl
  rw [hi] at this;exact Option.isSome_iff_exists.1 (by simpa using this)
 have hsz:i.size=3:=by
  have:(Tryz.prog.info? 31).map (·.size)=some 3:=by kernel_rfl
  rw [hi] at this;simpa using this
 have hby:i.bytes=24:=by
  have:(Tryz.prog.info? 31).map (·.bytes)=some 24:=by kernel_rfl
  rw [hi] at this;simpa using this
 have hnews:∀ j v,([.int .i64 op,.int .i64 0,.int .i64 0]:List Value)[j]?=some v→w.cell? ((⟨q,0,none⟩:Addr).add j)=some v:=by
  intro j v hj
  rw [show (⟨q,0,none⟩:Addr).add j=⟨q,j,none⟩ by unfold Addr.add; split <;> simp_all,blk_cell hq]
  unfold askC
  rw [←hj]
  simp
 cases a with
 | none=>
  obtain rfl:n=0:=ha0 rfl
  have hr:=run_append_nil (P:=Tryz.prog) w 23 ty 31 i z Tryz.underlying23 hi hz ⟨q,0,none⟩ 1 1 [.int .i64 op,.int .i64 0,.int .i64 0] (by rw [hsz];rfl) hnews (by decide) (by decide) (by rw [hby];decide)
  refine ⟨_,_,_,hr,grownCap_ge _ _ _ _,(Below.refl _ _).drew.alloc (Nat.le_refl _) _,by show w.heap.size<(w.heap.push _).size;rw [Array.size_push];omega,?_⟩
  refine ext_calls (cs:=[.int .i64 op,.int .i64 0,.int .i64 0]++(Builtin.zeroCells z.cells (grownCap w 1 0 31-1)).toList) (rest:=(Builtin.zeroCells z.cells (grownCap w 1 0 31-1)).toList) (fr:=(0,0)) ?_ rfl
  refine (heap_alloc_new w.drew _).trans ?_
  refine congrArg (fun c=>some (Obj.cells c 31 (0,0))) (Array.ext' ?_)
  simp only [Array.toList_append,List.toList_toArray]
 | some ad=>
  obtain ⟨b,o,rfl⟩:=ha ad rfl
  have hr:=run_append_grow (P:=Tryz.prog) w 23 ty 31 i z Tryz.underlying23 hi hz ⟨b,o,none⟩ n n (triC O P D n) (by rw [triC_len,hsz]) (fun j v hj=>by
    rw [show (⟨b,o,none⟩:Addr).add j=⟨b,o+j,none⟩ by unfold Addr.add; split <;> simp_all]
    exact triC_cells hC rfl j v hj) ⟨q,0,none⟩ 1 1 [.int .i64 op,.int .i64 0,.int .i64 0] (by rw [hsz];rfl) hnews (by omega) (by omega) (by rw [hby];exact growslice_fits (by omega) (by omega))
  refine ⟨_,_,_,hr,grownCap_ge _ _ _ _,(Below.refl _ _).drew.alloc (Nat.le_refl _) _,by show w.heap.size<(w.heap.push _).size;rw [Array.size_push];omega,?_⟩
  refine ext_calls (cs:=triC O P D n++[.int .i64 op,.int .i64 0,.int .i64 0]++(Builtin.zeroCells z.cells (grownCap w (n+1) n 31-(n+1))).toList) (rest:=(Builtin.zeroCells z.cells (grownCap w (n+1) n 31-(n+1))).toList) (fr:=(0,0)) ?_ rfl
  refine (heap_alloc_new w.drew _).trans ?_
  refine congrArg (fun c=>some (Obj.cells c 31 (0,0))) (Array.ext' ?_)
  simp only [Array.toList_append,List.toList_toArray]
theorem pl_self {num:Int} {kd:Nat} {L:List UInt8} (h:kd=4→∃ b:Nat,num=(b:Int)∧isInfF b=false∧isNanF b=false):FloatKind.f64.format.order (plOf num kd L).f (plOf num kd L).f=some .eq:=by
 have h0:FloatKind.f64.format.order 0 0=some .eq:=by decide +kernel
 unfold plOf
 split
 ·exact h0
 ·split
  ·exact h0
  ·split
   ·exact h0
   ·split
    ·next h4=>
     obtain ⟨b,rfl,_,hb⟩:=h h4
     show FloatKind.f64.format.order ((b:Int)).toNat ((b:Int)).toNat=_
     rw [Int.toNat_natCast]
     unfold isNanF at hb
     simpa using hb
    ·exact h0
theorem xy_rel (T:List UInt8) (s:PS) :
  (∃ is l c out,(tdV (valF T s).2)=⟨false,⟨#[]⟩,⟨#[]⟩,0,zVl,0,is,l,c,out⟩∧tdF (fieldF T s).2=⟨false,⟨#[]⟩,⟨#[]⟩,0,zVl,0,is,l,c,out⟩)∨
  ∃ a b k,tdF (fieldF T s).2=⟨true,sOf a,sOf b,k,zVl,0,false,0,0,false⟩∧(1≤k∧k≤5)∧b.length≤T.length∧(k=1→Lib.validD b=true)∧
   ((∃ v,vfR k b=(v,true,false)∧FloatKind.f64.format.order v.f v.f=some .eq∧tdV (valF T s).2=⟨true,sOf a,⟨#[]⟩,0,v,0,false,0,0,false⟩)∨
    ∃ l c out,vfR k b=(zVl,false,out)∧tdV (valF T s).2=⟨false,⟨#[]⟩,⟨#[]⟩,0,zVl,0,true,l,c,out⟩):=by
 unfold valF
 have hg:=@fldF_got T s
 rcases hr:fieldF T s with ⟨s2,r⟩
 rw [hr] at hg
 cases r with
 | flt f=>exact .inl ⟨_,_,_,_,rfl,rfl⟩
 | non=>exact .inl ⟨_,_,_,_,rfl,rfl⟩
 | got x=>
  obtain ⟨a,k,b⟩:=x
  obtain ⟨h1,h2,h3⟩:=hg rfl
  refine .inr ⟨a,b,k,rfl,h1,h2,h3,?_⟩
  have hok:=nvR_ok k b
  cases hn:nvR k b with
  | good num st kd=>
   rw [hn] at hok
   refine .inl ⟨plOf num kd b,by unfold vfR;rw [hn];rfl,pl_self hok.2,?_⟩
   rw [vMap_good hn]
   rfl
  | bad out=>
   obtain ⟨fl,hfl⟩:∃ fl,fltAt T s2.from_ ((advP T 2 s).1.at_+tkN 3 T (advP T 2 s).1.at_+1)=fl:=⟨_,rfl⟩
   refine .inr ⟨(fl.1:Int),(fl.2:Int),out,by unfold vfR;rw [hn];rfl,?_⟩
   rw [vMap_bad hn,hfl]
   rfl
theorem cellsOf_at {l:List TD} {n:Nat} {t:TD} (h:l[n]?=some t):∀ j u,t.cells.toList[j]?=some u→(cellsOf l)[n*15+j]?=some u:=by
 induction l generalizing n with
 | nil=>cases h
 | cons a l ih=>
  intro j u hj
  have ha:a.cells.toList.length=15:=rfl
  have ht:t.cells.toList.length=15:=rfl
  have hj15:j<15:=by have:=(List.getElem?_eq_some_iff.1 hj).1;omega
  have e:cellsOf (a::l)=a.cells.toList++cellsOf l:=rfl
  rw [e]
  cases n with
  | zero=>
   have:a=t:=by simpa using h
   subst this
   rw [Nat.zero_mul,Nat.zero_add,List.getElem?_append_left (by omega)]
   exact hj
  | succ n=>
   rw [List.getElem?_append_right (by omega),ha,show (n+1)*15+j-15=n*15+j by omega]
   exact ih (by simpa using h) j u hj
theorem run_len (T:List UInt8) (f:Nat→Ask):∀ n,(runP T f n).2.length=n
 | 0=>rfl
 | n+1=>by show ((runP T f n).2++[_]).length=_;rw [List.length_append,run_len T f n];rfl
theorem run_last (T:List UInt8) (f:Nat→Ask) (n:Nat):(runP T f (n+1)).2[n]?=some (ansP T (runP T f n).1 (f n)).2:=by
 show ((runP T f n).2++[_])[n]?=_
 rw [List.getElem?_append_right (by rw [run_len];omega),run_len,Nat.sub_self]
 rfl
theorem run_congr (T:List UInt8) (f g:Nat→Ask):∀ n,(∀ j,j<n→f j=g j)→runP T f n=runP T g n
 | 0,_=>rfl
 | n+1,h=>by
  show ((ansP T (runP T f n).1 (f n)).1,(runP T f n).2++[(ansP T (runP T f n).1 (f n)).2])=((ansP T (runP T g n).1 (g n)).1,(runP T g n).2++[(ansP T (runP T g n).1 (g n)).2])
  rw [run_congr T f g n (fun j hj=>h j (by omega)),h n (by omega)]
theorem run_load39 {w:World} {lv:Value} {N n:Nat} {l:List TD} {t:TD} {j:Nat} (ho:w.ownsRow N 39 15 lv n (cellsOf l)) (ht:l[j]?=some t) (hj:j<n):∃ b cap,lv=.slice (some ⟨b,0,none⟩) n cap∧b<w.heap.size∧n≤cap∧∀ w',w'.heap[b]?=w.heap[b]?→(loadVar 39 ⟨b,j*15,none⟩).run Tryz.prog w'=.ok (.agg t.cells) w':=by
 rcases ho.2 with ⟨_,h0⟩ | ⟨b,cap,cur,hv,_,hb,h1,h2,h3,h4⟩
 ·omega
 ·refine ⟨b,cap,hv,blk_lt hb,h1,fun w' hw=>?_⟩
  have hb':=hw.trans hb
  have hl:=run_loadCells_list (P:=Tryz.prog) w' ⟨b,j*15,none⟩ t.cells.toList (fun i u hi=>by
   rw [show (⟨b,j*15,none⟩:Addr).add i=⟨b,j*15+i,none⟩ by unfold Addr.add; split <;> simp_all,blk_cell hb']
   have:=cellsOf_at ht i u hi
   rw [←h4,List.getElem?_take] at this
   split at this
   ·rw [←Array.getElem?_toList];exact this
   ·cases this)
  obtain ⟨i,hi⟩:∃ i,Tryz.prog.info? 39=some i:=Option.isSome_iff_exists.1 (by kernel_rfl)
  have hsz:i.size=15:=by
   have:(Tryz.prog.info? 39).map (·.size)=some 15:=by kernel_rfl
   rw [hi] at this;simpa using this
  have hl15:t.cells.toList.length=15:=rfl
  rw [hl15] at hl
  simp [loadVar,isAgg,run_underlying Tryz.underlying39,sizeOf,typeInfo,hi,hsz,hl]
theorem load_run {o:Oper} {a:Act} {w:World} {v:Value} (ty:TypeId) (x:Operand) (ho:o.op=.load ty x) (ad:Addr) (hx:a.eval x=.pointer (some ad)) (hr:(loadVar ty ad).run Tryz.prog w=.ok v w):(execOp a.eval o).run Tryz.prog w=.ok (.value v) w:=by
 unfold execOp
 simp only [ho,hx,Instr.loadAt,Instr.sureAddr,Sem.run_bind,Sem.run_pure,Result.andThen_ok,hr]
end Go.Proofs.YtkfggfjdplnkpaaGreatDoor
end
section
namespace Go.Proofs.YtkfggfjdplnkpaaGreatDoor
open Go Go.RowKit Go.Proofs.YtkfggfjdplnkpaaGreatDoorW.PrintLast
theorem wpList_appc {ops:Array Oper} {rest:List Oper} {oi:Oper} {a:Act} {W:World} {Q:Exit→Act→World→Prop} (hgd:oi.guard=none) (s x:Operand) (ho:oi.op=.call { callee:=.builtin .append,args:=#[s,x],argTypes:=#[23,23] })
  (ca:Option Addr) (n q:Nat) (O P D:Nat→Int) (op:Int) (hs:a.eval s=.slice ca n n) (hx:a.eval x=.slice (some ⟨q,0,none⟩) 1 1) (happ:AppC W ca n q O P D op oi.type)
  (h:∀ b cap W',n+1≤cap→Below W.heap.size W W'→W.heap.size<W'.heap.size→CallsAt W' (some ⟨b,0,none⟩) (n+1) (extI O n op) (extI P n 0) (extI D n 0)→wpList Tryz.prog ops Q rest (a.put oi.dst (.slice (some ⟨b,0,none⟩) (n+1) cap)) W'):wpList Tryz.prog ops Q (oi::rest) a W:=
 wpList_plain hgd fun _ hK=>by
  obtain ⟨b,cap,W',hr,h1,h2,h3,h4⟩:=happ
  unfold Oper.wp execOp
  simp only [ho,resolve,invoke,builtin,Sem.run_bind,Sem.run_pure,Result.andThen_ok,List.map_toArray,List.map_cons,List.map_nil,hs,hx,hr]
  exact hK _ _ (h b cap W' h1 h2 h3 h4)
theorem wpList_store_new {ops:Array Oper} {rest:List Oper} {o:Oper} {a:Act} {w:World} {Q:Exit→Act→World→Prop} (hgd:o.guard=none) (x y:Operand) (ho:o.op=.store 35 x y)
  (v:Vl) (hx:a.eval x=.pointer (some ⟨w.heap.size,0,none⟩)) (hy:a.eval y=.agg v.cells)
  (h:∀ W',Below w.heap.size w W'→W'.heap[w.heap.size]?=some (.cells v.cells 35 (0,0))→wpList Tryz.prog ops Q rest (a.put o.dst undef) W'):wpList Tryz.prog ops Q (o::rest) a (w.alloc (.cells #[.int .i64 0,.string ⟨#[]⟩,.int .i64 0,.int .u64 0,.float .f64 0,.bool false] 35)):=
 wpList_store_row hgd 35 x y ho w.heap.size v.cells hx hy 35 plZ (heap_alloc_new _ _) (by kernel_rfl) rfl (vl_all v)
  (h _ (((Below.refl _ _).alloc (Nat.le_refl _) _).trans ⟨rfl,rfl,rfl,by simp [World.setRow],fun k hk=>setRow_other _ _ _ _ (by omega)⟩) (setRow_heap _ _ _ _ _ _ (heap_alloc_new _ _)))
def askF (O P D:Nat→Int) (n op:Nat):Nat→Ask:=fun j=>if j<n then ⟨(O j).toNat,P j,D j⟩ else ⟨op,0,0⟩
theorem askF_ok {O P D:Nat→Int} {n op:Nat} (hop:op=3∨op=4) (hok:∀ j,j<n→okA (O j) (P j) (D j)) (hr:∀ j,j<n→D j≤9223372036854775807) :
  ∀ j,j<n+1→AskOk (askF O P D n op j)∧((askF O P D n op j).op:Int)=extI O n (op:Int) j∧(askF O P D n op j).prec=extI P n 0 j∧(askF O P D n op j).d=extI D n 0 j:=by
 intro j hj
 unfold askF extI
 by_cases h:j<n
 ·obtain ⟨h1,h2,h3⟩:=hok j h
  have h4:=hr j h
  rw [if_pos h,if_pos h,if_pos h,if_pos h]
  refine ⟨⟨by show (O j).toNat≤6;omega,fun e=>?_⟩,by show ((O j).toNat:Int)=O j;omega,rfl,rfl⟩
  have e2:(O j).toNat=6:=e
  obtain ⟨h5,h6,h7⟩:=h3 (by omega)
  exact ⟨h5,h6,by show _≤D j;omega,h4⟩
 ·rw [if_neg h,if_neg h,if_neg h,if_neg h]
  exact ⟨⟨by show op≤6;omega,fun e=>by have e2:op=6:=e;omega⟩,rfl,rfl,rfl⟩
set_option maxHeartbeats 8000000 in
theorem values_spec {w:World} {aR aS aO:Addr} {n cc:Nat} {t:ByteArray} {ca:Option Addr} {O P D:Nat→Int} (hI:Init w w.heap.size) (hT:Tabs w w.heap.size) (hV:EV w w.heap.size aR aS aO) (hC:CallsAt w ca n O P D) (ha:∀ ad,ca=some ad→∃ b o,ad=⟨b,o,none⟩) (ha0:ca=none→n=0) (hcap:n≤cc) (hcm:cc≤maxLen) (hr:∀ j,j<n→D j≤9223372036854775807) :
  Calls Tryz.prog 4 #[.string t,.slice ca n cc] w (RetB w (.bool true)):=by
 by_cases t1:2147483647<t.size
 ·have t2:(2147483647:Int)<(t.size:Int):=by omega
  go_enter Tryz.func4,Tryz.ntmps4
  go_wp2_with fail
  go_ret
  exact ⟨rfl,Below.refl _ _⟩
 ·have t2:¬(2147483647:Int)<(t.size:Int):=by omega
  by_cases n1:2147483647<n
  ·have n2:(2147483647:Int)<(n:Int):=by omega
   go_enter Tryz.func4,Tryz.ntmps4
   go_wp2_with fail
   go_ret
   exact ⟨rfl,Below.refl _ _⟩
  ·have n2:¬(2147483647:Int)<(n:Int):=by omega
   by_cases n3:150<n
   ·have n4:(150:Int)<(n:Int):=by omega
    go_enter Tryz.func4,Tryz.ntmps4
    go_wp2_with fail
    go_ret
    exact ⟨rfl,Below.refl _ _⟩
   ·have n4:¬(150:Int)<(n:Int):=by omega
    have n5:(n:Int)≤150:=by omega
    have HAS:=Lib.hid (asd_spec (w:=w) (t:=t) (sa:=none) (sn:=0) (sc:=0) (ca:=ca) (cc:=cc) (n:=n) (O:=O) (P:=P) (D:=D) (by omega) hcap hC)
    have HN:Hid (n≤1000):=Lib.hid (by omega)
    have HA:=Lib.hid ha
    have HA0:=Lib.hid ha0
    have HC:=Lib.hid hC
    have HR:=Lib.hid hr
    have HI:=Lib.hid hI
    have HT:=Lib.hid hT
    have HV:=Lib.hid hV
    have c1:(n:Int)≤(cc:Int):=by omega
    have c2:n≤cc:=hcap
    have HCM:=Lib.hid hcm
    clear hI hT hV hC ha ha0 hcap hcm hr t1 n1 n3
    go_enter Tryz.func4,Tryz.ntmps4
    go_wp2_with fail
    refine HAS.out.mono ?_
    clear HAS
    rintro e W1 ⟨b,rfl,hb1,hok⟩
    cases b with
    | false=>
     have HB1:=Lib.hid hb1
     clear hok hb1
     go_wp2_with fail
     go_ret
     exact ⟨rfl,HB1.out⟩
    | true=>
     obtain ⟨ht8,_,_,hokc⟩:=hok rfl
     have HOK:=Lib.hid hokc
     have WD:Hid (Wd w w.heap.size aR aS aO t.data.toList):=Lib.hid ⟨HI.out,HT.out,HV.out,by have:t.data.toList.length=t.size:=Array.length_toList;omega⟩
     have HT8:=Lib.hid ht8
     have HB1:=Lib.hid hb1
     have HC1:=Lib.hid (HC.out.below hb1)
     clear hok hb1 ht8 hokc HI HT HV HC
     go_wp2_with (at_builtin;refine wpList_appc rfl (.tmp 41) (.tmp 43) rfl ca n W1.heap.size O P D 3 rfl rfl (app_calls HN.out (HC1.out.below ((Below.refl _ _).alloc (Nat.le_refl _) _)) HA.out HA0.out (heap_alloc_new _ _)) ?_;intro b2 cap2 W2 hcap2 hb2 hlt2 hCV2)
     have hbW2:Below w.heap.size w W2:=HB1.out.trans (((Below.refl W1.heap.size W1).alloc (Nat.le_refl _) _ |>.trans (hb2.mono (by show W1.heap.size≤(W1.heap.push _).size;rw [Array.size_push];omega))).mono HB1.out.size)
     have hb12:Below W1.heap.size W1 W2:=(Below.refl W1.heap.size W1).alloc (Nat.le_refl _) _ |>.trans (hb2.mono (by show W1.heap.size≤(W1.heap.push _).size;rw [Array.size_push];omega))
     have HSC:=Lib.hid (script_spec (w:=W2) (sa:=none) (sn:=0) (sc:=0) (f:=askF O P D n 3) (WD.out.up hbW2) (by have:=HN.out;omega) hcap2 hCV2 (askF_ok (.inl rfl) HOK.out HR.out) (fun W hb=>dec_bytes HT8.out hb.size none 0 false))
     have HB2:=Lib.hid hbW2
     have HC2:=Lib.hid (HC1.out.below hb12)
     clear hcap2 hb2 hlt2 hCV2 hbW2 hb12 HB1 HC1
     refine HSC.out.mono ?_
     clear HSC
     rintro e W3 ⟨lv1,rfl,hb3,how1⟩
     obtain ⟨la1,lc1,rfl⟩:=own_slice how1
     have HB3:=Lib.hid (HB2.out.trans (hb3.mono HB2.out.size))
     have HC3:=Lib.hid (HC2.out.below hb3)
     have HO1:=Lib.hid how1
     clear hb3 how1 HB2 HC2
     go_wp2_with (at_builtin;refine wpList_appc rfl (.tmp 54) (.tmp 56) rfl ca n W3.heap.size O P D 4 rfl rfl (app_calls HN.out (HC3.out.below ((Below.refl _ _).alloc (Nat.le_refl _) _)) HA.out HA0.out (heap_alloc_new _ _)) ?_;intro b4 cap4 W4 hcap4 hb4 hlt4 hCV4)
     have hb34:Below W3.heap.size W3 W4:=(Below.refl W3.heap.size W3).alloc (Nat.le_refl _) _ |>.trans (hb4.mono (by show W3.heap.size≤(W3.heap.push _).size;rw [Array.size_push];omega))
     have hbW4:Below w.heap.size w W4:=HB3.out.trans (hb34.mono HB3.out.size)
     have HSC:=Lib.hid (script_spec (w:=W4) (sa:=none) (sn:=0) (sc:=0) (f:=askF O P D n 4) (WD.out.up hbW4) (by have:=HN.out;omega) hcap4 hCV4 (askF_ok (.inr rfl) HOK.out HR.out) (fun W hb=>dec_bytes HT8.out hb.size none 0 false))
     have HO14:=Lib.hid (own_below HO1.out hb34)
     have HB4:=Lib.hid hbW4
     clear hcap4 hb4 hlt4 hCV4 hbW4 hb34 HB3 HC3 HO1
     refine HSC.out.mono ?_
     clear HSC
     rintro e W ⟨lv2,rfl,hb5,how2⟩
     obtain ⟨la2,lc2,rfl⟩:=own_slice how2
     obtain ⟨bx,kx,hx1,hx2,hx3,hx4⟩:=run_load39 (own_below HO14.out hb5) (run_last t.data.toList (askF O P D n 3) n) (Nat.lt_succ_self n)
     obtain ⟨by_,ky,hy1,hy2,hy3,hy4⟩:=run_load39 how2 (run_last t.data.toList (askF O P D n 4) n) (Nat.lt_succ_self n)
     injection hx1 with hx1 _ hx5
     injection hy1 with hy1 _ hy5
     subst hx1;subst hx5;subst hy1;subst hy5
     have HB5:=Lib.hid (HB4.out.trans (hb5.mono HB4.out.size))
     have hsame:(runP t.data.toList (askF O P D n 4) n).1=(runP t.data.toList (askF O P D n 3) n).1:=by
      rw [run_congr t.data.toList (askF O P D n 4) (askF O P D n 3) n (fun j hj=>by unfold askF;rw [if_pos hj,if_pos hj])]
     have hfx:askF O P D n 3 n=⟨3,0,0⟩:=by unfold askF;rw [if_neg (Nat.lt_irrefl n)]
     have hfy:askF O P D n 4 n=⟨4,0,0⟩:=by unfold askF;rw [if_neg (Nat.lt_irrefl n)]
     rw [hfx] at hx4
     rw [hfy,hsame] at hy4
     obtain ⟨s,hs⟩:∃ s,(runP t.data.toList (askF O P D n 3) n).1=s:=⟨_,rfl⟩
     rw [hs] at hx4 hy4
     have hxy:=xy_rel t.data.toList s
     obtain ⟨X,hX⟩:∃ X,(ansP t.data.toList s ⟨3,0,0⟩).2=X:=⟨_,rfl⟩
     obtain ⟨Y,hY⟩:∃ Y,(ansP t.data.toList s ⟨4,0,0⟩).2=Y:=⟨_,rfl⟩
     rw [hX] at hx4
     rw [hY] at hy4
     have hX2:tdV (valF t.data.toList s).2=X:=hX
     have hY2:tdF (fieldF t.data.toList s).2=Y:=hY
     rw [hX2,hY2] at hxy
     have LX:=Lib.hid (fun w' (hb:Below W.heap.size W w')=>hx4 w' (hb.block bx hx2))
     have LY:=Lib.hid (fun w' (hb:Below W.heap.size W w')=>hy4 w' (hb.block by_ hy2))
     have HXY:=Lib.hid hxy
     have WD5:=Lib.hid (WD.out.up HB5.out)
     have i1:(n:Int)<((n+1:Nat):Int):=by omega
     have i2:(n:Int)<(n:Int)+1:=by omega
     clear hb5 how2 hx4 hy4 hsame hfx hfy hs hX hY hX2 hY2 hxy hx2 hy2 hx3 hy3 HO14 HB4 WD
     go_upto_region 10 with fail
     show Code.wp Tryz.prog _ _ _ W
     refine start_ (n:=12) (S:=fun w'=>Below (W).heap.size (W) w') (ds:=[]) (bA 12 0) (by kernel_rfl) rfl rfl (Below.refl _ _).drew (fun _=>?_)
     refine pure_ (i:=0) (N:=some 82) (v:=?_) (a':=?_) (bA 12 1) rfl rfl (by kernel_rfl) (fun _ _ _ h=>h) (Or.inl ⟨by rfl,?_⟩) ?_ ?_
     rotate_left
     ·intro w';go_simp;with_reducible rfl
     rotate_left
     ·simp only [Act.put,aA,aB,aC];rfl
     refine pure_ (i:=1) (N:=some 83) (v:=?_) (a':=?_) (bA 12 3) rfl rfl (by kernel_rfl) (fun _ _ _ h=>h) (Or.inl ⟨by rfl,?_⟩) ?_ ?_
     rotate_left
     ·intro w';go_simp;with_reducible rfl
     rotate_left
     ·simp only [Act.put,aA,aB,aC];rfl
     refine pure_ (i:=2) (N:=some 84) (v:=?_) (a':=?_) (bA 12 7) rfl rfl (by kernel_rfl) (fun _ _ _ h=>h) (Or.inl ⟨by rfl,?_⟩) ?_ ?_
     rotate_left
     ·intro w';go_simp;with_reducible rfl
     rotate_left
     ·simp only [Act.put,aA,aB,aC];rfl
     refine take_ (i:=3) (N:=some 85) (v:=.agg X.cells) (a':=?_) (bA 12 15) rfl rfl (by kernel_rfl) (fun _ _ _ h=>h) (Or.inl ⟨by rfl,?_⟩) (Below.refl _ _).drew ?_ ?_
     ·intro w' hS;exact load_run 39 (.tmp 84) rfl _ rfl (LX.out w' hS)
     rotate_left
     ·simp only [Act.put,aA,aB,aC];rfl
     refine pure_ (i:=4) (N:=some 86) (v:=?_) (a':=?_) (bA 12 31) rfl rfl (by kernel_rfl) (fun _ _ _ h=>h) (Or.inl ⟨by rfl,?_⟩) ?_ ?_
     rotate_left
     ·intro w';go_simp;with_reducible rfl
     rotate_left
     ·simp only [Act.put,aA,aB,aC];rfl
     refine pure_ (i:=5) (N:=some 87) (v:=?_) (a':=?_) (bA 12 63) rfl rfl (by kernel_rfl) (fun _ _ _ h=>h) (Or.inl ⟨by rfl,?_⟩) ?_ ?_
     rotate_left
     ·intro w';go_simp;with_reducible rfl
     rotate_left
     ·simp only [Act.put,aA,aB,aC];rfl
     refine pure_ (i:=6) (N:=some 88) (v:=?_) (a':=?_) (bA 12 127) rfl rfl (by kernel_rfl) (fun _ _ _ h=>h) (Or.inl ⟨by rfl,?_⟩) ?_ ?_
     rotate_left
     ·intro w';go_simp;with_reducible rfl
     rotate_left
     ·simp only [Act.put,aA,aB,aC];rfl
     refine take_ (i:=7) (N:=some 89) (v:=.agg Y.cells) (a':=?_) (bA 12 255) rfl rfl (by kernel_rfl) (fun _ _ _ h=>h) (Or.inl ⟨by rfl,?_⟩) (Below.refl _ _).drew ?_ ?_
     ·intro w' hS;exact load_run 39 (.tmp 88) rfl _ rfl (LY.out w' hS)
     rotate_left
     ·simp only [Act.put,aA,aB,aC];rfl
     refine join_ (σ:=Nat × Nat) 2 (bA 12 1023) (fun q=>[(12,.pointer (some ⟨q.1,0,none⟩)),(13,.pointer (some ⟨q.2,0,none⟩))]) (fun q w'=>Below W.heap.size W w'∧w'.heap[q.1]?=some (.cells zTD.cells 39 (0,0))∧w'.heap[q.2]?=some (.cells zTD.cells 39 (0,0))∧q.1≠q.2∧W.heap.size≤q.1∧W.heap.size≤q.2) ?_ ?_
     rotate_left
     ·intro HC
      have HCC:=Lib.hid HC
      clear HC
      have hb0:Below W.heap.size W (W.drew.alloc (.cells zTD.cells 39)):=((Below.refl _ _).drew).alloc (Nat.le_refl _) _
      have hb1:=hb0.alloc hb0.size (.cells zTD.cells 39)
      have hs:(W.drew.alloc (.cells zTD.cells 39)).heap.size=W.heap.size+1:=Array.size_push _
      refine two_ (i:=8) (j:=9) (Ni:=some 12) (Nj:=some 13) #[true,true,true,true,true,true,true,true,true,false,false,false] (bA 12 767) rfl rfl rfl rfl (by kernel_rfl) (by decide) (by decide) (fun K hK=>?_) (fun K hK=>?_)
      ·refine value_ (v:=.pointer (some ⟨W.drew.heap.size,0,none⟩)) (w1:=W.drew.alloc (.cells zTD.cells 39)) (by rfl) rfl (by go_simp;rfl) ?_
       refine hK.out _ _ hb0 (fun _=>?_)
       clear hK K
       refine one_ (i:=9) (N:=some 13) (bA 12 1023) rfl rfl (by kernel_rfl) (by decide) (fun K hK=>?_)
       refine value_ (v:=.pointer (some ⟨(W.drew.alloc (.cells zTD.cells 39)).heap.size,0,none⟩)) (w1:=(W.drew.alloc (.cells zTD.cells 39)).alloc (.cells zTD.cells 39)) (by rfl) rfl (by go_simp;rfl) ?_
       refine hK.out _ _ hb1 (fun _=>?_)
       exact HCC.out (W.drew.heap.size,(W.drew.alloc (.cells zTD.cells 39)).heap.size) _ ⟨hb1,heap_alloc2_old _ _ _,heap_alloc_new _ _,by rw [hs];show W.heap.size≠_;omega,Nat.le_refl _,by rw [hs];exact Nat.le_succ _⟩
      ·refine value_ (v:=.pointer (some ⟨W.drew.heap.size,0,none⟩)) (w1:=W.drew.alloc (.cells zTD.cells 39)) (by rfl) rfl (by go_simp;rfl) ?_
       refine hK.out _ _ hb0 (fun _=>?_)
       clear hK K
       refine one_ (i:=8) (N:=some 12) (bA 12 1023) rfl rfl (by kernel_rfl) (by decide) (fun K hK=>?_)
       refine value_ (v:=.pointer (some ⟨(W.drew.alloc (.cells zTD.cells 39)).heap.size,0,none⟩)) (w1:=(W.drew.alloc (.cells zTD.cells 39)).alloc (.cells zTD.cells 39)) (by rfl) rfl (by go_simp;rfl) ?_
       refine hK.out _ _ hb1 (fun _=>?_)
       exact HCC.out ((W.drew.alloc (.cells zTD.cells 39)).heap.size,W.drew.heap.size) _ ⟨hb1,heap_alloc_new _ _,heap_alloc2_old _ _ _,by rw [hs];show _≠W.heap.size;omega,by rw [hs];exact Nat.le_succ _,Nat.le_refl _⟩
     ·rintro ⟨q1,q2⟩ W6 ⟨hb6,hq1,hq2,hne,hl1,hl2⟩
      have hb7:Below W.heap.size W (W6.setRow q1 X.cells):=hb6.trans ⟨rfl,rfl,rfl,by simp [World.setRow],fun k hk=>setRow_other _ _ _ _ (by have:W.heap.size≤q1:=hl1;omega)⟩
      have hb8:Below W.heap.size W ((W6.setRow q1 X.cells).setRow q2 Y.cells):=hb7.trans ⟨rfl,rfl,rfl,by simp [World.setRow],fun k hk=>setRow_other _ _ _ _ (by have:W.heap.size≤q2:=hl2;omega)⟩
      have hq3:(W6.setRow q1 X.cells).heap[q2]?=some (.cells zTD.cells 39 (0,0)):=(setRow_other _ _ _ _ (fun e=>hne e.symm)).trans hq2
      have hq5:((W6.setRow q1 X.cells).setRow q2 Y.cells).heap[q1]?=some (.cells X.cells 39 (0,0)):=(setRow_other _ _ _ _ hne).trans (setRow_heap _ _ _ _ _ _ hq1)
      have hq6:((W6.setRow q1 X.cells).setRow q2 Y.cells).heap[q2]?=some (.cells Y.cells 39 (0,0)):=setRow_heap _ _ _ _ _ _ hq3
      have HQ1:=Lib.hid hq1
      have HQ3:=Lib.hid hq3
      have HB7:=Lib.hid hb7
      have HB8:=Lib.hid hb8
      have HQ5:=Lib.hid hq5
      have HQ6:=Lib.hid hq6
      clear hb6 hq1 hq2 hl1 hl2 hb7 hb8 hq3 hq5 hq6
      refine norm_ (a':=?_) ?_ ?_
      rotate_left
      ·simp only [putAll,Act.put,List.setIfInBounds_toArray,List.set_cons_zero,List.set_cons_succ];rfl
      refine one_ (i:=10) (N:=none) (bA 12 2047) rfl rfl (by kernel_rfl) (by decide) (fun K hK=>?_)
      refine skip_ (by rfl) rfl (row_run0 39 (.tmp 12) (.tmp 85) rfl q1 X.cells (by rfl) (by rfl) 39 _ HQ1.out (by kernel_rfl) rfl (td_all X)) ?_
      refine hK.out _ _ HB7.out (fun _=>?_)
      clear hK K
      refine one_ (i:=11) (N:=none) (bA 12 4095) rfl rfl (by kernel_rfl) (by decide) (fun K hK=>?_)
      refine skip_ (by rfl) rfl (row_run0 39 (.tmp 13) (.tmp 89) rfl q2 Y.cells (by rfl) (by rfl) 39 _ HQ3.out (by kernel_rfl) rfl (td_all Y)) ?_
      refine hK.out _ _ HB8.out (fun _=>?_)
      clear hK K
      refine done_ (by kernel_rfl) ?_
      obtain ⟨W8,hW8⟩:∃ W8,(W6.setRow q1 X.cells).setRow q2 Y.cells=W8:=⟨_,rfl⟩
      rw [hW8] at HB8 HQ5 HQ6 ⊢
      have WD8:=Lib.hid (WD5.out.up HB8.out)
      have HBB:=Lib.hid (HB5.out.trans (HB8.out.mono HB5.out.size))
      clear HQ1 HQ3 HB7 hW8 LX LY HB5 HB8 WD5
      rcases HXY.out with ⟨is,l,c,out,rfl,rfl⟩ | ⟨a,b,k,rfl,hk,hbl,hvd,h⟩
      ·clear HXY
       have d1_0:W8.cell? ⟨q1,0,none⟩=some (.bool false):=blk_cell HQ5.out 0
       have d1_11:W8.cell? ⟨q1,11,none⟩=some (.bool is):=blk_cell HQ5.out 11
       have d1_12:W8.cell? ⟨q1,12,none⟩=some (.int .i64 l):=blk_cell HQ5.out 12
       have d1_13:W8.cell? ⟨q1,13,none⟩=some (.int .i64 c):=blk_cell HQ5.out 13
       have d1_14:W8.cell? ⟨q1,14,none⟩=some (.bool out):=blk_cell HQ5.out 14
       have d2_0:W8.cell? ⟨q2,0,none⟩=some (.bool false):=blk_cell HQ6.out 0
       have d2_11:W8.cell? ⟨q2,11,none⟩=some (.bool is):=blk_cell HQ6.out 11
       have d2_12:W8.cell? ⟨q2,12,none⟩=some (.int .i64 l):=blk_cell HQ6.out 12
       have d2_13:W8.cell? ⟨q2,13,none⟩=some (.int .i64 c):=blk_cell HQ6.out 13
       have d2_14:W8.cell? ⟨q2,14,none⟩=some (.bool out):=blk_cell HQ6.out 14
       go_wp2_with fail
       go_ret
       exact ⟨by simp,HBB.out⟩
      ·clear HXY
       have HVF:=Lib.hid (vfb_spec WD8.out.tabs WD8.out.ev WD8.out.init.tab hk (by have:=WD8.out.len;omega) hvd)
       rcases h with ⟨v,hv1,hv2,rfl⟩ | ⟨l,c,out,hv1,rfl⟩
       ·rw [hv1] at HVF
        have HSM:=Lib.hid (same_spec v hv2)
        clear hv1 hv2 hk hbl hvd
        have d2_0:W8.cell? ⟨q2,0,none⟩=some (.bool true):=blk_cell HQ6.out 0
        have d2_11:W8.cell? ⟨q2,11,none⟩=some (.bool false):=blk_cell HQ6.out 11
        have d2_12:W8.cell? ⟨q2,12,none⟩=some (.int .i64 0):=blk_cell HQ6.out 12
        have d2_13:W8.cell? ⟨q2,13,none⟩=some (.int .i64 0):=blk_cell HQ6.out 13
        have d2_14:W8.cell? ⟨q2,14,none⟩=some (.bool false):=blk_cell HQ6.out 14
        have d2_1:W8.cell? ⟨q2,1,none⟩=some (.string (sOf a)):=blk_cell HQ6.out 1
        have d2_2:W8.cell? ⟨q2,2,none⟩=some (.string (sOf b)):=blk_cell HQ6.out 2
        have d2_3:W8.cell? ⟨q2,3,none⟩=some (.int .i64 (k:Int)):=blk_cell HQ6.out 3
        go_wp2_with fail
        refine HVF.out.mono ?_
        clear HVF
        rintro e W9 ⟨rfl,hb9⟩
        have HB9:=Lib.hid hb9
        clear hb9
        go_upto_region 14 with (with_reducible refine wpList_store_new rfl (.tmp 14) (.tmp 116) rfl v rfl rfl ?_;intro W10 hb10 hq10)
        have hb11:=HB9.out.trans (hb10.mono HB9.out.size)
        have HB11:=Lib.hid (HBB.out.trans (hb11.mono HBB.out.size))
        have HX:=Lib.hid ((hb11.block _ (blk_lt HQ5.out)).trans HQ5.out)
        have HY:=Lib.hid ((hb11.block _ (blk_lt HQ6.out)).trans HQ6.out)
        have HZ:=Lib.hid hq10
        clear hb10 hq10 hb11 HB9 d2_0 d2_11 d2_12 d2_13 d2_14 d2_1 d2_2 d2_3
        have c1_0:W10.cell? ⟨q1,0,none⟩=some (.bool true):=blk_cell HX.out 0
        have c1_11:W10.cell? ⟨q1,11,none⟩=some (.bool false):=blk_cell HX.out 11
        have c1_12:W10.cell? ⟨q1,12,none⟩=some (.int .i64 0):=blk_cell HX.out 12
        have c1_13:W10.cell? ⟨q1,13,none⟩=some (.int .i64 0):=blk_cell HX.out 13
        have c1_14:W10.cell? ⟨q1,14,none⟩=some (.bool false):=blk_cell HX.out 14
        have c1_1:W10.cell? ⟨q1,1,none⟩=some (.string (sOf a)):=blk_cell HX.out 1
        have c1_4:W10.cell? ⟨q1,4,none⟩=some (.int .i64 (v.kind:Int)):=blk_cell HX.out 4
        have c1_5:W10.cell? ⟨q1,5,none⟩=some (.string v.s):=blk_cell HX.out 5
        have c1_6:W10.cell? ⟨q1,6,none⟩=some (.int .i64 v.n):=blk_cell HX.out 6
        have c1_7:W10.cell? ⟨q1,7,none⟩=some (.int .u64 v.u):=blk_cell HX.out 7
        have c1_8:W10.cell? ⟨q1,8,none⟩=some (.float .f64 v.f):=blk_cell HX.out 8
        have c1_9:W10.cell? ⟨q1,9,none⟩=some (.bool v.b):=blk_cell HX.out 9
        have c2_0:W10.cell? ⟨q2,0,none⟩=some (.bool true):=blk_cell HY.out 0
        have c2_1:W10.cell? ⟨q2,1,none⟩=some (.string (sOf a)):=blk_cell HY.out 1
        have c3_0:W10.cell? ⟨W9.heap.size,0,none⟩=some (.int .i64 (v.kind:Int)):=blk_cell HZ.out 0
        have c3_1:W10.cell? ⟨W9.heap.size,1,none⟩=some (.string v.s):=blk_cell HZ.out 1
        have c3_2:W10.cell? ⟨W9.heap.size,2,none⟩=some (.int .i64 v.n):=blk_cell HZ.out 2
        have c3_3:W10.cell? ⟨W9.heap.size,3,none⟩=some (.int .u64 v.u):=blk_cell HZ.out 3
        have c3_4:W10.cell? ⟨W9.heap.size,4,none⟩=some (.float .f64 v.f):=blk_cell HZ.out 4
        have c3_5:W10.cell? ⟨W9.heap.size,5,none⟩=some (.bool v.b):=blk_cell HZ.out 5
        go_wp2_with fail
        refine (HSM.out W10).mono ?_
        rintro e W11 ⟨rfl,hb12⟩
        have HB12:=Lib.hid (HB11.out.trans (hb12.mono HB11.out.size))
        clear hb12
        go_wp2_with fail
        go_ret
        exact ⟨rfl,HB12.out⟩
       ·rw [hv1] at HVF
        clear hv1 hk hbl hvd
        have d2_0:W8.cell? ⟨q2,0,none⟩=some (.bool true):=blk_cell HQ6.out 0
        have d2_11:W8.cell? ⟨q2,11,none⟩=some (.bool false):=blk_cell HQ6.out 11
        have d2_12:W8.cell? ⟨q2,12,none⟩=some (.int .i64 0):=blk_cell HQ6.out 12
        have d2_13:W8.cell? ⟨q2,13,none⟩=some (.int .i64 0):=blk_cell HQ6.out 13
        have d2_14:W8.cell? ⟨q2,14,none⟩=some (.bool false):=blk_cell HQ6.out 14
        have d2_1:W8.cell? ⟨q2,1,none⟩=some (.string (sOf a)):=blk_cell HQ6.out 1
        have d2_2:W8.cell? ⟨q2,2,none⟩=some (.string (sOf b)):=blk_cell HQ6.out 2
        have d2_3:W8.cell? ⟨q2,3,none⟩=some (.int .i64 (k:Int)):=blk_cell HQ6.out 3
        go_wp2_with fail
        refine HVF.out.mono ?_
        clear HVF
        rintro e W9 ⟨rfl,hb9⟩
        have HB9:=Lib.hid hb9
        clear hb9
        go_upto_region 14 with (with_reducible refine wpList_store_new rfl (.tmp 14) (.tmp 116) rfl zVl rfl rfl ?_;intro W10 hb10 hq10)
        have hb11:=HB9.out.trans (hb10.mono HB9.out.size)
        have HB11:=Lib.hid (HBB.out.trans (hb11.mono HBB.out.size))
        have HX:=Lib.hid ((hb11.block _ (blk_lt HQ5.out)).trans HQ5.out)
        have HY:=Lib.hid ((hb11.block _ (blk_lt HQ6.out)).trans HQ6.out)
        have HZ:=Lib.hid hq10
        clear hb10 hq10 hb11 HB9 d2_0 d2_11 d2_12 d2_13 d2_14 d2_1 d2_2 d2_3
        have c1_0:W10.cell? ⟨q1,0,none⟩=some (.bool false):=blk_cell HX.out 0
        have c1_11:W10.cell? ⟨q1,11,none⟩=some (.bool true):=blk_cell HX.out 11
        have c1_12:W10.cell? ⟨q1,12,none⟩=some (.int .i64 l):=blk_cell HX.out 12
        have c1_13:W10.cell? ⟨q1,13,none⟩=some (.int .i64 c):=blk_cell HX.out 13
        have c1_14:W10.cell? ⟨q1,14,none⟩=some (.bool out):=blk_cell HX.out 14
        go_wp2_with fail
        go_ret
        exact ⟨by simp,HB11.out⟩
end Go.Proofs.YtkfggfjdplnkpaaGreatDoor
end
section
namespace Go.Proofs.YtkfggfjdplnkpaaGreatDoor
open Go Go.RowKit Go.ChangeShapes Go.WideShapes Go.Lib
section
variable {w:World}
noncomputable abbrev Rd (w:World):=DataW.trod (fun _:TypeId × Value=>()) Tryz.prog w 0 (fun _=>true) false
def Fit (w:World) (p:MemPlace):Prop:=∀ b off,p=MemPlace.cell b off→(∃ c t,w.heap[b]?=some (.cells c t (0,0)))∧∀ u v,w.cell? ⟨b,off,none⟩=some (.iface u v)→Value.okWide Tryz.prog w .any 0 u v
structure VR (w:World) (n:String) (d:DataW Unit) (g:Nat) (t:TypeId) (cs:Array Value):Prop where
 var:w.var? Tryz.prog n=some cs
 rd:∃ fuel p,Rd w fuel t cs.toList=some (d,p)∧∀ x∈p,Fit w x
 fit:∀ i,i<cs.size→Fit w (.cell g i)
theorem vars_mem:∀ {l:List (String × DataW Unit)} {ps:List MemPlace},DataW.LaidVars Tryz.prog w l ps→∀ n d,(n,d)∈l→∃ g t cs fuel p,Tryz.prog.globalNamed n=some g∧(Tryz.prog.globals[g]?).map (·.type)=some t∧w.var? Tryz.prog n=some cs∧
  Rd w fuel t cs.toList=some (d,p)∧∀ x∈MemPlace.row ⟨g,0,none⟩ cs.size++p,x∈ps
 | [],_,_,_,_,hm=>by cases hm
 | (n',d')::r,ps,h,n,d,hm=>by
  obtain ⟨g,t,cs,fuel,p,q,h1,h2,h3,h4,h5,rfl⟩:=h
  rcases List.mem_cons.1 hm with e | e
  ·cases e
   exact ⟨g,t,cs,fuel,p,h1,h2,h3,h4,fun x hx=>List.mem_append_left _ hx⟩
  ·obtain ⟨g',t',cs',f',p',k1,k2,k3,k4,k5⟩:=vars_mem h5 n d e
   exact ⟨g',t',cs',f',p',k1,k2,k3,k4,fun x hx=>List.mem_append_right _ (k5 x hx)⟩
theorem vr_of {l:List (String × DataW Unit)} (h:laidMet Tryz.prog l w) {n:String} {d:DataW Unit} (k:Nat) (hk:l[k]?=some (n,d)) {g:Nat} {t:TypeId} (hg:Tryz.prog.globalNamed n=some g) (ht:(Tryz.prog.globals[g]?).map (·.type)=some t) :
  ∃ cs,VR w n d g t cs:=by
 obtain ⟨ps,hv,_,hf⟩:=h
 obtain ⟨g',t',cs,fuel,p,h1,h2,h3,h4,h5⟩:=vars_mem hv n d (List.mem_of_getElem? hk)
 obtain rfl:=Option.some.inj (hg.symm.trans h1)
 obtain rfl:=Option.some.inj (ht.symm.trans h2)
 have hfit:∀ x∈MemPlace.row ⟨g,0,none⟩ cs.size++p,Fit w x:=fun x hx b off e=>by
  subst e
  exact hf b off (h5 _ hx)
 exact ⟨cs,h3,⟨fuel,p,h4,fun x hx=>hfit x (List.mem_append_right _ hx)⟩,fun i hi=>hfit _ (List.mem_append_left _ (MemPlace.mem_row.2 ⟨i,hi,by simp⟩))⟩
theorem VR.cell {n:String} {d:DataW Unit} {g:Nat} {t:TypeId} {cs:Array Value} (h:VR w n d g t cs) (hg:Tryz.prog.globalNamed n=some g) (i:Nat):w.cell? ⟨g,i,none⟩=cs[i]?:=World.var?_cell hg h.var i
theorem rd_float {k:FloatKind} {t:TypeId} {fuel:Nat} {cs:List Value} {x:DataW Unit × List MemPlace} (ht:Tryz.prog.underlying t=some (.float k)) (h:Rd w fuel t cs=some x):∃ b,cs=[.float k b]∧x=(.lit (.float k b),[]):=by
 cases fuel with
 | zero=>simp [DataW.trod] at h
 | succ n=>
  unfold Rd DataW.trod at h
  rw [ht] at h
  split at h <;> simp_all
theorem spot_none {a:Addr} {v:Value} (h:w.cell? a=some v):a.spot=none:=by
 unfold World.cell? at h
 split at h
 ·split at h
  ·cases h
  ·next hs=>simpa using hs
 ·cases h
theorem addr_plain (b o k:Nat):(⟨b,o,none⟩:Addr).add k=⟨b,o+k,none⟩:=by unfold Addr.add; split <;> simp_all
theorem cells_cell {a:Addr} {n:Nat} {cs:List Value} (h:w.cells? 0 a n=some cs) {b o:Nat} (ha:a=⟨b,o,none⟩) (i:Nat) (hi:i<n):w.cell? ⟨b,o+i,none⟩=cs[i]?:=by
 rw [←(World.cells?_some h).2.2 i hi,ha,addr_plain]
theorem rd_slice {t e:TypeId} {fuel:Nat} {cs:List Value} {ds:List (DataW Unit)} {p:List MemPlace} (ht:Tryz.prog.underlying t=some (.slice e)) (hc:0<Tryz.prog.cellsOf e) (h0:0<ds.length) (h:Rd w fuel t cs=some (.slice ds [],p)) :
  ∃ b o,cs=[.slice (some ⟨b,o,none⟩) ds.length ds.length]∧b<w.heap.size∧∀ i d,ds[i]?=some d→∃ n cs' q,w.cells? 0 ⟨b,o+i*Tryz.prog.cellsOf e,none⟩ (Tryz.prog.cellsOf e)=some cs'∧Rd w n e cs'=some (d,q):=by
 rcases DataW.trod_slice ht h with ⟨_,e⟩ | ⟨a,len,cap,elems,rest,n,_,rfl,hx,_,hlc,hcm,hel,hat,hsp,_⟩
 ·cases e
 ·simp only [Prod.mk.injEq,DataW.slice.injEq] at hx
  obtain ⟨⟨hd,hr⟩,_⟩:=hx
  have hr0:rest=[]:=by
   cases rest with
   | nil=>rfl
   | cons _ _=>simp at hr
  have hcap:=(hsp rfl).1
  rw [hr0] at hcap
  have hcap:cap=len:=by simp at hcap;omega
  have hlen:ds.length=len:=by rw [hd,List.length_map,hel]
  have elem:∀ i d,ds[i]?=some d→∃ cs' q,w.cells? 0 (a.add (i*Tryz.prog.cellsOf e)) (Tryz.prog.cellsOf e)=some cs'∧Rd w n e cs'=some (d,q):=by
   intro i d hi
   have hi':i<len:=by rw [←hlen];exact (List.getElem?_eq_some_iff.1 hi).1
   have h2:=hat i hi'
   rw [hd,List.getElem?_map] at hi
   obtain ⟨x,hx1,hx2⟩:=Option.map_eq_some_iff.1 hi
   rw [hx1] at h2
   obtain ⟨cs',k1,k2⟩:=Option.bind_eq_some_iff.1 h2
   exact ⟨cs',x.2,k1,by rw [←hx2];exact k2⟩
  obtain ⟨cs0,q0,c0,_⟩:=elem 0 _ (List.getElem?_eq_getElem h0)
  obtain ⟨_,hl0,hc0⟩:=World.cells?_some c0
  have h1:=hc0 0 hc
  rw [List.getElem?_eq_getElem (by omega)] at h1
  have e0:(a.add (0*Tryz.prog.cellsOf e)).add 0=a:=by cases a;simp [Addr.add]
  rw [e0] at h1
  have hs:=spot_none h1
  have hb:=block_lt_of_cell h1
  obtain ⟨b,o,s⟩:=a
  obtain rfl:s=none:=hs
  refine ⟨b,o,by rw [hlen,hcap],hb,fun i d hi=>?_⟩
  obtain ⟨cs',q,k1,k2⟩:=elem i d hi
  rw [addr_plain] at k1
  exact ⟨n,cs',q,k1,k2⟩
theorem rd_two {t:TypeId} {fuel:Nat} {cs:List Value} {d0 d1:DataW Unit} {p:List MemPlace} {f0 f1:Field} (ht:Tryz.prog.underlying t=some (.struct #[f0,f1])) (o0:f0.offset=0) (o1:f1.offset=1)
  (c0:Tryz.prog.cellsOf f0.type=1) (c1:Tryz.prog.cellsOf f1.type=1) (ct:Tryz.prog.cellsOf t=2) (h:Rd w fuel t cs=some (.agg [d0,d1],p)) :
  ∃ a b n q0 q1,cs=[a,b]∧Rd w n f0.type [a]=some (d0,q0)∧Rd w n f1.type [b]=some (d1,q1):=by
 obtain ⟨xs,n,_,hx,hl,hxl,hall⟩:=DataW.trod_struct ht h
 rw [ct] at hl
 have h0:=hall 0 f0 rfl
 have h1:=hall 1 f1 rfl
 rw [o0,c0] at h0
 rw [o1,c1] at h1
 match cs,hl with
 | [a,b],_=>
  match xs,hxl with
  | [x0,x1],_=>
   simp only [Prod.mk.injEq,DataW.agg.injEq,List.map_cons,List.map_nil,List.cons.injEq] at hx
   obtain ⟨⟨rfl,rfl,_⟩,_⟩:=hx
   exact ⟨a,b,n,x0.2,x1.2,rfl,h0,h1⟩
theorem rd_three {t:TypeId} {fuel:Nat} {cs:List Value} {d0 d1 d2:DataW Unit} {p:List MemPlace} {f0 f1 f2:Field} (ht:Tryz.prog.underlying t=some (.struct #[f0,f1,f2])) (o0:f0.offset=0) (o1:f1.offset=1) (o2:f2.offset=2)
  (c0:Tryz.prog.cellsOf f0.type=1) (c1:Tryz.prog.cellsOf f1.type=1) (c2:Tryz.prog.cellsOf f2.type=1) (ct:Tryz.prog.cellsOf t=3) (h:Rd w fuel t cs=some (.agg [d0,d1,d2],p)) :
  ∃ a b c n q0 q1 q2,cs=[a,b,c]∧Rd w n f0.type [a]=some (d0,q0)∧Rd w n f1.type [b]=some (d1,q1)∧Rd w n f2.type [c]=some (d2,q2):=by
 obtain ⟨xs,n,_,hx,hl,hxl,hall⟩:=DataW.trod_struct ht h
 rw [ct] at hl
 have h0:=hall 0 f0 rfl
 have h1:=hall 1 f1 rfl
 have h2:=hall 2 f2 rfl
 rw [o0,c0] at h0
 rw [o1,c1] at h1
 rw [o2,c2] at h2
 match cs,hl with
 | [a,b,c],_=>
  match xs,hxl with
  | [x0,x1,x2],_=>
   simp only [Prod.mk.injEq,DataW.agg.injEq,List.map_cons,List.map_nil,List.cons.injEq] at hx
   obtain ⟨⟨rfl,rfl,rfl,_⟩,_⟩:=hx
   exact ⟨a,b,c,n,x0.2,x1.2,x2.2,rfl,h0,h1,h2⟩
theorem lit_int {k k':IntKind} {t:TypeId} {fuel:Nat} {v:Value} {z:Int} {q:List MemPlace} (ht:Tryz.prog.underlying t=some (.int k)) (h:Rd w fuel t [v]=some (.lit (.int k' z),q)):v=.int k z∧(Lit.int k z).wf=true:=by
 obtain ⟨n,e1,e2,h3⟩:=DataW.trod_int ht h
 simp only [Prod.mk.injEq,DataW.lit.injEq,Lit.int.injEq] at e2
 obtain ⟨⟨_,rfl⟩,_⟩:=e2
 injection e1 with e1
 exact ⟨e1,h3⟩
theorem lit_str {t:TypeId} {fuel:Nat} {v:Value} {bs:List UInt8} {q:List MemPlace} (ht:Tryz.prog.underlying t=some .string) (h:Rd w fuel t [v]=some (.lit (.string bs),q)):v=.string ⟨bs.toArray⟩:=by
 obtain ⟨s,e1,e2,_⟩:=DataW.trod_string ht h
 simp only [Prod.mk.injEq,DataW.lit.injEq,Lit.string.injEq] at e2
 obtain ⟨rfl,_⟩:=e2
 injection e1
theorem star167: "*"++ "errors.errorString"= "*errors.errorString":=by decide
theorem row167 (u:TypeId) (h:Tryz.prog.typeName? 3 u=some "*errors.errorString"):u=167:=
 typeName_ptr_named (nm:= "errors.errorString") (by rw [star167];kernel_rfl) (by kernel_rfl) (by decide) u (by rw [star167];exact h)
theorem sen_of {n:String} {g:Nat} {bs:List UInt8} {cs:Array Value} (h:VR w n (.iface "*errors.errorString" (.ptr (.agg [.lit (.string bs)]))) g 48 cs) (hg:Tryz.prog.globalNamed n=some g) :
  ∃ a:Addr,w.var? Tryz.prog n=some #[.iface 167 (.pointer (some a))]∧w.cell? ⟨g,0,none⟩=some (.iface 167 (.pointer (some a)))∧w.cell? a=some (.string ⟨bs.toArray⟩)∧∃ c t,w.heap[a.block]?=some (.cells c t (0,0)):=by
 obtain ⟨fuel,p,hr,hp⟩:=h.rd
 have hv:=h.var
 have hc0:=h.cell hg 0
 have hf:=h.fit 0
 obtain ⟨a,s,hcs,hcell,hs,_,hp2⟩:=errorString_of_trod Tryz.underlying48 row167 Tryz.underlying167 Tryz.underlying169 rfl rfl Tryz.underlying9 (by kernel_rfl) (by kernel_rfl) hr (fun u v e=>by
  have hsz:0<cs.size:=by
   have:=congrArg List.length e
   simp at this;omega
  refine (hf hsz g 0 rfl).2 u v ?_
  rw [hc0,←Array.getElem?_toList,e]
  rfl)
 have e:cs=#[.iface 167 (.pointer (some a))]:=Array.ext' hcs
 subst e
 have hsa:=spot_none hcell
 obtain ⟨b,o,sp⟩:=a
 obtain rfl:sp=none:=hsa
 refine ⟨⟨b,o,none⟩,hv,hc0,?_,?_⟩
 ·rw [hcell,←hs]
 ·refine (hp (.cell b o) ?_ b o rfl).1
  rw [hp2]
  exact MemPlace.mem_row.2 ⟨0,by omega,by simp⟩
end
end Go.Proofs.YtkfggfjdplnkpaaGreatDoor
end
