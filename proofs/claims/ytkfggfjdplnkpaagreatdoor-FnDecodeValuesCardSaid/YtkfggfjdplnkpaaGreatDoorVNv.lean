/- A part of the proof that the law FnDecodeValues returns true; its conditions are those of the last part. -/
import Derived.Test.YtkfggfjdplnkpaaGreatDoorVPFl
import Derived.Test.YtkfggfjdplnkpaaGreatDoorVEol
import Derived.LaidEql
import Derived.Test.YtkfggfjdplnkpaaGreatDoorVPFnDecodeScriptx0
import Derived.Test.YtkfggfjdplnkpaaGreatDoorVWLast
set_option maxRecDepth 100000
set_option linter.unusedVariables false
set_option linter.unusedSimpArgs false
section
namespace Go.Proofs.YtkfggfjdplnkpaaGreatDoor
open Go Go.RowKit
theorem run_f64bits (n:Nat) (w:World):Sem.run Tryz.prog (callFunc 93 #[.float .f64 n]) w=.ok (.value (.int .u64 (n:Int))) w:=
 (run_callFunc_extern (P:=Tryz.prog) (fn:=Tryz.f93) (e:=Extern.MathFloatBits.float64bits) (by kernel_rfl) (by kernel_rfl) (by kernel_rfl) (by kernel_rfl) (by kernel_rfl) #[.float .f64 n] w).trans rfl
theorem run_f64from (n:Int) (w:World):Sem.run Tryz.prog (callFunc 131 #[.int .u64 n]) w=.ok (.value (.float .f64 n.toNat)) w:=
 (run_callFunc_extern (P:=Tryz.prog) (fn:=Tryz.f131) (e:=Extern.MathFloatBits.float64frombits) (by kernel_rfl) (by kernel_rfl) (by kernel_rfl) (by kernel_rfl) (by kernel_rfl) #[.int .u64 n] w).trans rfl
theorem abs_spec (n:Nat) (w:World):Calls Tryz.prog 128 #[.float .f64 n] w fun e w'=>e=.returned (.float .f64 (bits .andNot .u64 n 9223372036854775808).toNat)∧w'=w:=by
 have h1:=run_f64bits
 have h2:=run_f64from
 go_enter Tryz.func128,Tryz.ntmps128
 go_wp2
 go_ret
 exact ⟨rfl,rfl⟩
def isInfF (n:Nat):Bool:=FloatKind.f64.format.order (bits .andNot .u64 n 9223372036854775808).toNat 9218868437227405311==some .gt
def isNanF (n:Nat):Bool:=FloatKind.f64.format.order n n != some .eq
theorem isInf_spec (n:Nat) (w:World):Calls Tryz.prog 91 #[.float .f64 n,.int .i64 0] w fun e w'=>e=.returned (.bool (isInfF n))∧w'=w:=by
 go_enter Tryz.func91,Tryz.ntmps91
 go_wp2_with fail
 refine (abs_spec _ _).mono ?_
 rintro ex w2 ⟨rfl,rfl⟩
 go_wp2_with fail
 go_ret
 exact ⟨rfl,rfl⟩
theorem isNan_spec (n:Nat) (w:World):Calls Tryz.prog 92 #[.float .f64 n] w fun e w'=>e=.returned (.bool (isNanF n))∧w'=w:=by
 go_enter Tryz.func92,Tryz.ntmps92
 go_wp2_with fail
 go_ret
 exact ⟨rfl,rfl⟩
theorem ta183 (v:Value) (w:World):(Instr.typeAssert (.iface 183 v) 48 183 true).run Tryz.prog w=.ok (.tuple #[v,.bool true]) w:=by
 simp [Instr.typeAssert,run_underlying Tryz.underlying183,go_sem,Result.andThen]
theorem eq_same (a:Addr) (w:World):(binOp .eql 48 (.iface 167 (.pointer (some a))) (.iface 167 (.pointer (some a)))).run Tryz.prog w=.ok (.bool true) w:=by
 obtain ⟨i,hi⟩:∃ i,Tryz.prog.info? 167=some i:=Option.isSome_iff_exists.1 (by kernel_rfl)
 have hc:i.comparable=true:=by
  have:(Tryz.prog.info? 167).map (·.comparable)=some true:=by kernel_rfl
  rw [hi] at this;simpa using this
 obtain ⟨j,hj⟩:∃ j,Tryz.prog.info? 169=some j:=Option.isSome_iff_exists.1 (by kernel_rfl)
 exact run_eql_iface_ptr_same w a Tryz.underlying48 Tryz.underlying167 hi hc hj
theorem eq_other {a b:Addr} {w:World} {ca cb:Array Value} {ta tb:TypeId} (hne:a≠b) (ha:w.heap[a.block]?=some (.cells ca ta (0,0))) (hb:w.heap[b.block]?=some (.cells cb tb (0,0))) :
  (binOp .eql 48 (.iface 167 (.pointer (some a))) (.iface 167 (.pointer (some b)))).run Tryz.prog w=.ok (.bool false) w:=by
 obtain ⟨i,hi⟩:∃ i,Tryz.prog.info? 167=some i:=Option.isSome_iff_exists.1 (by kernel_rfl)
 have hc:i.comparable=true:=by
  have:(Tryz.prog.info? 167).map (·.comparable)=some true:=by kernel_rfl
  rw [hi] at this;simpa using this
 obtain ⟨j,hj⟩:∃ j,Tryz.prog.info? 169=some j:=Option.isSome_iff_exists.1 (by kernel_rfl)
 have hsz:(Tryz.prog.info? 169).map (fun j=>decide (j.size≠0))=some true:=by kernel_rfl
 rw [hj] at hsz
 injection hsz with hsz
 exact run_eql_iface_ptr_other w Tryz.underlying48 Tryz.underlying167 hi hc hj (of_decide_eq_true hsz) hne ha hb
def ErrV (w:World) (aO:Addr) (out:Bool) (ev:Value) (w':World):Prop:=
 ∃ q:Addr,ev=.iface 167 (.pointer (some q))∧(out=true→q=aO)∧(out=false→w.heap.size≤q.block∧q.block<w'.heap.size∧∃ cs,w'.heap[q.block]?=some (.cells cs 169 (0,0)))∧(out=false→q=⟨q.block,0,none⟩)
theorem errors_new2 {w:World} (s:ByteArray):Calls Tryz.prog 51 #[.string s] w fun e w'=>e=.returned (.iface 167 (.pointer (some ⟨w.heap.size,0,none⟩)))∧Below w.heap.size w w'∧w.heap.size<w'.heap.size∧∃ cs,w'.heap[w.heap.size]?=some (.cells cs 169 (0,0)):=by
 go_enter Tryz.func51,Tryz.ntmps51
 go_wp2
 go_ret
 exact ⟨rfl,(Below.refl _ _).alloc (Nat.le_refl _) _,by simp,_,heap_alloc_new _ _⟩
theorem mor_range {w:World} {B:Nat} {aR aS aO:Addr} {N:Nat} (hV:EV w B aR aS aO) {fn s m:ByteArray} (hN:w.heap[N]?=some (.cells #[.string fn,.string s,.iface 167 (.pointer (some aR))] 186 (0,0))) :
  Calls Tryz.prog 88 #[.iface 183 (.pointer (some ⟨N,0,none⟩)),.string m] w fun e w'=>∃ ev,e=.returned ev∧Below w.heap.size w w'∧ErrV w aO true ev w':=by
 have ht:=ta183
 have he:=eq_same aR
 have c1:=hV.cR
 have c0:=hV.out
 have cN:w.cell? ⟨N,2,none⟩=some (.iface 167 (.pointer (some aR))):=blk_cell hN 2
 clear hV hN
 go_enter Tryz.func88,Tryz.ntmps88
 go_wp2_with fail
 go_quiet (fail)
 go_wp2_with fail
 go_ret
 exact ⟨_,rfl,bel_drewN _ _,aO,rfl,fun _=>rfl,fun h=>(by cases h),fun h=>(by cases h)⟩
theorem mor_syntax {w:World} {B:Nat} {aR aS aO:Addr} {N:Nat} (hV:EV w B aR aS aO) {fn s m:ByteArray} (hN:w.heap[N]?=some (.cells #[.string fn,.string s,.iface 167 (.pointer (some aS))] 186 (0,0))) :
  Calls Tryz.prog 88 #[.iface 183 (.pointer (some ⟨N,0,none⟩)),.string m] w fun e w'=>∃ ev,e=.returned ev∧Below w.heap.size w w'∧ErrV w aO false ev w':=by
 have ht:=ta183
 obtain ⟨cr,tr,hr⟩:=hV.bR
 obtain ⟨cs,ts,hs⟩:=hV.bS
 have he:∀ n,(binOp .eql 48 (.iface 167 (.pointer (some aS))) (.iface 167 (.pointer (some aR)))).run Tryz.prog (w.drewN n)=.ok (.bool false) (w.drewN n):=fun n=>eq_other (w:=w.drewN n) hV.ne.symm hs hr
 have c1:=hV.cR
 have c0:=hV.out
 have cN:w.cell? ⟨N,2,none⟩=some (.iface 167 (.pointer (some aS))):=blk_cell hN 2
 clear hV hN hr hs
 go_enter Tryz.func88,Tryz.ntmps88
 go_wp2_with fail
 go_quiet (fail)
 go_wp2_with fail
 refine (errors_new2 _).mono ?_
 rintro ex w2 ⟨rfl,h1,h2,h3⟩
 have H:=Lib.hid (And.intro h1 (And.intro h2 h3))
 clear h1 h2 h3
 go_wp2_with fail
 go_ret
 exact ⟨_,rfl,(bel_drewN w nq).trans (H.out.1.mono (Nat.le_refl _)),_,rfl,fun h=>(by cases h),fun _=>⟨Nat.le_refl _,H.out.2⟩,fun _=>rfl⟩
end Go.Proofs.YtkfggfjdplnkpaaGreatDoor
end
section
namespace Go.Proofs.YtkfggfjdplnkpaaGreatDoor
open Go Go.RowKit Go.Proofs.YtkfggfjdplnkpaaGreatDoorW.PrintLast
def OutQ (w:World) (aO q:Addr) (out:Bool):Prop:=(out=true→q=aO)∧(out=false→∃ B,aO.block<B∧Fre w B q.block)
structure OutV (w:World) (aO:Addr):Prop where
 cell:w.cell? ⟨0,0,none⟩=some (.iface 167 (.pointer (some aO)))
 blk:∃ cs t,w.heap[aO.block]?=some (.cells cs t (0,0))
theorem OutV.below {w w':World} {aO:Addr} (h:OutV w aO) (hb:Below w.heap.size w w'):OutV w' aO:=by
 obtain ⟨cs,t,h2⟩:=h.blk
 exact ⟨(World.cell?_of_block (hb.block 0 (block_lt_of_cell h.cell))).trans h.cell,cs,t,(hb.block aO.block (blk_lt h2)).trans h2⟩
theorem OutQ.below {w w':World} {aO q:Addr} {out:Bool} (h:OutQ w aO q out) (hb:Below w.heap.size w w'):OutQ w' aO q out:=
 ⟨h.1,fun e=>by
  obtain ⟨B,h1,h2,cs,h3⟩:=h.2 e
  exact ⟨B,h1,h2,cs,(hb.block q.block (blk_lt h3)).trans h3⟩⟩
theorem out_nil (w:World):Calls Tryz.prog 19 #[.nilIface] w fun e w'=>e=.returned (.bool false)∧w'=w:=by
 go_enter Tryz.func19,Tryz.ntmps19
 go_wp2_with fail
 go_ret
 exact ⟨rfl,rfl⟩
theorem out_spec {w:World} {aO q:Addr} {out:Bool} (hV:OutV w aO) (h:OutQ w aO q out):Calls Tryz.prog 19 #[.iface 167 (.pointer (some q))] w fun e w'=>e=.returned (.bool out)∧w'=w:=by
 have c0:=hV.cell
 obtain ⟨co,to_,ho⟩:=hV.blk
 cases out with
 | true=>
  obtain rfl:=h.1 rfl
  have he:=eq_same q w
  clear hV h ho
  go_enter Tryz.func19,Tryz.ntmps19
  go_wp2_with fail
  go_ret
  exact ⟨rfl,rfl⟩
 | false=>
  obtain ⟨B,h1,h2,cs,h3⟩:=h.2 rfl
  have he:=eq_other (a:=q) (b:=aO) (fun e=>by rw [e] at h2;omega) h3 ho
  clear hV h h1 h2 h3 ho
  go_enter Tryz.func19,Tryz.ntmps19
  go_wp2_with fail
  go_ret
  exact ⟨rfl,rfl⟩
def fltC (is:Bool) (l c:Int) (out:Bool):Array Value:=#[.bool is,.int .i64 l,.int .i64 c,.bool out]
def FltP (w:World) (is:Bool) (l c:Int) (out:Bool) (e:Ending) (w':World):Prop:=e=.returned (.agg (fltC is l c out))∧Below w.heap.size w w'
theorem ta_nil (w:World):(Instr.typeAssert .nilIface 48 121 true).run Tryz.prog w=.ok (.tuple #[.pointer none,.bool false]) w:=by
 kernel_rfl
theorem ta_yes (v:Value) (w:World):(Instr.typeAssert (.iface 121 v) 48 121 true).run Tryz.prog w=.ok (.tuple #[v,.bool true]) w:=by
 kernel_rfl
theorem ta_no (v:Value) (w:World):(Instr.typeAssert (.iface 167 v) 48 121 true).run Tryz.prog w=.ok (.tuple #[.pointer none,.bool false]) w:=by
 kernel_rfl
def twoW (w:World) (c1 c2:Array Value) (t:TypeId):World:=(w.alloc (.cells c1 t)).alloc (.cells c2 t)
theorem twoW_below (w:World) (c1 c2:Array Value) (t:TypeId):Below w.heap.size w (twoW w c1 c2 t):=by
 have e3:(w.alloc (.cells c1 t)).heap.size=w.heap.size+1:=Array.size_push _
 exact ((Below.refl w.heap.size w).alloc (Nat.le_refl _) _).alloc (by rw [e3];omega) _
theorem twoW_1 (w:World) (c1 c2:Array Value) (t:TypeId):(twoW w c1 c2 t).heap[w.heap.size]?=some (.cells c1 t (0,0)):=heap_alloc2_old w _ _
theorem twoW_2 (w:World) (c1 c2:Array Value) (t:TypeId):(twoW w c1 c2 t).heap[w.heap.size+1]?=some (.cells c2 t (0,0)):=heap_alloc2_new w _ _
theorem res_c37 {fn:Func} {p:Tmp} {ty:TypeId} (h:fn.results=#[.cell p ty]) (tmps:Array Value) (w:World) (g:Nat) (t:TypeId) (cs:Array Value) (fr:Nat × Nat) {fs:Array Field}
  (hp:tmps.getD p undef=.pointer (some ⟨g,0,none⟩)) (hg:w.heap[g]?=some (.cells cs t fr))
  (hu:Tryz.prog.underlying ty=some (.struct fs)) (hi:(Tryz.prog.info? ty).map (·.size)=some cs.size) :
  (results fn tmps).run Tryz.prog w=.ok (.agg cs) w:=by
 have hp':tmps[p]?.getD undef=.pointer (some ⟨g,0,none⟩):=by simpa using hp
 simp only [results,h]
 simp [Sem.run_bind,hp',asAddr,run_loadVar_row w g t ty cs fr (.struct fs) hg hu rfl hi,Result.andThen]
theorem cell_set_ne {w:World} {q:Nat} (p:Addr) (v:Value) (i:Nat) (h:q≠p.block):(w.setCell p v).cell? ⟨q,i,none⟩=w.cell? ⟨q,i,none⟩:=World.cell?_of_block (Below.heap_setCell _ _ _ _ h)
theorem fault_nil (w:World):Calls Tryz.prog 26 #[.nilIface] w (FltP w false 0 0 false):=by
 have ta:=ta_nil
 have HO:=Lib.hid out_nil
 go_enter Tryz.func26,Tryz.ntmps26
 go_wp2_with fail
 refine (HO.out _).mono ?_
 rintro e w2 ⟨rfl,rfl⟩
 go_wp2_with fail
 refine bodyPost_ret (res_c37 rfl _ _ w.heap.size 37 (fltC false 0 0 false) (0,0) rfl (twoW_1 w _ (fltC false 0 0 false) 37) Tryz.underlying37 (by kernel_rfl)) rfl ?_
 exact ⟨rfl,twoW_below w _ (fltC false 0 0 false) 37⟩
theorem fault_bare {w:World} {aO q:Addr} {out:Bool} (hV:OutV w aO) (hO:OutQ w aO q out):Calls Tryz.prog 26 #[.iface 167 (.pointer (some q))] w (FltP w true 0 0 out):=by
 have ta:=ta_no
 have hb:=twoW_below w (fltC false 0 0 false) (fltC true 0 0 false) 37
 have HO:=Lib.hid (out_spec (hV.below hb) (hO.below hb))
 clear hV hO hb
 go_enter Tryz.func26,Tryz.ntmps26
 go_wp2_with fail
 refine HO.out.mono ?_
 rintro e w2 ⟨rfl,rfl⟩
 unfold twoW fltC
 go_wp2_with fail
 refine bodyPost_ret (res_c37 rfl _ _ w.heap.size 37 (fltC true 0 0 out) (0,0) rfl (twoW_1 w _ (fltC true 0 0 out) 37) Tryz.underlying37 (by kernel_rfl)) rfl ?_
 exact ⟨rfl,twoW_below w _ (fltC true 0 0 out) 37⟩
set_option maxHeartbeats 4000000 in
theorem fault_de {w:World} {q:Nat} {q2 aO:Addr} {l c:Int} {out:Bool} (hV:OutV w aO) (hE:ErrAt w q l c (.iface 167 (.pointer (some q2)))) (hO:OutQ w aO q2 out) :
  Calls Tryz.prog 26 #[.iface 121 (.pointer (some ⟨q,0,none⟩))] w (FltP w true l c out):=by
 have ta:=ta_yes
 have hb:=twoW_below w (fltC false 0 0 false) (fltC true 0 0 false) 37
 have c0:w.cell? ⟨q,0,none⟩=some (.int .i64 l):=blk_cell hE 0
 have c1:w.cell? ⟨q,1,none⟩=some (.int .i64 c):=blk_cell hE 1
 have c2:w.cell? ⟨q,2,none⟩=some (.iface 167 (.pointer (some q2))):=blk_cell hE 2
 have hql:=blk_lt hE
 have n1:¬q=w.heap.size:=by omega
 have n2:¬q=w.heap.size+1:=by omega
 have HV:=Lib.hid hV
 have HO:=Lib.hid hO
 clear hV hO hE
 go_enter Tryz.func26,Tryz.ntmps26
 go_upto_region 4 with fail
 obtain ⟨W,hW⟩:∃ W,twoW w (fltC false 0 0 false) (fltC true 0 0 false) 37=W:=⟨_,rfl⟩
 have d0:W.cell? ⟨q,0,none⟩=some (.int .i64 l):=by rw [←hW];exact (World.cell?_of_block (hb.block q hql)).trans c0
 have d1:W.cell? ⟨q,1,none⟩=some (.int .i64 c):=by rw [←hW];exact (World.cell?_of_block (hb.block q hql)).trans c1
 have d2:W.cell? ⟨q,2,none⟩=some (.iface 167 (.pointer (some q2))):=by rw [←hW];exact (World.cell?_of_block (hb.block q hql)).trans c2
 have b2:W.heap[w.heap.size+1]?=some (.cells (fltC true 0 0 false) 37 (0,0)):=by rw [←hW];exact twoW_2 _ _ _ _
 have k1:W.cell? ⟨w.heap.size+1,1,none⟩=some (.int .i64 0):=blk_cell b2 1
 have k2:W.cell? ⟨w.heap.size+1,2,none⟩=some (.int .i64 0):=blk_cell b2 2
 have f1:=blk_frozen b2 1
 have f2:=blk_frozen b2 2
 have HW:=Lib.hid hW
 have HB:=Lib.hid hb
 show Code.wp Tryz.prog _ _ _ (twoW w (fltC false 0 0 false) (fltC true 0 0 false) 37)
 rw [hW]
 have NQ:=Lib.hid n2
 clear hW b2 hb c0 c1 c2 hql n1 n2
 refine start_ (n:=17) (S:=fun w'=>w'.cell? ⟨q,0,none⟩=some (.int .i64 l)∧w'.cell? ⟨q,1,none⟩=some (.int .i64 c)∧w'.cell? ⟨q,2,none⟩=some (.iface 167 (.pointer (some q2)))) (ds:=[]) (bA 17 0) (by kernel_rfl) rfl rfl ⟨d0,d1,d2⟩ (fun _=>?_)
 refine pure_ (i:=0) (N:=some 15) (v:=?_) (a':=?_) (bA 17 1) rfl rfl (by kernel_rfl) (fun _ _ _ h=>h) (Or.inl ⟨by rfl,?_⟩) ?_ ?_
 rotate_left
 ·intro w';go_simp;with_reducible rfl
 rotate_left
 ·simp only [Act.put,aA,aB,aC];rfl
 refine pure_ (i:=1) (N:=some 16) (v:=?_) (a':=?_) (bA 17 3) rfl rfl (by kernel_rfl) (fun _ _ _ h=>h) (Or.inl ⟨by rfl,?_⟩) ?_ ?_
 rotate_left
 ·intro w';go_simp;with_reducible rfl
 rotate_left
 ·simp only [Act.put,aA,aB,aC];rfl
 refine pure_ (i:=2) (N:=some 17) (v:=?_) (a':=?_) (bA 17 7) rfl rfl (by kernel_rfl) (fun _ _ _ h=>h) (Or.inl ⟨by rfl,?_⟩) ?_ ?_
 rotate_left
 ·intro w';go_simp;with_reducible rfl
 rotate_left
 ·simp only [Act.put,aA,aB,aC];rfl
 refine take_ (i:=3) (N:=some 18) (v:=?_) (a':=?_) (bA 17 15) rfl rfl (by kernel_rfl) (fun _ _ _ h=>h) (Or.inl ⟨by rfl,?_⟩) ⟨d0,d1,d2⟩ ?_ ?_
 rotate_left
 ·intro w' hS;obtain ⟨e0,e1,e2⟩:=hS;go_simp;with_reducible rfl
 rotate_left
 ·simp only [Act.put,aA,aB,aC];rfl
 refine pure_ (i:=4) (N:=some 19) (v:=?_) (a':=?_) (bA 17 31) rfl rfl (by kernel_rfl) (fun _ _ _ h=>h) (Or.inl ⟨by rfl,?_⟩) ?_ ?_
 rotate_left
 ·intro w';go_simp;with_reducible rfl
 rotate_left
 ·simp only [Act.put,aA,aB,aC];rfl
 refine pure_ (i:=5) (N:=some 20) (v:=?_) (a':=?_) (bA 17 63) rfl rfl (by kernel_rfl) (fun _ _ _ h=>h) (Or.inl ⟨by rfl,?_⟩) ?_ ?_
 rotate_left
 ·intro w';go_simp;with_reducible rfl
 rotate_left
 ·simp only [Act.put,aA,aB,aC];rfl
 refine pure_ (i:=6) (N:=some 21) (v:=?_) (a':=?_) (bA 17 127) rfl rfl (by kernel_rfl) (fun _ _ _ h=>h) (Or.inl ⟨by rfl,?_⟩) ?_ ?_
 rotate_left
 ·intro w';go_simp;with_reducible rfl
 rotate_left
 ·simp only [Act.put,aA,aB,aC];rfl
 refine take_ (i:=7) (N:=some 22) (v:=?_) (a':=?_) (bA 17 255) rfl rfl (by kernel_rfl) (fun _ _ _ h=>h) (Or.inl ⟨by rfl,?_⟩) ⟨d0,d1,d2⟩ ?_ ?_
 rotate_left
 ·intro w' hS;obtain ⟨e0,e1,e2⟩:=hS;go_simp;with_reducible rfl
 rotate_left
 ·simp only [Act.put,aA,aB,aC];rfl
 refine pure_ (i:=8) (N:=some 23) (v:=?_) (a':=?_) (bA 17 511) rfl rfl (by kernel_rfl) (fun _ _ _ h=>h) (Or.inl ⟨by rfl,?_⟩) ?_ ?_
 rotate_left
 ·intro w';go_simp;with_reducible rfl
 rotate_left
 ·simp only [Act.put,aA,aB,aC];rfl
 refine pure_ (i:=9) (N:=some 24) (v:=?_) (a':=?_) (bA 17 1023) rfl rfl (by kernel_rfl) (fun _ _ _ h=>h) (Or.inl ⟨by rfl,?_⟩) ?_ ?_
 rotate_left
 ·intro w';go_simp;with_reducible rfl
 rotate_left
 ·simp only [Act.put,aA,aB,aC];rfl
 refine pure_ (i:=10) (N:=some 25) (v:=?_) (a':=?_) (bA 17 2047) rfl rfl (by kernel_rfl) (fun _ _ _ h=>h) (Or.inl ⟨by rfl,?_⟩) ?_ ?_
 rotate_left
 ·intro w';go_simp;with_reducible rfl
 rotate_left
 ·simp only [Act.put,aA,aB,aC];rfl
 refine take_ (i:=11) (N:=some 26) (v:=?_) (a':=?_) (bA 17 4095) rfl rfl (by kernel_rfl) (fun _ _ _ h=>h) (Or.inl ⟨by rfl,?_⟩) ⟨d0,d1,d2⟩ ?_ ?_
 rotate_left
 ·intro w' hS;obtain ⟨e0,e1,e2⟩:=hS;go_simp;with_reducible rfl
 rotate_left
 ·simp only [Act.put,aA,aB,aC];rfl
 refine pure_ (i:=12) (N:=some 27) (v:=?_) (a':=?_) (bA 17 8191) rfl rfl (by kernel_rfl) (fun _ _ _ h=>h) (Or.inl ⟨by rfl,?_⟩) ?_ ?_
 rotate_left
 ·intro w';go_simp;with_reducible rfl
 rotate_left
 ·simp only [Act.put,aA,aB,aC];rfl
 refine one_ (i:=13) (N:=none) (bA 17 16383) rfl rfl (by kernel_rfl) (by decide) (fun K hK=>?_)
 refine skip_ (w1:=?_) (by rfl) rfl ?_ ?_
 rotate_left
 ·go_simp
  rfl
 refine hK.out _ _ ⟨(cell_set_ne _ _ _ NQ.out).trans d0,(cell_set_ne _ _ _ NQ.out).trans d1,(cell_set_ne _ _ _ NQ.out).trans d2⟩ (fun hS1=>?_)
 clear hK K
 refine pure_ (i:=14) (N:=some 28) (v:=?_) (a':=?_) (bA 17 32767) rfl rfl (by kernel_rfl) (fun _ _ _ h=>h) (Or.inl ⟨by rfl,?_⟩) ?_ ?_
 rotate_left
 ·intro w';go_simp;with_reducible rfl
 rotate_left
 ·simp only [Act.put,aA,aB,aC];rfl
 refine one_ (i:=15) (N:=none) (bA 17 65535) rfl rfl (by kernel_rfl) (by decide) (fun K hK=>?_)
 refine skip_ (w1:=?_) (by rfl) rfl ?_ ?_
 rotate_left
 ·go_simp
  rfl
 refine hK.out _ _ ⟨(cell_set_ne _ _ _ NQ.out).trans hS1.1,(cell_set_ne _ _ _ NQ.out).trans hS1.2.1,(cell_set_ne _ _ _ NQ.out).trans hS1.2.2⟩ (fun hS1=>?_)
 clear hK K
 refine pure_ (i:=16) (N:=some 0) (v:=?_) (a':=?_) (bA 17 131071) rfl rfl (by kernel_rfl) (fun _ _ _ h=>h) (Or.inl ⟨by rfl,?_⟩) ?_ ?_
 rotate_left
 ·intro w';go_simp;with_reducible rfl
 rotate_left
 ·simp only [Act.put,aA,aB,aC];rfl
 refine done_ (by kernel_rfl) ?_
 clear d0 d1 d2 k1 k2 f1 f2 hS1 NQ
 obtain ⟨W2,hW2⟩:∃ W2,((W.setCell ⟨w.heap.size+1,1,none⟩ (.int .i64 l)).setCell ⟨w.heap.size+1,2,none⟩ (.int .i64 c)).drew=W2:=⟨_,rfl⟩
 rw [hW2]
 have hb2:Below w.heap.size w W2:=by rw [←hW2];have hb:=HB.out;rw [HW.out] at hb;exact ((hb.setCell (Nat.le_succ _) _).setCell (Nat.le_succ _) _).trans ((Below.refl _ _).drew)
 have B1:W2.heap[w.heap.size+1]?=some (.cells (fltC true l c false) 37 (0,0)):=by
  rw [←hW2]
  have b2:W.heap[w.heap.size+1]?=some (.cells (fltC true 0 0 false) 37 (0,0)):=by rw [←HW.out];exact twoW_2 _ _ _ _
  exact blk_set (blk_set b2 1 _) 2 _
 have B0:W2.heap[w.heap.size]?=some (.cells (fltC false 0 0 false) 37 (0,0)):=by
  rw [←hW2]
  have b1:W.heap[w.heap.size]?=some (.cells (fltC false 0 0 false) 37 (0,0)):=by rw [←HW.out];exact twoW_1 _ _ _ _
  exact (Below.heap_setCell _ _ _ _ (by show w.heap.size≠w.heap.size+1;omega)).trans ((Below.heap_setCell _ _ _ _ (by show w.heap.size≠w.heap.size+1;omega)).trans b1)
 have HC:=Lib.hid (out_spec (HV.out.below hb2) (HO.out.below hb2))
 have HB2:=Lib.hid hb2
 have HB0:=Lib.hid B0
 have HB1:=Lib.hid B1
 clear hW2 hb2 B0 B1 HW HB HV HO
 go_wp2_with fail
 refine HC.out.mono ?_
 rintro e w3 ⟨rfl,rfl⟩
 have k0:w3.cell? ⟨w.heap.size+1,0,none⟩=some (.bool true):=blk_cell HB1.out 0
 have k1:w3.cell? ⟨w.heap.size+1,1,none⟩=some (.int .i64 l):=blk_cell HB1.out 1
 have k2:w3.cell? ⟨w.heap.size+1,2,none⟩=some (.int .i64 c):=blk_cell HB1.out 2
 have k3:w3.cell? ⟨w.heap.size+1,3,none⟩=some (.bool false):=blk_cell HB1.out 3
 have f3:=blk_frozen HB1.out 3
 have r0:w3.cell? ⟨w.heap.size,0,none⟩=some (.bool false):=blk_cell HB0.out 0
 have r1:w3.cell? ⟨w.heap.size,1,none⟩=some (.int .i64 0):=blk_cell HB0.out 1
 have r2:w3.cell? ⟨w.heap.size,2,none⟩=some (.int .i64 0):=blk_cell HB0.out 2
 have r3:w3.cell? ⟨w.heap.size,3,none⟩=some (.bool false):=blk_cell HB0.out 3
 have g0:=blk_frozen HB0.out 0
 have g1:=blk_frozen HB0.out 1
 have g2:=blk_frozen HB0.out 2
 have g3:=blk_frozen HB0.out 3
 go_wp2_with fail
 refine bodyPost_ret (res_c37 rfl _ _ w.heap.size 37 (fltC true l c out) (0,0) rfl ?_ Tryz.underlying37 (by kernel_rfl)) rfl ?_
 ·exact blk_set (blk_set (blk_set (blk_set ((Below.heap_setCell _ _ _ _ (by show w.heap.size≠w.heap.size+1;omega)).trans HB0.out) 0 _) 1 _) 2 _) 3 _
 ·exact ⟨rfl,((((HB2.out.setCell (Nat.le_succ _) _).setCell (Nat.le_refl _) _).setCell (Nat.le_refl _) _).setCell (Nat.le_refl _) _).setCell (Nat.le_refl _) _⟩
end Go.Proofs.YtkfggfjdplnkpaaGreatDoor
end
