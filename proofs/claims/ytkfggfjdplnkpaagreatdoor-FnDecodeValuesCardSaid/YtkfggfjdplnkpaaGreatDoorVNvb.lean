/- A part of the proof that the law FnDecodeValues returns true; its conditions are those of the last part. -/
import Derived.Test.YtkfggfjdplnkpaaGreatDoorVNv
import Derived.Test.YtkfggfjdplnkpaaGreatDoorVWord
import Derived.Laws.ResultCell
import Derived.Laws.Rows
import Derived.Test.YtkfggfjdplnkpaaGreatDoorVWLast
set_option maxRecDepth 100000
set_option linter.unusedVariables false
set_option linter.unusedSimpArgs false
section
namespace Go.Proofs.YtkfggfjdplnkpaaGreatDoor
open Go Go.RowKit
theorem res_ct {fn:Func} {p u:Tmp} {ty:TypeId} (h:fn.results=#[.cell p ty,.tmp u]) (tmps:Array Value) (w:World) (g:Nat) (t:TypeId) (cs:Array Value) (fr:Nat × Nat) {fs:Array Field}
  (hp:tmps.getD p undef=.pointer (some ⟨g,0,none⟩)) (hg:w.heap[g]?=some (.cells cs t fr))
  (hu:Tryz.prog.underlying ty=some (.struct fs)) (hi:(Tryz.prog.info? ty).map (·.size)=some cs.size) :
  (results fn tmps).run Tryz.prog w=.ok (.tuple #[.agg cs,tmps.getD u undef]) w:=by
 rw [results_cell_tmp h,hp]
 simp [asAddr,run_loadVar_row w g t ty cs fr (.struct fs) hg hu rfl hi]
inductive NV where
 | good (num:Int) (str:Bool) (kind:Nat)
 | bad (out:Bool)
def nvN (e:Nat) (g:NV):NV:=if e=0 then g else if e=1 then .bad true else .bad false
def nvF (bi bn:Bool) (b:Nat):NV:=match bi||bn with
 | true=>.bad false
 | false=>.good (b:Int) false 4
def valV (n:Int) (b:Value) (k:Nat):Value:=.agg #[.int .u64 n,b,.int .u8 (k:Int)]
def NvPost (w:World) (aO:Addr) (v:Value):NV→Ending→World→Prop
 | .good n st k,e,w'=>e=.returned (.tuple #[valV n (match st with | true=>v | false=>.slice none 0 0) k,.nilIface])∧Below w.heap.size w w'
 | .bad out,e,w'=>∃ ev,e=.returned (.tuple #[valV 0 (.slice none 0 0) 0,ev])∧Below w.heap.size w w'∧ErrV w aO out ev w'
structure St (w w2:World):Prop where
 blk:w2.heap[w.heap.size]?=some (.cells #[.int .u64 0,.slice none 0 0,.int .u8 0] 57 (0,0))
 only:Only (fun _=>False) w w2
theorem St.start (w:World):St w (w.alloc (.cells #[.int .u64 0,.slice none 0 0,.int .u8 0] 57)):=⟨heap_alloc_new _ _,Only.alloc (Only.refl _ _) _⟩
theorem St.below {w w2 w3:World} (h:St w w2) (hb:Below w2.heap.size w2 w3):St w w3:=
 ⟨(hb.block _ (blk_lt h.blk)).trans h.blk,h.only.then_below hb⟩
theorem St.put {w w2:World} (h:St w w2) (n b k:Value):(((w2.setCell ⟨w.heap.size,0,none⟩ n).setCell ⟨w.heap.size,1,none⟩ b).setCell ⟨w.heap.size,2,none⟩ k).heap[w.heap.size]?=some (.cells #[n,b,k] 57 (0,0))∧
  Below w.heap.size w (((w2.setCell ⟨w.heap.size,0,none⟩ n).setCell ⟨w.heap.size,1,none⟩ b).setCell ⟨w.heap.size,2,none⟩ k):=
 ⟨blk_set (blk_set (blk_set h.blk 0 n) 1 b) 2 k,(((h.only.setCell (.inr (Nat.le_refl _)) n).setCell (.inr (Nat.le_refl _)) b).setCell (.inr (Nat.le_refl _)) k).below (fun _ h=>h.elim)⟩
theorem St.le {w w2:World} (h:St w w2):w.heap.size≤w2.heap.size:=h.only.size
theorem ErrV.up {w w1 w2:World} {aO:Addr} {out:Bool} {ev:Value} (h:ErrV w1 aO out ev w2) (hs:w.heap.size≤w1.heap.size):ErrV w aO out ev w2:=by
 obtain ⟨q,h1,h2,h3,h4⟩:=h
 exact ⟨q,h1,h2,fun h=>⟨Nat.le_trans hs (h3 h).1,(h3 h).2⟩,h4⟩
theorem ErrV.on {w w2 w3:World} {aO:Addr} {out:Bool} {ev:Value} (h:ErrV w aO out ev w2) (hs:w2.heap.size≤w3.heap.size) (hb:∀ q,w.heap.size<q→q<w2.heap.size→w3.heap[q]?=w2.heap[q]?) (hg:out=false→ev≠.iface 167 (.pointer (some ⟨w.heap.size,0,none⟩))):ErrV w aO out ev w3:=by
 obtain ⟨q,h1,h2,h3,h4⟩:=h
 refine ⟨q,h1,h2,fun h=>?_,h4⟩
 obtain ⟨a,b,cs,c⟩:=h3 h
 have hne:q.block≠w.heap.size:=fun e=>hg h (by rw [h1,h4 h,e])
 exact ⟨a,Nat.lt_of_lt_of_le b hs,cs,(hb q.block (by omega) b).trans c⟩
theorem put_other {w2:World} {g q:Nat} (n b k:Value) (h:q≠g):(((w2.setCell ⟨g,0,none⟩ n).setCell ⟨g,1,none⟩ b).setCell ⟨g,2,none⟩ k).heap[q]?=w2.heap[q]?:=by
 rw [Below.heap_setCell _ _ _ _ h,Below.heap_setCell _ _ _ _ h,Below.heap_setCell _ _ _ _ h]
theorem put_size {w2:World} {g:Nat} (n b k:Value):(((w2.setCell ⟨g,0,none⟩ n).setCell ⟨g,1,none⟩ b).setCell ⟨g,2,none⟩ k).heap.size=w2.heap.size:=by simp [World.setCell]
set_option maxHeartbeats 4000000 in
theorem nv_int {w:World} {v:Value} {L:List UInt8} {B:Nat} {aR aS aO:Addr} (hL:L.length≤800) (hV:EV w B aR aS aO) (hB:TB w v L) (chk:Bool) :
  Calls Tryz.prog 40 #[.int .u8 2,v,.bool chk] w (NvPost w aO v (nvN (pnE (Lib.parseIntB 64 L)) (.good (IntKind.u64.wrap (piV (Lib.parseIntB 64 L))) false 2))):=by
 have V1:=Lib.hid (hV.below ((Below.refl _ w).alloc (Nat.le_refl _) (.cells #[.int .u64 0,.slice none 0 0,.int .u8 0] 57)))
 have B1:=Lib.hid (hB.below ((Below.refl _ w).alloc (Nat.le_refl _) (.cells #[.int .u64 0,.slice none 0 0,.int .u8 0] 57)))
 have S1:=Lib.hid (St.start w)
 have H:=Lib.hid (pib_spec hL V1.out B1.out)
 obtain ⟨e,hee⟩:∃ e,pnE (Lib.parseIntB 64 L)=e:=⟨_,rfl⟩
 obtain ⟨vv,hvv⟩:∃ x,piV (Lib.parseIntB 64 L)=x:=⟨_,rfl⟩
 rw [hee,hvv] at H ⊢
 clear hee hvv hV hB
 go_enter Tryz.func40,Tryz.ntmps40
 go_wp2_with fail
 refine H.out.mono ?_
 clear H
 rintro ex w2 ⟨u,⟨ev,rfl,h1,(⟨he,rfl⟩ | ⟨he,N,fn,s,rfl,h2,h3⟩ | ⟨he,N,fn,s,rfl,h2,h3⟩)⟩,h4⟩
 ·subst he
  have hu:=h4 rfl
  subst hu
  have Sw2:=Lib.hid (S1.out.below h1)
  clear h1 h4
  have bw2:=Sw2.out.blk
  have cw20:w2.cell? ⟨w.heap.size,0,none⟩=some (.int .u64 0):=blk_cell bw2 0
  have cw21:w2.cell? ⟨w.heap.size,1,none⟩=some (.slice none 0 0):=blk_cell bw2 1
  have cw22:w2.cell? ⟨w.heap.size,2,none⟩=some (.int .u8 0):=blk_cell bw2 2
  have fw20:=blk_frozen bw2 0
  have fw21:=blk_frozen bw2 1
  have fw22:=blk_frozen bw2 2
  clear bw2
  go_wp2_with fail
  refine bodyPost_ret (res_ct rfl _ _ w.heap.size 57 #[.int .u64 (IntKind.u64.wrap vv),.slice none 0 0,.int .u8 2] (0,0) rfl (Sw2.out.put _ _ _).1 Tryz.underlying57 (by kernel_rfl)) rfl ?_
  exact ⟨rfl,(Sw2.out.put _ _ _).2⟩
 ·subst he
  have Sw2:=Lib.hid (S1.out.below h1)
  have Vw2:=Lib.hid (V1.out.below h1)
  have HN:=Lib.hid h3
  clear h1 h2 h3 h4
  go_wp2_with fail
  refine (mor_range Vw2.out (fn:=_) (s:=_) HN.out).mono ?_
  rintro ex w3 ⟨ev2,rfl,g1,g2⟩
  have Sw3:=Lib.hid (Sw2.out.below g1)
  have G2:=Lib.hid g2
  clear g1 g2
  have bw3:=Sw3.out.blk
  have cw30:w3.cell? ⟨w.heap.size,0,none⟩=some (.int .u64 0):=blk_cell bw3 0
  have cw31:w3.cell? ⟨w.heap.size,1,none⟩=some (.slice none 0 0):=blk_cell bw3 1
  have cw32:w3.cell? ⟨w.heap.size,2,none⟩=some (.int .u8 0):=blk_cell bw3 2
  have fw30:=blk_frozen bw3 0
  have fw31:=blk_frozen bw3 1
  have fw32:=blk_frozen bw3 2
  clear bw3
  go_wp2_with fail
  refine bodyPost_ret (res_ct rfl _ _ w.heap.size 57 #[.int .u64 0,.slice none 0 0,.int .u8 0] (0,0) rfl (Sw3.out.put _ _ _).1 Tryz.underlying57 (by kernel_rfl)) rfl ?_
  exact ⟨_,rfl,(Sw3.out.put _ _ _).2,(G2.out.up Sw2.out.le).on (by rw [put_size];exact Nat.le_refl _) (fun q h1 _=>put_other _ _ _ (by omega)) (fun h=>by cases h)⟩
 ·subst he
  have Sw2:=Lib.hid (S1.out.below h1)
  have Vw2:=Lib.hid (V1.out.below h1)
  have HN:=Lib.hid h3
  clear h1 h2 h3 h4
  go_wp2_with fail
  refine (mor_syntax Vw2.out (fn:=_) (s:=_) HN.out).mono ?_
  rintro ex w3 ⟨ev2,rfl,g1,g2⟩
  have Sw3:=Lib.hid (Sw2.out.below g1)
  have G2:=Lib.hid g2
  clear g1 g2
  have HNE:Hid (ev2≠.iface 167 (.pointer (some ⟨w.heap.size,0,none⟩))):=Lib.hid (by
   intro e
   obtain ⟨q,e1,_,e3,e4⟩:=G2.out
   rw [e1,e4 rfl] at e
   have:=(e3 rfl).1
   have:=blk_lt Sw2.out.blk
   injection e with _ e
   injection e with e
   injection e with e
   injection e with e
   omega)
  have bw3:=Sw3.out.blk
  have cw30:w3.cell? ⟨w.heap.size,0,none⟩=some (.int .u64 0):=blk_cell bw3 0
  have cw31:w3.cell? ⟨w.heap.size,1,none⟩=some (.slice none 0 0):=blk_cell bw3 1
  have cw32:w3.cell? ⟨w.heap.size,2,none⟩=some (.int .u8 0):=blk_cell bw3 2
  have fw30:=blk_frozen bw3 0
  have fw31:=blk_frozen bw3 1
  have fw32:=blk_frozen bw3 2
  clear bw3
  go_wp2_with fail
  refine bodyPost_ret (res_ct rfl _ _ w.heap.size 57 #[.int .u64 0,.slice none 0 0,.int .u8 0] (0,0) rfl (Sw3.out.put _ _ _).1 Tryz.underlying57 (by kernel_rfl)) rfl ?_
  exact ⟨_,rfl,(Sw3.out.put _ _ _).2,(G2.out.up Sw2.out.le).on (by rw [put_size];exact Nat.le_refl _) (fun q h1 _=>put_other _ _ _ (by omega)) (fun _=>HNE.out)⟩
set_option maxHeartbeats 4000000 in
theorem nv_uint {w:World} {v:Value} {L:List UInt8} {B:Nat} {aR aS aO:Addr} (hL:L.length≤800) (hV:EV w B aR aS aO) (hB:TB w v L) (chk:Bool) :
  Calls Tryz.prog 40 #[.int .u8 3,v,.bool chk] w (NvPost w aO v (nvN (pnE (Lib.parseUintB 64 L)) (.good (puV (Lib.parseUintB 64 L)) false 3))):=by
 have V1:=Lib.hid (hV.below ((Below.refl _ w).alloc (Nat.le_refl _) (.cells #[.int .u64 0,.slice none 0 0,.int .u8 0] 57)))
 have B1:=Lib.hid (hB.below ((Below.refl _ w).alloc (Nat.le_refl _) (.cells #[.int .u64 0,.slice none 0 0,.int .u8 0] 57)))
 have S1:=Lib.hid (St.start w)
 have H:=Lib.hid (pub_spec hL V1.out B1.out)
 obtain ⟨e,hee⟩:∃ e,pnE (Lib.parseUintB 64 L)=e:=⟨_,rfl⟩
 obtain ⟨vv,hvv⟩:∃ x,puV (Lib.parseUintB 64 L)=x:=⟨_,rfl⟩
 rw [hee,hvv] at H ⊢
 clear hee hvv hV hB
 go_enter Tryz.func40,Tryz.ntmps40
 go_wp2_with fail
 refine H.out.mono ?_
 clear H
 rintro ex w2 ⟨u,⟨ev,rfl,h1,(⟨he,rfl⟩ | ⟨he,N,fn,s,rfl,h2,h3⟩ | ⟨he,N,fn,s,rfl,h2,h3⟩)⟩,h4⟩
 ·subst he
  have hu:=h4 rfl
  subst hu
  have Sw2:=Lib.hid (S1.out.below h1)
  clear h1 h4
  have bw2:=Sw2.out.blk
  have cw20:w2.cell? ⟨w.heap.size,0,none⟩=some (.int .u64 0):=blk_cell bw2 0
  have cw21:w2.cell? ⟨w.heap.size,1,none⟩=some (.slice none 0 0):=blk_cell bw2 1
  have cw22:w2.cell? ⟨w.heap.size,2,none⟩=some (.int .u8 0):=blk_cell bw2 2
  have fw20:=blk_frozen bw2 0
  have fw21:=blk_frozen bw2 1
  have fw22:=blk_frozen bw2 2
  clear bw2
  go_wp2_with fail
  refine bodyPost_ret (res_ct rfl _ _ w.heap.size 57 #[.int .u64 vv,.slice none 0 0,.int .u8 3] (0,0) rfl (Sw2.out.put _ _ _).1 Tryz.underlying57 (by kernel_rfl)) rfl ?_
  exact ⟨rfl,(Sw2.out.put _ _ _).2⟩
 ·subst he
  have Sw2:=Lib.hid (S1.out.below h1)
  have Vw2:=Lib.hid (V1.out.below h1)
  have HN:=Lib.hid h3
  clear h1 h2 h3 h4
  go_wp2_with fail
  refine (mor_range Vw2.out (fn:=_) (s:=_) HN.out).mono ?_
  rintro ex w3 ⟨ev2,rfl,g1,g2⟩
  have Sw3:=Lib.hid (Sw2.out.below g1)
  have G2:=Lib.hid g2
  clear g1 g2
  have bw3:=Sw3.out.blk
  have cw30:w3.cell? ⟨w.heap.size,0,none⟩=some (.int .u64 0):=blk_cell bw3 0
  have cw31:w3.cell? ⟨w.heap.size,1,none⟩=some (.slice none 0 0):=blk_cell bw3 1
  have cw32:w3.cell? ⟨w.heap.size,2,none⟩=some (.int .u8 0):=blk_cell bw3 2
  have fw30:=blk_frozen bw3 0
  have fw31:=blk_frozen bw3 1
  have fw32:=blk_frozen bw3 2
  clear bw3
  go_wp2_with fail
  refine bodyPost_ret (res_ct rfl _ _ w.heap.size 57 #[.int .u64 0,.slice none 0 0,.int .u8 0] (0,0) rfl (Sw3.out.put _ _ _).1 Tryz.underlying57 (by kernel_rfl)) rfl ?_
  exact ⟨_,rfl,(Sw3.out.put _ _ _).2,(G2.out.up Sw2.out.le).on (by rw [put_size];exact Nat.le_refl _) (fun q h1 _=>put_other _ _ _ (by omega)) (fun h=>by cases h)⟩
 ·subst he
  have Sw2:=Lib.hid (S1.out.below h1)
  have Vw2:=Lib.hid (V1.out.below h1)
  have HN:=Lib.hid h3
  clear h1 h2 h3 h4
  go_wp2_with fail
  refine (mor_syntax Vw2.out (fn:=_) (s:=_) HN.out).mono ?_
  rintro ex w3 ⟨ev2,rfl,g1,g2⟩
  have Sw3:=Lib.hid (Sw2.out.below g1)
  have G2:=Lib.hid g2
  clear g1 g2
  have HNE:Hid (ev2≠.iface 167 (.pointer (some ⟨w.heap.size,0,none⟩))):=Lib.hid (by
   intro e
   obtain ⟨q,e1,_,e3,e4⟩:=G2.out
   rw [e1,e4 rfl] at e
   have:=(e3 rfl).1
   have:=blk_lt Sw2.out.blk
   injection e with _ e
   injection e with e
   injection e with e
   injection e with e
   omega)
  have bw3:=Sw3.out.blk
  have cw30:w3.cell? ⟨w.heap.size,0,none⟩=some (.int .u64 0):=blk_cell bw3 0
  have cw31:w3.cell? ⟨w.heap.size,1,none⟩=some (.slice none 0 0):=blk_cell bw3 1
  have cw32:w3.cell? ⟨w.heap.size,2,none⟩=some (.int .u8 0):=blk_cell bw3 2
  have fw30:=blk_frozen bw3 0
  have fw31:=blk_frozen bw3 1
  have fw32:=blk_frozen bw3 2
  clear bw3
  go_wp2_with fail
  refine bodyPost_ret (res_ct rfl _ _ w.heap.size 57 #[.int .u64 0,.slice none 0 0,.int .u8 0] (0,0) rfl (Sw3.out.put _ _ _).1 Tryz.underlying57 (by kernel_rfl)) rfl ?_
  exact ⟨_,rfl,(Sw3.out.put _ _ _).2,(G2.out.up Sw2.out.le).on (by rw [put_size];exact Nat.le_refl _) (fun q h1 _=>put_other _ _ _ (by omega)) (fun _=>HNE.out)⟩
set_option maxHeartbeats 4000000 in
theorem nv_float {w:World} {v:Value} {L:List UInt8} {B:Nat} {aR aS aO:Addr} {b e:Nat} (hV:EV w B aR aS aO) (hB:TB w v L) (chk:Bool)
  (hf:∀ w B aR aS aO v,Tabs w B→EV w B aR aS aO→TB w v L→Calls Tryz.prog 90 #[v,.int .i64 64] w (NumEnd3 w aR aS (.float .f64 b) e)) {B2:Nat} (hT:Tabs w B2) (hBB:B=B2) :
  Calls Tryz.prog 40 #[.int .u8 4,v,.bool chk] w (NvPost w aO v (nvN e (nvF (isInfF b) (isNanF b) b))):=by
 subst hBB
 have V1:=Lib.hid (hV.below ((Below.refl _ w).alloc (Nat.le_refl _) (.cells #[.int .u64 0,.slice none 0 0,.int .u8 0] 57)))
 have B1:=Lib.hid (hB.below ((Below.refl _ w).alloc (Nat.le_refl _) (.cells #[.int .u64 0,.slice none 0 0,.int .u8 0] 57)))
 have S1:=Lib.hid (St.start w)
 have H:=Lib.hid (hf _ B aR aS aO v (hT.below ((Below.refl _ w).alloc (Nat.le_refl _) (.cells #[.int .u64 0,.slice none 0 0,.int .u8 0] 57))) V1.out B1.out)
 have hfb:=run_f64bits
 obtain ⟨bi,hbi⟩:∃ x,isInfF b=x:=⟨_,rfl⟩
 obtain ⟨bn,hbn⟩:∃ x,isNanF b=x:=⟨_,rfl⟩
 rw [hbi,hbn]
 have HI:=Lib.hid (isInf_spec b)
 have HNN:=Lib.hid (isNan_spec b)
 rw [hbi] at HI
 rw [hbn] at HNN
 clear hf hT hbi hbn hV hB
 go_enter Tryz.func40,Tryz.ntmps40
 go_wp2_with fail
 refine H.out.mono ?_
 clear H
 rintro ex w2 ⟨ev,rfl,h1,(⟨he,rfl⟩ | ⟨he,N,fn,s,rfl,h2,h3⟩ | ⟨he,N,fn,s,rfl,h2,h3⟩)⟩
 ·subst he
  have Sw2:=Lib.hid (S1.out.below h1)
  clear h1
  go_wp2_with fail
  refine (HI.out _).mono ?_
  rintro ex w3 ⟨rfl,rfl⟩
  have Sw3:=Sw2
  cases bi with
  | true=>
   go_wp2_with fail
   refine (errors_new2 _).mono ?_
   rintro ex w4 ⟨rfl,g1,g2⟩
   have Sw4:=Lib.hid (Sw3.out.below g1)
   have G2:Hid (ErrV w aO false (.iface 167 (.pointer (some ⟨w3.heap.size,0,none⟩))) w4):=Lib.hid ⟨_,rfl,fun h=>(by cases h),fun _=>⟨Sw3.out.le,g2⟩,fun _=>rfl⟩
   have HNE:Hid (Value.iface 167 (.pointer (some ⟨w3.heap.size,0,none⟩))≠.iface 167 (.pointer (some ⟨w.heap.size,0,none⟩))):=Lib.hid (fun e=>by
    have:=blk_lt Sw3.out.blk
    injection e with _ e
    injection e with e
    injection e with e
    injection e with e
    omega)
   clear g1 g2
   have bw4:=Sw4.out.blk
   have cw40:w4.cell? ⟨w.heap.size,0,none⟩=some (.int .u64 0):=blk_cell bw4 0
   have cw41:w4.cell? ⟨w.heap.size,1,none⟩=some (.slice none 0 0):=blk_cell bw4 1
   have cw42:w4.cell? ⟨w.heap.size,2,none⟩=some (.int .u8 0):=blk_cell bw4 2
   have fw40:=blk_frozen bw4 0
   have fw41:=blk_frozen bw4 1
   have fw42:=blk_frozen bw4 2
   clear bw4
   go_wp2_with fail
   refine bodyPost_ret (res_ct rfl _ _ w.heap.size 57 #[.int .u64 0,.slice none 0 0,.int .u8 0] (0,0) rfl (Sw4.out.put _ _ _).1 Tryz.underlying57 (by kernel_rfl)) rfl ?_
   exact ⟨_,rfl,(Sw4.out.put _ _ _).2,G2.out.on (by rw [put_size];exact Nat.le_refl _) (fun q h1 _=>put_other _ _ _ (by omega)) (fun _=>HNE.out)⟩
  | false=>
   go_wp2_with fail
   refine (HNN.out _).mono ?_
   rintro ex w4 ⟨rfl,rfl⟩
   have Sw4:=Sw3
   cases bn with
   | true=>
    go_wp2_with fail
    refine (errors_new2 _).mono ?_
    rintro ex w5 ⟨rfl,g1,g2⟩
    have Sw5:=Lib.hid (Sw4.out.below g1)
    have G2:Hid (ErrV w aO false (.iface 167 (.pointer (some ⟨w4.heap.size,0,none⟩))) w5):=Lib.hid ⟨_,rfl,fun h=>(by cases h),fun _=>⟨Sw4.out.le,g2⟩,fun _=>rfl⟩
    have HNE:Hid (Value.iface 167 (.pointer (some ⟨w4.heap.size,0,none⟩))≠.iface 167 (.pointer (some ⟨w.heap.size,0,none⟩))):=Lib.hid (fun e=>by
     have:=blk_lt Sw4.out.blk
     injection e with _ e
     injection e with e
     injection e with e
     injection e with e
     omega)
    clear g1 g2
    have bw5:=Sw5.out.blk
    have cw50:w5.cell? ⟨w.heap.size,0,none⟩=some (.int .u64 0):=blk_cell bw5 0
    have cw51:w5.cell? ⟨w.heap.size,1,none⟩=some (.slice none 0 0):=blk_cell bw5 1
    have cw52:w5.cell? ⟨w.heap.size,2,none⟩=some (.int .u8 0):=blk_cell bw5 2
    have fw50:=blk_frozen bw5 0
    have fw51:=blk_frozen bw5 1
    have fw52:=blk_frozen bw5 2
    clear bw5
    go_wp2_with fail
    refine bodyPost_ret (res_ct rfl _ _ w.heap.size 57 #[.int .u64 0,.slice none 0 0,.int .u8 0] (0,0) rfl (Sw5.out.put _ _ _).1 Tryz.underlying57 (by kernel_rfl)) rfl ?_
    exact ⟨_,rfl,(Sw5.out.put _ _ _).2,G2.out.on (by rw [put_size];exact Nat.le_refl _) (fun q h1 _=>put_other _ _ _ (by omega)) (fun _=>HNE.out)⟩
   | false=>
    have bw4:=Sw4.out.blk
    have cw40:w4.cell? ⟨w.heap.size,0,none⟩=some (.int .u64 0):=blk_cell bw4 0
    have cw41:w4.cell? ⟨w.heap.size,1,none⟩=some (.slice none 0 0):=blk_cell bw4 1
    have cw42:w4.cell? ⟨w.heap.size,2,none⟩=some (.int .u8 0):=blk_cell bw4 2
    have fw40:=blk_frozen bw4 0
    have fw41:=blk_frozen bw4 1
    have fw42:=blk_frozen bw4 2
    clear bw4
    go_wp2_with fail
    refine bodyPost_ret (res_ct rfl _ _ w.heap.size 57 #[.int .u64 (b:Int),.slice none 0 0,.int .u8 4] (0,0) rfl (Sw4.out.put _ _ _).1 Tryz.underlying57 (by kernel_rfl)) rfl ?_
    exact ⟨rfl,(Sw4.out.put _ _ _).2⟩
 ·subst he
  have Sw2:=Lib.hid (S1.out.below h1)
  have Vw2:=Lib.hid (V1.out.below h1)
  have HN:=Lib.hid h3
  clear h1 h2 h3
  go_wp2_with fail
  refine (mor_range Vw2.out (fn:=_) (s:=_) HN.out).mono ?_
  rintro ex w3 ⟨ev2,rfl,g1,g2⟩
  have Sw3:=Lib.hid (Sw2.out.below g1)
  have G2:=Lib.hid g2
  clear g1 g2
  have bw3:=Sw3.out.blk
  have cw30:w3.cell? ⟨w.heap.size,0,none⟩=some (.int .u64 0):=blk_cell bw3 0
  have cw31:w3.cell? ⟨w.heap.size,1,none⟩=some (.slice none 0 0):=blk_cell bw3 1
  have cw32:w3.cell? ⟨w.heap.size,2,none⟩=some (.int .u8 0):=blk_cell bw3 2
  have fw30:=blk_frozen bw3 0
  have fw31:=blk_frozen bw3 1
  have fw32:=blk_frozen bw3 2
  clear bw3
  go_wp2_with fail
  refine bodyPost_ret (res_ct rfl _ _ w.heap.size 57 #[.int .u64 0,.slice none 0 0,.int .u8 0] (0,0) rfl (Sw3.out.put _ _ _).1 Tryz.underlying57 (by kernel_rfl)) rfl ?_
  exact ⟨_,rfl,(Sw3.out.put _ _ _).2,(G2.out.up Sw2.out.le).on (by rw [put_size];exact Nat.le_refl _) (fun q h1 _=>put_other _ _ _ (by omega)) (fun h=>by cases h)⟩
 ·subst he
  have Sw2:=Lib.hid (S1.out.below h1)
  have Vw2:=Lib.hid (V1.out.below h1)
  have HN:=Lib.hid h3
  clear h1 h2 h3
  go_wp2_with fail
  refine (mor_syntax Vw2.out (fn:=_) (s:=_) HN.out).mono ?_
  rintro ex w3 ⟨ev2,rfl,g1,g2⟩
  have Sw3:=Lib.hid (Sw2.out.below g1)
  have G2:=Lib.hid g2
  clear g1 g2
  have HNE:Hid (ev2≠.iface 167 (.pointer (some ⟨w.heap.size,0,none⟩))):=Lib.hid (by
   intro e
   obtain ⟨q,e1,_,e3,e4⟩:=G2.out
   rw [e1,e4 rfl] at e
   have:=(e3 rfl).1
   have:=blk_lt Sw2.out.blk
   injection e with _ e
   injection e with e
   injection e with e
   injection e with e
   omega)
  have bw3:=Sw3.out.blk
  have cw30:w3.cell? ⟨w.heap.size,0,none⟩=some (.int .u64 0):=blk_cell bw3 0
  have cw31:w3.cell? ⟨w.heap.size,1,none⟩=some (.slice none 0 0):=blk_cell bw3 1
  have cw32:w3.cell? ⟨w.heap.size,2,none⟩=some (.int .u8 0):=blk_cell bw3 2
  have fw30:=blk_frozen bw3 0
  have fw31:=blk_frozen bw3 1
  have fw32:=blk_frozen bw3 2
  clear bw3
  go_wp2_with fail
  refine bodyPost_ret (res_ct rfl _ _ w.heap.size 57 #[.int .u64 0,.slice none 0 0,.int .u8 0] (0,0) rfl (Sw3.out.put _ _ _).1 Tryz.underlying57 (by kernel_rfl)) rfl ?_
  exact ⟨_,rfl,(Sw3.out.put _ _ _).2,(G2.out.up Sw2.out.le).on (by rw [put_size];exact Nat.le_refl _) (fun q h1 _=>put_other _ _ _ (by omega)) (fun _=>HNE.out)⟩
set_option maxHeartbeats 4000000 in
theorem nv_bool {w:World} {v:Value} {L:List UInt8} {B:Nat} {aR aS aO:Addr} (hV:EV w B aR aS aO) (hB:TB w v L) (chk:Bool) :
  Calls Tryz.prog 40 #[.int .u8 5,v,.bool chk] w (NvPost w aO v (match pbR (sOf L) with | some n=>.good (IntKind.u64.wrap n) false 5 | none=>.bad false)):=by
 have V1:=Lib.hid (hV.below ((Below.refl _ w).alloc (Nat.le_refl _) (.cells #[.int .u64 0,.slice none 0 0,.int .u8 0] 57)))
 have B1:=Lib.hid (hB.below ((Below.refl _ w).alloc (Nat.le_refl _) (.cells #[.int .u64 0,.slice none 0 0,.int .u8 0] 57)))
 have S1:=Lib.hid (St.start w)
 have H:=Lib.hid (pbb_spec V1.out B1.out)
 clear hV hB
 cases hR:pbR (sOf L) with
 | some n=>
  rw [hR] at H
  clear hR
  go_enter Tryz.func40,Tryz.ntmps40
  go_wp2_with fail
  refine H.out.mono ?_
  clear H
  rintro ex w2 ⟨rfl,m2,rfl⟩
  have Sw2:=Lib.hid (S1.out.below (bel_drewN _ m2))
  revert Sw2
  generalize World.drewN _ m2=w2
  intro Sw2
  have bw2:=Sw2.out.blk
  have cw20:w2.cell? ⟨w.heap.size,0,none⟩=some (.int .u64 0):=blk_cell bw2 0
  have cw21:w2.cell? ⟨w.heap.size,1,none⟩=some (.slice none 0 0):=blk_cell bw2 1
  have cw22:w2.cell? ⟨w.heap.size,2,none⟩=some (.int .u8 0):=blk_cell bw2 2
  have fw20:=blk_frozen bw2 0
  have fw21:=blk_frozen bw2 1
  have fw22:=blk_frozen bw2 2
  clear bw2
  go_wp2_with fail
  refine bodyPost_ret (res_ct rfl _ _ w.heap.size 57 #[.int .u64 (IntKind.u64.wrap n),.slice none 0 0,.int .u8 5] (0,0) rfl (Sw2.out.put _ _ _).1 Tryz.underlying57 (by kernel_rfl)) rfl ?_
  exact ⟨rfl,(Sw2.out.put _ _ _).2⟩
 | none=>
  rw [hR] at H
  clear hR
  go_enter Tryz.func40,Tryz.ntmps40
  go_wp2_with fail
  refine H.out.mono ?_
  clear H
  rintro ex w2 ⟨⟨te,pe,rfl⟩,m2,rfl⟩
  have Sw2:=Lib.hid (S1.out.below (bel_drewN _ m2))
  revert Sw2
  generalize World.drewN _ m2=w2
  intro Sw2
  go_wp2_with fail
  refine (errors_new2 _).mono ?_
  rintro ex w3 ⟨rfl,g1,g2⟩
  have Sw3:=Lib.hid (Sw2.out.below g1)
  have G2:Hid (ErrV w aO false (.iface 167 (.pointer (some ⟨w2.heap.size,0,none⟩))) w3):=Lib.hid ⟨_,rfl,fun h=>(by cases h),fun _=>⟨Sw2.out.le,g2⟩,fun _=>rfl⟩
  have HNE:Hid (Value.iface 167 (.pointer (some ⟨w2.heap.size,0,none⟩))≠.iface 167 (.pointer (some ⟨w.heap.size,0,none⟩))):=Lib.hid (fun e=>by
   have:=blk_lt Sw2.out.blk
   injection e with _ e
   injection e with e
   injection e with e
   injection e with e
   omega)
  clear g1 g2
  have bw3:=Sw3.out.blk
  have cw30:w3.cell? ⟨w.heap.size,0,none⟩=some (.int .u64 0):=blk_cell bw3 0
  have cw31:w3.cell? ⟨w.heap.size,1,none⟩=some (.slice none 0 0):=blk_cell bw3 1
  have cw32:w3.cell? ⟨w.heap.size,2,none⟩=some (.int .u8 0):=blk_cell bw3 2
  have fw30:=blk_frozen bw3 0
  have fw31:=blk_frozen bw3 1
  have fw32:=blk_frozen bw3 2
  clear bw3
  go_wp2_with fail
  refine bodyPost_ret (res_ct rfl _ _ w.heap.size 57 #[.int .u64 0,.slice none 0 0,.int .u8 0] (0,0) rfl (Sw3.out.put _ _ _).1 Tryz.underlying57 (by kernel_rfl)) rfl ?_
  exact ⟨_,rfl,(Sw3.out.put _ _ _).2,G2.out.on (by rw [put_size];exact Nat.le_refl _) (fun q h1 _=>put_other _ _ _ (by omega)) (fun _=>HNE.out)⟩
set_option maxHeartbeats 4000000 in
theorem nv_str (w:World) {aO:Addr} {b:Option Addr} {n c:Nat} :
  Calls Tryz.prog 40 #[.int .u8 1,.slice b n c,.bool false] w (NvPost w aO (.slice b n c) (.good 0 true 0)):=by
 have Sw1:=Lib.hid (St.start w)
 go_enter Tryz.func40,Tryz.ntmps40
 go_upto_region 28 with fail
 revert Sw1
 generalize w.alloc (.cells #[.int .u64 0,.slice none 0 0,.int .u8 0] 57)=w1
 intro Sw1
 have bw1:=Sw1.out.blk
 have cw10:w1.cell? ⟨w.heap.size,0,none⟩=some (.int .u64 0):=blk_cell bw1 0
 have cw11:w1.cell? ⟨w.heap.size,1,none⟩=some (.slice none 0 0):=blk_cell bw1 1
 have cw12:w1.cell? ⟨w.heap.size,2,none⟩=some (.int .u8 0):=blk_cell bw1 2
 have fw10:=blk_frozen bw1 0
 have fw11:=blk_frozen bw1 1
 have fw12:=blk_frozen bw1 2
 clear bw1
 go_wp2_with fail
 refine bodyPost_ret (res_ct rfl _ _ w.heap.size 57 #[.int .u64 0,.slice b n c,.int .u8 0] (0,0) rfl (Sw1.out.put _ _ _).1 Tryz.underlying57 (by kernel_rfl)) rfl ?_
 exact ⟨rfl,(Sw1.out.put _ _ _).2⟩
set_option maxHeartbeats 4000000 in
theorem nv_strV {w:World} {a:Option Addr} {cap:Nat} {L:List UInt8} {aO:Addr} (hL:L.length≤800) (hcap:L.length≤cap) (hU:∀ w',Below w.heap.size w w'→Lib.Utf8Tabs 4 5 w') (hB:TB w (.slice a L.length cap) L) (hval:Lib.validD L=true) :
  Calls Tryz.prog 40 #[.int .u8 1,.slice a L.length cap,.bool true] w (NvPost w aO (.slice a L.length cap) (.good 0 true 0)):=by
 have B1:=Lib.hid (hB.below ((Below.refl _ w).alloc (Nat.le_refl _) (.cells #[.int .u64 0,.slice none 0 0,.int .u8 0] 57)))
 have S1:=Lib.hid (St.start w)
 have hU1:=hU _ ((Below.refl _ w).alloc (Nat.le_refl _) (.cells #[.int .u64 0,.slice none 0 0,.int .u8 0] 57))
 have H:=Lib.hid (valid_spec L a L.length cap rfl hcap (by omega) hU1 (fun hn=>by
  obtain ⟨b,o,c,e,_,h⟩:=B1.out.cells hn
  injection e with e _
  exact ⟨b,o,e,h⟩))
 rw [hval] at H
 clear hB hU hU1
 go_enter Tryz.func40,Tryz.ntmps40
 go_wp2_with fail
 refine H.out.mono ?_
 clear H
 rintro ex w2 ⟨rfl,h1⟩
 have Sw2:=Lib.hid (S1.out.below h1)
 clear h1
 have bw2:=Sw2.out.blk
 have cw20:w2.cell? ⟨w.heap.size,0,none⟩=some (.int .u64 0):=blk_cell bw2 0
 have cw21:w2.cell? ⟨w.heap.size,1,none⟩=some (.slice none 0 0):=blk_cell bw2 1
 have cw22:w2.cell? ⟨w.heap.size,2,none⟩=some (.int .u8 0):=blk_cell bw2 2
 have fw20:=blk_frozen bw2 0
 have fw21:=blk_frozen bw2 1
 have fw22:=blk_frozen bw2 2
 clear bw2
 go_wp2_with fail
 refine bodyPost_ret (res_ct rfl _ _ w.heap.size 57 #[.int .u64 0,.slice a L.length cap,.int .u8 0] (0,0) rfl (Sw2.out.put _ _ _).1 Tryz.underlying57 (by kernel_rfl)) rfl ?_
 exact ⟨rfl,(Sw2.out.put _ _ _).2⟩
def NvOk:NV→Prop
 | .good num st kd=>(st=true∧kd=0∨st=false∧2≤kd∧kd≤5)∧(kd=4→∃ b:Nat,num=(b:Int)∧isInfF b=false∧isNanF b=false)
 | .bad _=>True
theorem nvOk_N {e:Nat} {g:NV} (h:NvOk g):NvOk (nvN e g):=by
 unfold nvN
 split
 ·exact h
 ·split <;> trivial
theorem nvOk_F (b:Nat):NvOk (nvF (isInfF b) (isNanF b) b):=by
 unfold nvF
 cases h1:isInfF b <;> cases h2:isNanF b <;> first | trivial | exact ⟨.inr ⟨rfl,by omega,by omega⟩,fun _=>⟨b,rfl,h1,h2⟩⟩
theorem nv_det (k:Nat) (hk:1≤k∧k≤5) (L:List UInt8) (hL:L.length≤800) (hval:k=1→Lib.validD L=true) :
  ∃ r:NV,NvOk r∧∀ w B aR aS aO a cap chk,Tabs w B→EV w B aR aS aO→(chk=true→L.length≤cap)→(∀ w',Below w.heap.size w w'→Lib.Utf8Tabs 4 5 w')→TB w (.slice a L.length cap) L→
   Calls Tryz.prog 40 #[.int .u8 (k:Int),.slice a L.length cap,.bool chk] w (NvPost w aO (.slice a L.length cap) r):=by
 obtain ⟨h1,h2⟩:=hk
 match k,h1,h2,hval with
 | 1,_,_,hval=>
  refine ⟨.good 0 true 0,⟨.inl ⟨rfl,rfl⟩,fun h=>by omega⟩,fun w B aR aS aO a cap chk hT hV hc hU hB=>?_⟩
  cases chk with
  | false=>exact nv_str w
  | true=>exact nv_strV hL (hc rfl) hU hB (hval rfl)
 | 2,_,_,_=>exact ⟨_,nvOk_N (g:=.good _ false 2) ⟨.inr ⟨rfl,by omega,by omega⟩,fun h=>by omega⟩,fun w B aR aS aO a cap chk hT hV hc hU hB=>nv_int hL hV hB chk⟩
 | 3,_,_,_=>exact ⟨_,nvOk_N (g:=.good _ false 3) ⟨.inr ⟨rfl,by omega,by omega⟩,fun h=>by omega⟩,fun w B aR aS aO a cap chk hT hV hc hU hB=>nv_uint hL hV hB chk⟩
 | 4,_,_,_=>
  obtain ⟨b,e,he,hf⟩:=pfb_det L hL
  exact ⟨_,nvOk_N (nvOk_F b),fun w B aR aS aO a cap chk hT hV hc hU hB=>nv_float hV hB chk hf hT rfl⟩
 | 5,_,_,_=>
  refine ⟨(match pbR (sOf L) with | some n=>.good (IntKind.u64.wrap n) false 5 | none=>.bad false),?_,fun w B aR aS aO a cap chk hT hV hc hU hB=>nv_bool hV hB chk⟩
  cases pbR (sOf L) with
  | some n=>exact ⟨.inr ⟨rfl,by omega,by omega⟩,fun h=>by omega⟩
  | none=>trivial
end Go.Proofs.YtkfggfjdplnkpaaGreatDoor
end
section
namespace Go.Proofs.YtkfggfjdplnkpaaGreatDoor
open Go Go.RowKit Go.Proofs.YtkfggfjdplnkpaaGreatDoorW.PrintLast
structure Vl where
 kind:Nat
 s:ByteArray
 n:Int
 u:Int
 f:Nat
 b:Bool
def Vl.cells (v:Vl):Array Value:=#[.int .i64 (v.kind:Int),.string v.s,.int .i64 v.n,.int .u64 v.u,.float .f64 v.f,.bool v.b]
def zVl:Vl:=⟨0,⟨#[]⟩,0,0,0,false⟩
def plOf (num:Int) (kd:Nat) (L:List UInt8):Vl:=
 if kd=0 then ⟨1,sOf L,0,0,0,false⟩ else if kd=2 then ⟨2,⟨#[]⟩,wrap64 num,0,0,false⟩ else if kd=3 then ⟨3,⟨#[]⟩,0,num,0,false⟩
 else if kd=4 then ⟨4,⟨#[]⟩,0,0,num.toNat,false⟩ else ⟨5,⟨#[]⟩,0,0,0,num != 0⟩
def kindOf (k:Nat):Nat:=if k=0 then 1 else k
def RetB (w:World) (v:Value) (e:Ending) (w':World):Prop:=e=.returned v∧Below w.heap.size w w'
def vbox (w:World) (n:Int) (a:Option Addr) (l c k:Nat):World:=w.alloc (.cells #[.int .u64 n,.slice a l c,.int .u8 (k:Int)] 57)
theorem vbox_below (w:World) (n:Int) (a:Option Addr) (l c k:Nat):Below w.heap.size w (vbox w n a l c k):=(Below.refl _ _).alloc (Nat.le_refl _) _
structure Vb (w W:World) (n:Int) (a:Option Addr) (l c k:Nat):Prop where
 blk:W.heap[w.heap.size]?=some (.cells #[.int .u64 n,.slice a l c,.int .u8 (k:Int)] 57 (0,0))
 b:Below w.heap.size w W
theorem Vb.start (w:World) (n:Int) (a:Option Addr) (l c k:Nat):Vb w (vbox w n a l c k) n a l c k:=⟨heap_alloc_new _ _,vbox_below w n a l c k⟩
theorem Vb.below {w W W2:World} {n:Int} {a:Option Addr} {l c k:Nat} (h:Vb w W n a l c k) (hb:Below W.heap.size W W2):Vb w W2 n a l c k:=
 ⟨(hb.block _ (blk_lt h.blk)).trans h.blk,h.b.trans (hb.mono h.b.size)⟩
theorem Vb.facts {w W:World} {n:Int} {a:Option Addr} {l c k:Nat} (h:Vb w W n a l c k):W.cell? ⟨w.heap.size,0,none⟩=some (.int .u64 n)∧W.cell? ⟨w.heap.size,1,none⟩=some (.slice a l c)∧W.cell? ⟨w.heap.size,2,none⟩=some (.int .u8 (k:Int)):=
 ⟨blk_cell h.blk 0,blk_cell h.blk 1,blk_cell h.blk 2⟩
theorem kind_spec (w:World) (n:Int) (a:Option Addr) (l c k:Nat):Calls Tryz.prog 42 #[.agg #[.int .u64 n,.slice a l c,.int .u8 (k:Int)]] w (RetB w (.int .u8 (kindOf k:Int))):=by
 have hb:=vbox_below w n a l c k
 unfold vbox at hb
 have HB:=Lib.hid hb
 clear hb
 by_cases hk:k=0
 ·subst hk
  go_enter Tryz.func42,Tryz.ntmps42
  go_wp2_with fail
  go_ret
  exact ⟨rfl,HB.out⟩
 ·have d1:((k:Int)==0)=false:=beq_eq_false_iff_ne.2 (by omega)
  have d2:((k:Int)=0)=False:=eq_false (by omega)
  have d3:(k=0)=False:=eq_false hk
  have HK:=Lib.hid (show kindOf k=k by unfold kindOf;rw [if_neg hk])
  go_enter Tryz.func42,Tryz.ntmps42
  go_wp2_with fail
  go_ret
  exact ⟨by rw [HK.out];rfl,HB.out⟩
theorem must_spec (w:World) (n:Int) (a:Option Addr) (l c k:Nat):Calls Tryz.prog 130 #[.agg #[.int .u64 n,.slice a l c,.int .u8 (k:Int)],.int .u8 (kindOf k:Int)] w (RetB w (.tuple #[])):=by
 obtain ⟨j,hj⟩:∃ j,kindOf k=j:=⟨_,rfl⟩
 have HK:=Lib.hid (fun W=>kind_spec W n a l c k)
 rw [hj] at HK
 rw [hj]
 have hv:=Vb.start w n a l c k
 obtain ⟨c0,c1,c2⟩:=hv.facts
 have HV:=Lib.hid hv
 clear hv hj
 unfold vbox at c0 c1 c2
 have HW:=Lib.hid (show vbox w n a l c k=w.alloc (.cells #[.int .u64 n,.slice a l c,.int .u8 (k:Int)] 57) from rfl)
 go_enter Tryz.func130,Tryz.ntmps130
 go_wp2_with fail
 refine (HK.out _).mono ?_
 rintro e w2 ⟨rfl,hb⟩
 have V2:=Lib.hid (HV.out.below (by rw [HW.out];exact hb))
 clear hb HK HW HV c0 c1 c2
 go_wp2_with fail
 go_end0
 exact ⟨rfl,V2.out.b⟩
theorem acc_96 {L:List UInt8} (w:World) (n:Int) (a:Option Addr) (l c:Nat) (hT:TB w (.slice a l c) L):Calls Tryz.prog 96 #[.agg #[.int .u64 n,.slice a l c,.int .u8 0]] w (RetB w (.string (sOf L))):=by
 have HM:=Lib.hid (fun W=>must_spec W n a l c 0)
 have hv:=Vb.start w n a l c 0
 obtain ⟨c0,c1,c2⟩:=hv.facts
 have HV:=Lib.hid hv
 clear hv
 unfold vbox at c0 c1 c2
 have HW:=Lib.hid (show vbox w n a l c 0=w.alloc (.cells #[.int .u64 n,.slice a l c,.int .u8 ((0:Nat):Int)] 57) from rfl)
 have HT:=Lib.hid hT
 clear hT
 go_enter Tryz.func96,Tryz.ntmps96
 go_wp2_with fail
 refine (HM.out _).mono ?_
 rintro e w2 ⟨rfl,hb⟩
 have V2:=Lib.hid (HV.out.below (by rw [HW.out];exact hb))
 clear hb HM HW HV c0 c1 c2
 obtain ⟨c0,c1,c2⟩:=V2.out.facts
 have hcv:=conv_told (HT.out.below V2.out.b)
 go_wp2_with fail
 go_ret
 exact ⟨rfl,V2.out.b⟩
theorem acc_97 (w:World) (n:Int) (a:Option Addr) (l c:Nat):Calls Tryz.prog 97 #[.agg #[.int .u64 n,.slice a l c,.int .u8 2]] w (RetB w (.int .i64 (wrap64 n))):=by
 have HM:=Lib.hid (fun W=>must_spec W n a l c 2)
 have hv:=Vb.start w n a l c 2
 obtain ⟨c0,c1,c2⟩:=hv.facts
 have HV:=Lib.hid hv
 clear hv
 unfold vbox at c0 c1 c2
 have HW:=Lib.hid (show vbox w n a l c 2=w.alloc (.cells #[.int .u64 n,.slice a l c,.int .u8 ((2:Nat):Int)] 57) from rfl)
 go_enter Tryz.func97,Tryz.ntmps97
 go_wp2_with fail
 refine (HM.out _).mono ?_
 rintro e w2 ⟨rfl,hb⟩
 have V2:=Lib.hid (HV.out.below (by rw [HW.out];exact hb))
 clear hb HM HW HV c0 c1 c2
 obtain ⟨c0,c1,c2⟩:=V2.out.facts
 go_wp2_with fail
 go_ret
 exact ⟨rfl,V2.out.b⟩
theorem acc_98 (w:World) (n:Int) (a:Option Addr) (l c:Nat):Calls Tryz.prog 98 #[.agg #[.int .u64 n,.slice a l c,.int .u8 3]] w (RetB w (.int .u64 n)):=by
 have HM:=Lib.hid (fun W=>must_spec W n a l c 3)
 have hv:=Vb.start w n a l c 3
 obtain ⟨c0,c1,c2⟩:=hv.facts
 have HV:=Lib.hid hv
 clear hv
 unfold vbox at c0 c1 c2
 have HW:=Lib.hid (show vbox w n a l c 3=w.alloc (.cells #[.int .u64 n,.slice a l c,.int .u8 ((3:Nat):Int)] 57) from rfl)
 go_enter Tryz.func98,Tryz.ntmps98
 go_wp2_with fail
 refine (HM.out _).mono ?_
 rintro e w2 ⟨rfl,hb⟩
 have V2:=Lib.hid (HV.out.below (by rw [HW.out];exact hb))
 clear hb HM HW HV c0 c1 c2
 obtain ⟨c0,c1,c2⟩:=V2.out.facts
 go_wp2_with fail
 go_ret
 exact ⟨rfl,V2.out.b⟩
theorem acc_99 (w:World) (n:Int) (a:Option Addr) (l c:Nat):Calls Tryz.prog 99 #[.agg #[.int .u64 n,.slice a l c,.int .u8 4]] w (RetB w (.float .f64 n.toNat)):=by
 have HM:=Lib.hid (fun W=>must_spec W n a l c 4)
 have hv:=Vb.start w n a l c 4
 obtain ⟨c0,c1,c2⟩:=hv.facts
 have HV:=Lib.hid hv
 clear hv
 unfold vbox at c0 c1 c2
 have HW:=Lib.hid (show vbox w n a l c 4=w.alloc (.cells #[.int .u64 n,.slice a l c,.int .u8 ((4:Nat):Int)] 57) from rfl)
 have hf:=run_f64from
 go_enter Tryz.func99,Tryz.ntmps99
 go_wp2_with fail
 refine (HM.out _).mono ?_
 rintro e w2 ⟨rfl,hb⟩
 have V2:=Lib.hid (HV.out.below (by rw [HW.out];exact hb))
 clear hb HM HW HV c0 c1 c2
 obtain ⟨c0,c1,c2⟩:=V2.out.facts
 go_wp2_with fail
 go_ret
 exact ⟨rfl,V2.out.b⟩
theorem acc_100 (w:World) (n:Int) (a:Option Addr) (l c:Nat):Calls Tryz.prog 100 #[.agg #[.int .u64 n,.slice a l c,.int .u8 5]] w (RetB w (.bool (n != 0))):=by
 have HM:=Lib.hid (fun W=>must_spec W n a l c 5)
 have hv:=Vb.start w n a l c 5
 obtain ⟨c0,c1,c2⟩:=hv.facts
 have HV:=Lib.hid hv
 clear hv
 unfold vbox at c0 c1 c2
 have HW:=Lib.hid (show vbox w n a l c 5=w.alloc (.cells #[.int .u64 n,.slice a l c,.int .u8 ((5:Nat):Int)] 57) from rfl)
 go_enter Tryz.func100,Tryz.ntmps100
 go_wp2_with fail
 refine (HM.out _).mono ?_
 rintro e w2 ⟨rfl,hb⟩
 have V2:=Lib.hid (HV.out.below (by rw [HW.out];exact hb))
 clear hb HM HW HV c0 c1 c2
 obtain ⟨c0,c1,c2⟩:=V2.out.facts
 go_wp2_with fail
 go_ret
 exact ⟨rfl,V2.out.b⟩
theorem res_c35 {fn:Func} {p:Tmp} {ty:TypeId} (h:fn.results=#[.cell p ty]) (tmps:Array Value) (w:World) (g:Nat) (t:TypeId) (cs:Array Value) (fr:Nat × Nat) {fs:Array Field}
  (hp:tmps.getD p undef=.pointer (some ⟨g,0,none⟩)) (hg:w.heap[g]?=some (.cells cs t fr))
  (hu:Tryz.prog.underlying ty=some (.struct fs)) (hi:(Tryz.prog.info? ty).map (·.size)=some cs.size) :
  (results fn tmps).run Tryz.prog w=.ok (.agg cs) w:=by
 have hp':tmps[p]?.getD undef=.pointer (some ⟨g,0,none⟩):=by simpa using hp
 simp only [results,h]
 simp [Sem.run_bind,hp',asAddr,run_loadVar_row w g t ty cs fr (.struct fs) hg hu rfl hi,Result.andThen]
theorem row_run0 {o:Oper} {a:Act} {w:World} (ty:TypeId) (x y:Operand) (ho:o.op=.store ty x y) (g:Nat) (cells:Array Value) (hx:a.eval x=.pointer (some ⟨g,0,none⟩)) (hy:a.eval y=.agg cells)
  (t:TypeId) (old:Array Value) (hg:w.heap[g]?=some (.cells old t (0,0))) (hi:(Tryz.prog.info? ty).map (·.size)=some cells.size)
  (hold:old.size=cells.size) (h1:cells.all (·.oneCell')=true):(execOp a.eval o).run Tryz.prog w=.ok .skip (w.setRow g cells):=by
 unfold execOp
 simp only [ho,hx,hy,Instr.storeAt,Instr.sureAddr,Sem.run_bind,Sem.run_pure,Result.andThen_ok,run_storeVar_row w g t ty old cells hg hi hold h1]
theorem vl_all (v:Vl):v.cells.all (·.oneCell')=true:=by simp [Vl.cells,Value.oneCell']
def plZ:Array Value:=#[.int .i64 0,.string ⟨#[]⟩,.int .i64 0,.int .u64 0,.float .f64 0,.bool false]
def twoP (w:World) (c1:Array Value):World:=(w.alloc (.cells c1 57)).alloc (.cells plZ 35)
theorem twoP_below (w:World) (c1:Array Value):Below w.heap.size w (twoP w c1):=by
 have e3:(w.alloc (.cells c1 57)).heap.size=w.heap.size+1:=Array.size_push _
 exact ((Below.refl w.heap.size w).alloc (Nat.le_refl _) _).alloc (by rw [e3];omega) _
theorem twoP_1 (w:World) (c1:Array Value):(twoP w c1).heap[w.heap.size]?=some (.cells c1 57 (0,0)):=heap_alloc2_old w _ _
theorem twoP_2 (w:World) (c1:Array Value):(twoP w c1).heap[w.heap.size+1]?=some (.cells plZ 35 (0,0)):=heap_alloc2_new w _ _
structure PlQ (w W:World):Prop where
 r:W.heap[w.heap.size+1]?=some (.cells plZ 35 (0,0))
 b:Below w.heap.size w W
theorem PlQ.start (w:World) (c1:Array Value) {W:World} (hb:Below (twoP w c1).heap.size (twoP w c1) W):PlQ w W:=
 ⟨(hb.block _ (blk_lt (twoP_2 w c1))).trans (twoP_2 w c1),(twoP_below w c1).trans (hb.mono (twoP_below w c1).size)⟩
set_option maxHeartbeats 1000000 in
theorem accd_96 {L:List UInt8} (w:World) (n:Int) (a:Option Addr) (l c:Nat) (hT:TB w (.slice a l c) L):Calls Tryz.prog 41 #[.agg #[.int .u64 n,.slice a l c,.int .u8 0],.int .i64 1] w (RetB w (.agg (Vl.cells ⟨1,sOf L,0,0,0,false⟩))):=by
 have HC:=Lib.hid (fun W (hb:Below w.heap.size w W)=>acc_96 W n a l c (hT.below hb))
 have hb:=twoP_below w #[.int .u64 n,.slice a l c,.int .u8 0]
 clear hT
 go_enter Tryz.func41,Tryz.ntmps41
 go_wp2_with fail
 refine (HC.out _ hb).mono ?_
 rintro e w2 ⟨rfl,hb2⟩
 have P2:=Lib.hid (PlQ.start w #[.int .u64 n,.slice a l c,.int .u8 0] hb2)
 clear hb hb2 HC
 go_wp2_with (with_reducible refine wpList_store_row rfl 35 (.tmp 4) (.tmp 10) rfl (w.heap.size+1) (Vl.cells ⟨1,sOf L,0,0,0,false⟩) rfl rfl 35 plZ P2.out.r (by kernel_rfl) rfl (vl_all _) ?_)
 refine bodyPost_ret (res_c35 rfl _ _ (w.heap.size+1) 35 (Vl.cells ⟨1,sOf L,0,0,0,false⟩) (0,0) rfl (setRow_heap _ _ _ _ _ _ P2.out.r) Tryz.underlying35 (by kernel_rfl)) rfl ?_
 exact ⟨rfl,P2.out.b.trans ⟨rfl,rfl,rfl,by simp [World.setRow],fun k hk=>setRow_other _ _ _ _ (by omega)⟩⟩
set_option maxHeartbeats 1000000 in
theorem accd_97 (w:World) (n:Int) (a:Option Addr) (l c:Nat):Calls Tryz.prog 41 #[.agg #[.int .u64 n,.slice a l c,.int .u8 2],.int .i64 2] w (RetB w (.agg (Vl.cells ⟨2,⟨#[]⟩,wrap64 n,0,0,false⟩))):=by
 have HC:=Lib.hid (fun W (hb:Below w.heap.size w W)=>acc_97 W n a l c)
 have hb:=twoP_below w #[.int .u64 n,.slice a l c,.int .u8 2]
 go_enter Tryz.func41,Tryz.ntmps41
 go_wp2_with fail
 refine (HC.out _ hb).mono ?_
 rintro e w2 ⟨rfl,hb2⟩
 have P2:=Lib.hid (PlQ.start w #[.int .u64 n,.slice a l c,.int .u8 2] hb2)
 clear hb hb2 HC
 go_wp2_with (with_reducible refine wpList_store_row rfl 35 (.tmp 4) (.tmp 15) rfl (w.heap.size+1) (Vl.cells ⟨2,⟨#[]⟩,wrap64 n,0,0,false⟩) rfl rfl 35 plZ P2.out.r (by kernel_rfl) rfl (vl_all _) ?_)
 refine bodyPost_ret (res_c35 rfl _ _ (w.heap.size+1) 35 (Vl.cells ⟨2,⟨#[]⟩,wrap64 n,0,0,false⟩) (0,0) rfl (setRow_heap _ _ _ _ _ _ P2.out.r) Tryz.underlying35 (by kernel_rfl)) rfl ?_
 exact ⟨rfl,P2.out.b.trans ⟨rfl,rfl,rfl,by simp [World.setRow],fun k hk=>setRow_other _ _ _ _ (by omega)⟩⟩
set_option maxHeartbeats 1000000 in
theorem accd_98 (w:World) (n:Int) (a:Option Addr) (l c:Nat):Calls Tryz.prog 41 #[.agg #[.int .u64 n,.slice a l c,.int .u8 3],.int .i64 3] w (RetB w (.agg (Vl.cells ⟨3,⟨#[]⟩,0,n,0,false⟩))):=by
 have HC:=Lib.hid (fun W (hb:Below w.heap.size w W)=>acc_98 W n a l c)
 have hb:=twoP_below w #[.int .u64 n,.slice a l c,.int .u8 3]
 go_enter Tryz.func41,Tryz.ntmps41
 go_wp2_with fail
 refine (HC.out _ hb).mono ?_
 rintro e w2 ⟨rfl,hb2⟩
 have P2:=Lib.hid (PlQ.start w #[.int .u64 n,.slice a l c,.int .u8 3] hb2)
 clear hb hb2 HC
 go_wp2_with (with_reducible refine wpList_store_row rfl 35 (.tmp 4) (.tmp 20) rfl (w.heap.size+1) (Vl.cells ⟨3,⟨#[]⟩,0,n,0,false⟩) rfl rfl 35 plZ P2.out.r (by kernel_rfl) rfl (vl_all _) ?_)
 refine bodyPost_ret (res_c35 rfl _ _ (w.heap.size+1) 35 (Vl.cells ⟨3,⟨#[]⟩,0,n,0,false⟩) (0,0) rfl (setRow_heap _ _ _ _ _ _ P2.out.r) Tryz.underlying35 (by kernel_rfl)) rfl ?_
 exact ⟨rfl,P2.out.b.trans ⟨rfl,rfl,rfl,by simp [World.setRow],fun k hk=>setRow_other _ _ _ _ (by omega)⟩⟩
set_option maxHeartbeats 1000000 in
theorem accd_99 (w:World) (n:Int) (a:Option Addr) (l c:Nat):Calls Tryz.prog 41 #[.agg #[.int .u64 n,.slice a l c,.int .u8 4],.int .i64 4] w (RetB w (.agg (Vl.cells ⟨4,⟨#[]⟩,0,0,n.toNat,false⟩))):=by
 have HC:=Lib.hid (fun W (hb:Below w.heap.size w W)=>acc_99 W n a l c)
 have hb:=twoP_below w #[.int .u64 n,.slice a l c,.int .u8 4]
 go_enter Tryz.func41,Tryz.ntmps41
 go_wp2_with fail
 refine (HC.out _ hb).mono ?_
 rintro e w2 ⟨rfl,hb2⟩
 have P2:=Lib.hid (PlQ.start w #[.int .u64 n,.slice a l c,.int .u8 4] hb2)
 clear hb hb2 HC
 go_wp2_with (with_reducible refine wpList_store_row rfl 35 (.tmp 4) (.tmp 25) rfl (w.heap.size+1) (Vl.cells ⟨4,⟨#[]⟩,0,0,n.toNat,false⟩) rfl rfl 35 plZ P2.out.r (by kernel_rfl) rfl (vl_all _) ?_)
 refine bodyPost_ret (res_c35 rfl _ _ (w.heap.size+1) 35 (Vl.cells ⟨4,⟨#[]⟩,0,0,n.toNat,false⟩) (0,0) rfl (setRow_heap _ _ _ _ _ _ P2.out.r) Tryz.underlying35 (by kernel_rfl)) rfl ?_
 exact ⟨rfl,P2.out.b.trans ⟨rfl,rfl,rfl,by simp [World.setRow],fun k hk=>setRow_other _ _ _ _ (by omega)⟩⟩
set_option maxHeartbeats 1000000 in
theorem accd_100 (w:World) (n:Int) (a:Option Addr) (l c:Nat):Calls Tryz.prog 41 #[.agg #[.int .u64 n,.slice a l c,.int .u8 5],.int .i64 5] w (RetB w (.agg (Vl.cells ⟨5,⟨#[]⟩,0,0,0,n != 0⟩))):=by
 have HC:=Lib.hid (fun W (hb:Below w.heap.size w W)=>acc_100 W n a l c)
 have hb:=twoP_below w #[.int .u64 n,.slice a l c,.int .u8 5]
 go_enter Tryz.func41,Tryz.ntmps41
 go_wp2_with fail
 refine (HC.out _ hb).mono ?_
 rintro e w2 ⟨rfl,hb2⟩
 have P2:=Lib.hid (PlQ.start w #[.int .u64 n,.slice a l c,.int .u8 5] hb2)
 clear hb hb2 HC
 go_wp2_with (with_reducible refine wpList_store_row rfl 35 (.tmp 4) (.tmp 30) rfl (w.heap.size+1) (Vl.cells ⟨5,⟨#[]⟩,0,0,0,n != 0⟩) rfl rfl 35 plZ P2.out.r (by kernel_rfl) rfl (vl_all _) ?_)
 refine bodyPost_ret (res_c35 rfl _ _ (w.heap.size+1) 35 (Vl.cells ⟨5,⟨#[]⟩,0,0,0,n != 0⟩) (0,0) rfl (setRow_heap _ _ _ _ _ _ P2.out.r) Tryz.underlying35 (by kernel_rfl)) rfl ?_
 exact ⟨rfl,P2.out.b.trans ⟨rfl,rfl,rfl,by simp [World.setRow],fun k hk=>setRow_other _ _ _ _ (by omega)⟩⟩
theorem accessed_spec {L:List UInt8} {w:World} {n:Int} {a:Option Addr} {l c k:Nat} (hk:k=0∨2≤k∧k≤5) (hT:k=0→TB w (.slice a l c) L) :
  Calls Tryz.prog 41 #[.agg #[.int .u64 n,.slice a l c,.int .u8 (k:Int)],.int .i64 (kindOf k:Int)] w (RetB w (.agg (plOf n k L).cells)):=by
 rcases hk with rfl | ⟨h1,h2⟩
 ·exact accd_96 w n a l c (hT rfl)
 ·match k,h1,h2 with
  | 2,_,_=>exact accd_97 w n a l c
  | 3,_,_=>exact accd_98 w n a l c
  | 4,_,_=>exact accd_99 w n a l c
  | 5,_,_=>exact accd_100 w n a l c
set_option maxHeartbeats 1000000 in
theorem plain_spec {L:List UInt8} {w:World} {n:Int} {a:Option Addr} {l c k:Nat} (hk:k=0∨2≤k∧k≤5) (hT:k=0→TB w (.slice a l c) L) :
  Calls Tryz.prog 20 #[.agg #[.int .u64 n,.slice a l c,.int .u8 (k:Int)]] w (RetB w (.agg (plOf n k L).cells)):=by
 have HK:=Lib.hid (fun W=>kind_spec W n a l c k)
 obtain ⟨W,hW⟩:∃ W,twoP w #[.int .u64 n,.slice a l c,.int .u8 (k:Int)]=W:=⟨_,rfl⟩
 have hbW:=twoP_below w #[.int .u64 n,.slice a l c,.int .u8 (k:Int)]
 have h0:=twoP_1 w #[.int .u64 n,.slice a l c,.int .u8 (k:Int)]
 have h1:=twoP_2 w #[.int .u64 n,.slice a l c,.int .u8 (k:Int)]
 rw [hW] at hbW h0 h1
 have HA:=Lib.hid (fun W2 (hb:Below W.heap.size W W2)=>accessed_spec (L:=L) (w:=W2) (n:=n) (a:=a) (l:=l) (c:=c) (k:=k) hk (fun e=>(hT e).below (hbW.trans (hb.mono hbW.size))))
 have c0:W.cell? ⟨w.heap.size,0,none⟩=some (.int .u64 n):=blk_cell h0 0
 have c1:W.cell? ⟨w.heap.size,1,none⟩=some (.slice a l c):=blk_cell h0 1
 have c2:W.cell? ⟨w.heap.size,2,none⟩=some (.int .u8 (k:Int)):=blk_cell h0 2
 have HWL:=blk_lt h0
 have WK:IntKind.i64.wrap (kindOf k:Int)=(kindOf k:Int):=IntWalk.i64_in _ (by unfold kindOf; split <;> omega)
 have HR:=Lib.hid h1
 have HB:=Lib.hid hbW
 have HW:=Lib.hid hW
 clear hT hbW h0 h1 hW
 go_enter Tryz.func20,Tryz.ntmps20
 go_upto_region 1 with fail
 show Code.wp Tryz.prog _ _ _ (twoP w #[.int .u64 n,.slice a l c,.int .u8 (k:Int)])
 rw [HW.out]
 refine start_ (n:=6) (S:=fun w'=>Below (W).heap.size (W) w') (ds:=[5]) (bA 6 0) (by kernel_rfl) rfl rfl (Below.refl _ _).drew (fun _=>?_)
 refine take_ (i:=0) (N:=some 3) (v:=?_) (a':=?_) (bA 6 1) rfl rfl (by kernel_rfl) (fun _ _ _ h=>h) (Or.inl ⟨by rfl,?_⟩) (Below.refl _ _).drew ?_ ?_
 rotate_left
 ·intro w' hS;have d0:=(hS.cell (p:=⟨w.heap.size,0,none⟩) HWL).trans c0;have d1:=(hS.cell (p:=⟨w.heap.size,1,none⟩) HWL).trans c1;have d2:=(hS.cell (p:=⟨w.heap.size,2,none⟩) HWL).trans c2;go_simp;with_reducible rfl
 rotate_left
 ·simp only [Act.put,aA,aB,aC];rfl
 refine take_ (i:=1) (N:=some 4) (v:=?_) (a':=?_) (bA 6 3) rfl rfl (by kernel_rfl) (fun _ _ _ h=>h) (Or.inl ⟨by rfl,?_⟩) (Below.refl _ _).drew ?_ ?_
 rotate_left
 ·intro w' hS;have d0:=(hS.cell (p:=⟨w.heap.size,0,none⟩) HWL).trans c0;have d1:=(hS.cell (p:=⟨w.heap.size,1,none⟩) HWL).trans c1;have d2:=(hS.cell (p:=⟨w.heap.size,2,none⟩) HWL).trans c2;go_simp;with_reducible rfl
 rotate_left
 ·simp only [Act.put,aA,aB,aC];rfl
 refine one_ (i:=2) (N:=some 5) (bA 6 7) rfl rfl (by kernel_rfl) (by decide) (fun K hK=>?_)
 refine call_ 42 #[.agg #[.int .u64 n,.slice a l c,.int .u8 (k:Int)]] (by rfl) rfl (by go_simp) ?_
 refine (HK.out _).mono ?_
 rintro e w2 ⟨rfl,hb⟩
 have hb2:Below W.heap.size W w2:=(Below.refl _ _).drew.trans hb
 refine ⟨_,rfl,hK.out _ _ hb2 (fun _=>?_)⟩
 clear hK K hb
 refine take_ (i:=3) (N:=some 6) (v:=?_) (a':=?_) (bA 6 15) rfl rfl (by kernel_rfl) (fun _ _ _ h=>h) (Or.inl ⟨by rfl,?_⟩) hb2 ?_ ?_
 rotate_left
 ·intro w' hS;have d0:=(hS.cell (p:=⟨w.heap.size,0,none⟩) HWL).trans c0;have d1:=(hS.cell (p:=⟨w.heap.size,1,none⟩) HWL).trans c1;have d2:=(hS.cell (p:=⟨w.heap.size,2,none⟩) HWL).trans c2;go_simp;with_reducible rfl
 rotate_left
 ·simp only [Act.put,aA,aB,aC];rfl
 refine one_ (i:=4) (N:=some 7) (bA 6 31) rfl rfl (by kernel_rfl) (by decide) (fun K hK=>?_)
 refine call_ 41 #[.agg #[.int .u64 n,.slice a l c,.int .u8 (k:Int)],.int .i64 (kindOf k:Int)] (by rfl) rfl (by go_simp) ?_
 refine (HA.out _ hb2).mono ?_
 rintro e w3 ⟨rfl,hb3⟩
 have hb4:Below W.heap.size W w3:=hb2.trans (hb3.mono hb2.size)
 refine ⟨_,rfl,hK.out _ _ hb4 (fun _=>?_)⟩
 clear hK K hb3
 refine last_ (i:=5) (N:=none) (bA 6 63) rfl rfl (by kernel_rfl) (by decide) (fun K hK=>?_)
 refine skip_ (by rfl) rfl (row_run0 35 (.tmp 2) (.tmp 7) rfl (w.heap.size+1) (plOf n k L).cells (by rfl) (by rfl) 35 _ ((hb4.block _ (blk_lt HR.out)).trans HR.out) (by kernel_rfl) rfl (vl_all _)) ?_
 refine hK.out _ _ ?_
 clear hK K
 refine done_ (by kernel_rfl) ?_
 have hR2:=(hb4.block _ (blk_lt HR.out)).trans HR.out
 have HR2:=Lib.hid hR2
 have HB4:=Lib.hid (HB.out.trans (hb4.mono HB.out.size))
 clear hR2 hb4 hb2 c0 c1 c2 HWL
 go_wp2_with fail
 refine bodyPost_ret (res_c35 rfl _ _ (w.heap.size+1) 35 (plOf n k L).cells (0,0) rfl (setRow_heap _ _ _ _ _ _ HR2.out) Tryz.underlying35 (by kernel_rfl)) rfl ?_
 exact ⟨rfl,HB4.out.trans ⟨rfl,rfl,rfl,by simp [World.setRow],fun k hk=>setRow_other _ _ _ _ (by omega)⟩⟩
end Go.Proofs.YtkfggfjdplnkpaaGreatDoor
end
