/- A part of the proof that the law FnDecodeValues returns true; its conditions are those of the last part. -/
import Derived.Test.YtkfggfjdplnkpaaGreatDoorVAtof
import Derived.Test.YtkfggfjdplnkpaaGreatDoorVMore
import Derived.Laws.IdiomStrings
import Derived.WalkSmall
set_option maxRecDepth 100000
set_option linter.unusedVariables false
set_option linter.unusedSimpArgs false
section
namespace Go.Proofs.YtkfggfjdplnkpaaGreatDoor
open Go Go.RowKit
structure TB (w:World) (v:Value) (L:List UInt8):Prop where
 len:∃ a cap,v=.slice a L.length cap
 cells:L≠[]→∃ b o cap,v=.slice (some ⟨b,o,none⟩) L.length cap∧b<w.heap.size∧∀ j,j<L.length→w.cell? ⟨b,o+j,none⟩=L[j]?.map bcell
theorem TB.below {w w':World} {v:Value} {L:List UInt8} (h:TB w v L) (hb:Below w.heap.size w w'):TB w' v L:=
 ⟨h.len,fun hn=>by
  obtain ⟨b,o,cap,h1,h2,h3⟩:=h.cells hn
  exact ⟨b,o,cap,h1,Nat.lt_of_lt_of_le h2 hb.size,fun j hj=>(World.cell?_of_block (hb.block b h2)).trans (h3 j hj)⟩⟩
def sOf (L:List UInt8):ByteArray:=⟨L.toArray⟩
theorem sOf_size (L:List UInt8):(sOf L).size=L.length:=rfl
theorem conv_told {w:World} {v:Value} {L:List UInt8} (h:TB w v L):(convert 54 9 v).run Tryz.prog w=.ok (.string (sOf L)) w:=by
 by_cases hn:L=[]
 ·subst hn
  obtain ⟨a,cap,rfl⟩:=h.len
  rw [run_convert_bytes_string w 54 9 5 a _ cap Tryz.underlying54 Tryz.underlying5 Tryz.underlying9]
  cases a <;> simp [Conv.bytesToString,loadCells] <;> rfl
 ·obtain ⟨b,o,cap,rfl,hb,hc⟩:=h.cells hn
  exact run_convert_bytes_back w 54 9 5 ⟨b,o,none⟩ cap L Tryz.underlying54 Tryz.underlying5 Tryz.underlying9 (fun j hj=>by
   have:=hc j hj
   rw [List.getElem?_eq_getElem hj] at this
   have e:(⟨b,o,none⟩:Addr).add j=⟨b,o+j,none⟩:=by
    unfold Addr.add
    split
    ·next h=>rw [h];rfl
    ·rfl
   rw [e,this]
   rfl)
structure EV (w:World) (B:Nat) (aR aS aO:Addr):Prop where
 rng:w.var? Tryz.prog "strconv.ErrRange"=some #[.iface 167 (.pointer (some aR))]
 syn:w.var? Tryz.prog "strconv.ErrSyntax"=some #[.iface 167 (.pointer (some aS))]
 out:w.cell? ⟨0,0,none⟩=some (.iface 167 (.pointer (some aO)))
 bad:∃ t p,w.cell? ⟨3,0,none⟩=some (.iface t p)
 bR:∃ cs t,w.heap[aR.block]?=some (.cells cs t (0,0))
 bS:∃ cs t,w.heap[aS.block]?=some (.cells cs t (0,0))
 bO:∃ cs t,w.heap[aO.block]?=some (.cells cs t (0,0))
 ne:aR≠aS
 lt:aR.block<B∧aS.block<B∧aO.block<B∧25<B
 le:B≤w.heap.size
namespace EV
variable {w w':World} {B:Nat} {aR aS aO:Addr}
theorem keep (h:EV w B aR aS aO) (hl:∀ k,k<B→w'.heap[k]?=w.heap[k]?) (hs:w.heap.size≤w'.heap.size):EV w' B aR aS aO:=by
 obtain ⟨l1,l2,l3,l4⟩:=h.lt
 have hv:∀ n g,Tryz.prog.globalNamed n=some g→g<B→w'.var? Tryz.prog n=w.var? Tryz.prog n:=fun n g hg hgB=>by
  unfold World.var?
  rw [hg]
  dsimp only [Option.bind]
  rw [hl g hgB]
 obtain ⟨t,p,hb⟩:=h.bad
 obtain ⟨c1,t1,b1⟩:=h.bR
 obtain ⟨c2,t2,b2⟩:=h.bS
 obtain ⟨c3,t3,b3⟩:=h.bO
 exact ⟨(hv _ 1 (by kernel_rfl) (by omega)).trans h.rng,(hv _ 8 (by kernel_rfl) (by omega)).trans h.syn,(World.cell?_of_block (hl 0 (by omega))).trans h.out,
  ⟨t,p,(World.cell?_of_block (hl 3 (by omega))).trans hb⟩,⟨c1,t1,(hl aR.block l1).trans b1⟩,⟨c2,t2,(hl aS.block l2).trans b2⟩,⟨c3,t3,(hl aO.block l3).trans b3⟩,h.ne,h.lt,Nat.le_trans h.le hs⟩
theorem below (h:EV w B aR aS aO) (hb:Below w.heap.size w w'):EV w' B aR aS aO:=h.keep (fun k hk=>hb.block k (Nat.lt_of_lt_of_le hk h.le)) hb.size
theorem cR (h:EV w B aR aS aO):w.cell? ⟨1,0,none⟩=some (.iface 167 (.pointer (some aR))):=World.var?_cell (g:=1) (by kernel_rfl) h.rng 0
theorem cS (h:EV w B aR aS aO):w.cell? ⟨8,0,none⟩=some (.iface 167 (.pointer (some aS))):=World.var?_cell (g:=8) (by kernel_rfl) h.syn 0
end EV
def NumE (w:World) (a:Addr) (ev:Value) (w':World):Prop:=
 ∃ N fn s,ev=.iface 183 (.pointer (some ⟨N,0,none⟩))∧w.heap.size≤N∧w'.heap[N]?=some (.cells #[.string fn,.string s,.iface 167 (.pointer (some a))] 186 (0,0))
def NumEnd3 (w:World) (aR aS:Addr) (v:Value) (e:Nat) (en:Ending) (w':World):Prop:=
 ∃ ev,en=.returned (.tuple #[v,ev])∧Below w.heap.size w w'∧((e=0∧ev=.nilIface)∨(e=1∧NumE w aR ev w')∨(e=2∧NumE w aS ev w'))
theorem pfx_spec {w:World} {s:ByteArray} {b:Nat} {n:Int} {e:Nat} (h:Calls Tryz.prog 167 #[.string s] w (AfPost w b n e)) :
  Calls Tryz.prog 157 #[.string s,.int .i64 64] w (AfPost w b n e):=by
 have H:=Lib.hid h
 clear h
 obtain ⟨ev,hev⟩:∃ ev,errN e=ev:=⟨_,rfl⟩
 have HE:=Lib.hid hev
 go_enter Tryz.func157,Tryz.ntmps157
 go_wp2_with fail
 refine H.out.mono ?_
 rintro ex w2 ⟨rfl,hb⟩
 have HB:=Lib.hid hb
 rw [hev]
 clear hb hev
 go_wp2_with fail
 refine bodyPost_ret (results_tmp3 rfl _ _ _) rfl ?_
 exact ⟨by rw [HE.out];rfl,HB.out⟩
def pf4 (s:ByteArray) (b:Nat) (n:Int) (e:Nat):Nat × Nat:=if n=(s.size:Int) then (b,e) else (0,2)
theorem ipf_spec {w:World} {s:ByteArray} {b:Nat} {n:Int} {e:Nat} (h:Calls Tryz.prog 167 #[.string s] w (AfPost w b n e)) :
  Calls Tryz.prog 149 #[.string s,.int .i64 64] w fun en w'=>en=.returned (.tuple #[.float .f64 (pf4 s b n e).1,errN (pf4 s b n e).2])∧Below w.heap.size w w':=by
 have H:=Lib.hid (pfx_spec h)
 clear h
 obtain ⟨ev,hev⟩:∃ ev,errN e=ev:=⟨_,rfl⟩
 have HE:=Lib.hid hev
 obtain ⟨R,hR⟩:∃ R,pf4 s b n e=R:=⟨_,rfl⟩
 rw [hR]
 have HR:=Lib.hid hR
 go_enter Tryz.func149,Tryz.ntmps149
 go_wp2_with fail
 refine H.out.mono ?_
 rintro ex w2 ⟨rfl,hb⟩
 have HB:=Lib.hid hb
 rw [hev]
 clear hb hev hR
 by_cases hn:n=(s.size:Int)
 ·have HR2:Hid (R=(b,e)):=Lib.hid (by rw [←HR.out];exact if_pos hn)
  subst hn
  go_wp2_with fail
  refine bodyPost_ret (results_tmp2 rfl _ _ _) rfl ?_
  exact ⟨by rw [HR2.out,HE.out];rfl,HB.out⟩
 ·have HR2:Hid (R=(0,2)):=Lib.hid (by rw [←HR.out];exact if_neg hn)
  have hnb:(n==(s.size:Int))=false:=beq_eq_false_iff_ne.2 hn
  go_wp2_with fail
  refine bodyPost_ret (results_tmp2 rfl _ _ _) rfl ?_
  exact ⟨by rw [HR2.out];rfl,HB.out⟩
theorem spf_spec {w:World} {s:ByteArray} {B:Nat} {aR aS aO:Addr} (hs:s.size≤800) (hV:EV w B aR aS aO) {b e:Nat} (he:e≤2)
  (h:Calls Tryz.prog 149 #[.string s,.int .i64 64] w fun en w'=>en=.returned (.tuple #[.float .f64 b,errN e])∧Below w.heap.size w w') :
  Calls Tryz.prog 124 #[.string s,.int .i64 64] w (NumEnd3 w aR aS (.float .f64 b) e):=by
 have H:=Lib.hid h
 have HV:=Lib.hid hV
 clear h hV
 go_enter Tryz.func124,Tryz.ntmps124
 go_wp2_with fail
 refine H.out.mono ?_
 rintro ex w2 ⟨rfl,hb⟩
 have HB:=Lib.hid hb
 have HV2:=Lib.hid (HV.out.below hb)
 clear hb
 match e,he with
 | 0,_=>
  dsimp only [errN]
  go_wp2_with fail
  refine bodyPost_ret (results_tmp2 rfl _ _ _) rfl ?_
  exact ⟨_,rfl,HB.out,.inl ⟨rfl,rfl⟩⟩
 | 1,_=>
  dsimp only [errN]
  go_wp2_with fail
  refine (Tryz.strconv_toError_range _ s _ _ _ w2 (by omega) HV2.out.cR (.inr ⟨_,_,rfl⟩)).mono ?_
  rintro ex w3 ⟨N,rfl,h1,h2,h3⟩
  have H3:=Lib.hid (And.intro h1 (And.intro h2 h3))
  clear h1 h2 h3
  go_wp2_with fail
  refine bodyPost_ret (results_tmp2 rfl _ _ _) rfl ?_
  exact ⟨_,rfl,HB.out.trans (H3.out.2.2.mono HB.out.size),.inr (.inl ⟨rfl,N,_,_,rfl,Nat.le_trans HB.out.size H3.out.1,H3.out.2.1⟩)⟩
 | 2,_=>
  dsimp only [errN]
  go_wp2_with fail
  refine (Tryz.strconv_toError_syntax _ s _ _ _ w2 (by omega) HV2.out.cS (.inr ⟨_,_,rfl⟩)).mono ?_
  rintro ex w3 ⟨N,rfl,h1,h2,h3⟩
  have H3:=Lib.hid (And.intro h1 (And.intro h2 h3))
  clear h1 h2 h3
  go_wp2_with fail
  refine bodyPost_ret (results_tmp2 rfl _ _ _) rfl ?_
  exact ⟨_,rfl,HB.out.trans (H3.out.2.2.mono HB.out.size),.inr (.inr ⟨rfl,N,_,_,rfl,Nat.le_trans HB.out.size H3.out.1,H3.out.2.1⟩)⟩
theorem pfb_det (L:List UInt8) (hL:L.length≤800):∃ b e:Nat,e≤2∧∀ w B aR aS aO v,Tabs w B→EV w B aR aS aO→TB w v L→Calls Tryz.prog 90 #[v,.int .i64 64] w (NumEnd3 w aR aS (.float .f64 b) e):=by
 obtain ⟨b0,n0,e0,he0,h⟩:=atof_det (sOf L) hL
 refine ⟨(pf4 (sOf L) b0 n0 e0).1,(pf4 (sOf L) b0 n0 e0).2,by unfold pf4; split <;> omega,fun w B aR aS aO v hT hV hB=>?_⟩
 have H:=Lib.hid (spf_spec (s:=sOf L) hL hV (by unfold pf4; split <;> omega) (ipf_spec (h w B hT)))
 have hc:=conv_told hB
 obtain ⟨bb,hbb⟩:∃ x,(pf4 (sOf L) b0 n0 e0).1=x:=⟨_,rfl⟩
 obtain ⟨ee,hee⟩:∃ x,(pf4 (sOf L) b0 n0 e0).2=x:=⟨_,rfl⟩
 rw [hbb,hee] at H ⊢
 obtain ⟨s,hs⟩:∃ s,sOf L=s:=⟨_,rfl⟩
 rw [hs] at hc H
 clear h hT hV hB hbb hee hs
 go_enter Tryz.func90,Tryz.ntmps90
 go_wp2_with fail
 refine H.out.mono ?_
 rintro ex w2 ⟨ev,rfl,h1,h2⟩
 have H2:=Lib.hid (And.intro h1 h2)
 clear h1 h2
 go_wp2_with fail
 refine bodyPost_ret (results_tmp2 rfl _ _ _) rfl ?_
 exact ⟨_,rfl,H2.out.1,H2.out.2⟩
def piV:Lib.NumEnd Int→Int
 | .ok v=>v
 | _=>0
def pnE {α:Type}:Lib.NumEnd α→Nat
 | .ok _=>0
 | .range=>1
 | _=>2
def NumEnd2 (w:World) (aR aS:Addr) (v:Value) (e:Nat) (en:Ending) (w':World):Prop:=
 ∃ u,NumEnd3 w aR aS u e en w'∧(e=0→u=v)
theorem pi_spec {w:World} {s:ByteArray} {B:Nat} {aR aS aO:Addr} (hs:s.size≤800) (hV:EV w B aR aS aO) :
  Calls Tryz.prog 126 #[.string s,.int .i64 10,.int .i64 64] w (NumEnd2 w aR aS (.int .i64 (piV (Lib.parseIntB 64 s.data.toList))) (pnE (Lib.parseIntB 64 s.data.toList))):=by
 cases h:Lib.parseIntB 64 s.data.toList with
 | ok v=>
  refine (Tryz.strconv_ParseInt_10_at64_ok s (by omega) v h w).mono ?_
  rintro en w' ⟨rfl,hw⟩
  refine ⟨_,⟨_,rfl,?_,.inl ⟨rfl,rfl⟩⟩,fun _=>rfl⟩
  rcases hw with rfl | ⟨t,rfl⟩
  ·exact Below.refl _ _
  ·exact Lib.bytesWorld_below _ _ _
 | range=>
  refine (Tryz.strconv_ParseInt_10_at64_range_var s (by omega) h _ _ w hV.rng).mono ?_
  rintro en w' ⟨N,rfl,h1,h2,h3⟩
  exact ⟨_,⟨_,rfl,h3,.inr (.inl ⟨rfl,N,_,_,rfl,h1,h2⟩)⟩,fun h=>by cases h⟩
 | _=>
  refine (Tryz.strconv_ParseInt_10_at64_syntax_var s (by omega) h _ _ w hV.syn).mono ?_
  rintro en w' ⟨N,rfl,h1,h2,h3⟩
  exact ⟨_,⟨_,rfl,h3,.inr (.inr ⟨rfl,N,_,_,rfl,h1,h2⟩)⟩,fun h=>by cases h⟩
def puV:Lib.NumEnd Nat→Int
 | .ok v=>(v:Int)
 | _=>0
theorem pu_spec {w:World} {s:ByteArray} {B:Nat} {aR aS aO:Addr} (hs:s.size≤800) (hV:EV w B aR aS aO) :
  Calls Tryz.prog 127 #[.string s,.int .i64 10,.int .i64 64] w (NumEnd2 w aR aS (.int .u64 (puV (Lib.parseUintB 64 s.data.toList))) (pnE (Lib.parseUintB 64 s.data.toList))):=by
 cases h:Lib.parseUintB 64 s.data.toList with
 | ok v=>
  refine (Tryz.strconv_ParseUint_10_at64_ok s (by omega) v h w).mono ?_
  rintro en w' ⟨rfl,hw⟩
  refine ⟨_,⟨_,rfl,?_,.inl ⟨rfl,rfl⟩⟩,fun _=>rfl⟩
  rcases hw with rfl | rfl
  ·exact Below.refl _ _
  ·exact Lib.bytesWorld_below _ _ _
 | range=>
  refine (Tryz.strconv_ParseUint_10_at64_range_var s (by omega) h _ _ w hV.rng).mono ?_
  rintro en w' ⟨N,rfl,h1,h2,h3⟩
  exact ⟨_,⟨_,rfl,h3,.inr (.inl ⟨rfl,N,_,_,rfl,h1,h2⟩)⟩,fun h=>by cases h⟩
 | _=>
  refine (Tryz.strconv_ParseUint_10_at64_syntax_var s (by omega) h _ _ w hV.syn).mono ?_
  rintro en w' ⟨N,rfl,h1,h2,h3⟩
  exact ⟨_,⟨_,rfl,h3,.inr (.inr ⟨rfl,N,_,_,rfl,h1,h2⟩)⟩,fun h=>by cases h⟩
theorem pib_spec {w:World} {v:Value} {L:List UInt8} {B:Nat} {aR aS aO:Addr} (hL:L.length≤800) (hV:EV w B aR aS aO) (hB:TB w v L) :
  Calls Tryz.prog 87 #[v,.int .i64 10,.int .i64 64] w (NumEnd2 w aR aS (Value.int .i64 (piV (Lib.parseIntB 64 L))) (pnE (Lib.parseIntB 64 L))):=by
 have H:=Lib.hid (pi_spec (s:=sOf L) hL hV)
 have hc:=conv_told hB
 have e:(sOf L).data.toList=L:=rfl
 rw [e] at H
 obtain ⟨vv,hvv⟩:∃ x,Value.int .i64 (piV (Lib.parseIntB 64 L))=x:=⟨_,rfl⟩
 obtain ⟨ee,hee⟩:∃ x,pnE (Lib.parseIntB 64 L)=x:=⟨_,rfl⟩
 rw [hvv,hee] at H ⊢
 obtain ⟨s,hs⟩:∃ s,sOf L=s:=⟨_,rfl⟩
 rw [hs] at hc H
 clear e hV hB hvv hee hs
 go_enter Tryz.func87,Tryz.ntmps87
 go_wp2_with fail
 refine H.out.mono ?_
 rintro ex w2 ⟨u,⟨ev,rfl,h1,h2⟩,h3⟩
 have H2:=Lib.hid (And.intro h1 (And.intro h2 h3))
 clear h1 h2 h3
 go_wp2_with fail
 refine bodyPost_ret (results_tmp2 rfl _ _ _) rfl ?_
 exact ⟨u,⟨_,rfl,H2.out.1,H2.out.2.1⟩,H2.out.2.2⟩
theorem pub_spec {w:World} {v:Value} {L:List UInt8} {B:Nat} {aR aS aO:Addr} (hL:L.length≤800) (hV:EV w B aR aS aO) (hB:TB w v L) :
  Calls Tryz.prog 89 #[v,.int .i64 10,.int .i64 64] w (NumEnd2 w aR aS (.int .u64 (puV (Lib.parseUintB 64 L))) (pnE (Lib.parseUintB 64 L))):=by
 have H:=Lib.hid (pu_spec (s:=sOf L) hL hV)
 have hc:=conv_told hB
 have e:(sOf L).data.toList=L:=rfl
 rw [e] at H
 obtain ⟨vv,hvv⟩:∃ x,Value.int .u64 (puV (Lib.parseUintB 64 L))=x:=⟨_,rfl⟩
 obtain ⟨ee,hee⟩:∃ x,pnE (Lib.parseUintB 64 L)=x:=⟨_,rfl⟩
 rw [hvv,hee] at H ⊢
 obtain ⟨s,hs⟩:∃ s,sOf L=s:=⟨_,rfl⟩
 rw [hs] at hc H
 clear e hV hB hvv hee hs
 go_enter Tryz.func89,Tryz.ntmps89
 go_wp2_with fail
 refine H.out.mono ?_
 rintro ex w2 ⟨u,⟨ev,rfl,h1,h2⟩,h3⟩
 have H2:=Lib.hid (And.intro h1 (And.intro h2 h3))
 clear h1 h2 h3
 go_wp2_with fail
 refine bodyPost_ret (results_tmp2 rfl _ _ _) rfl ?_
 exact ⟨u,⟨_,rfl,H2.out.1,H2.out.2.1⟩,H2.out.2.2⟩
def pbR (s:ByteArray):Option Int:=
 if (s.toList==[116])=true then some 1
 else if (s.toList==[84])=true then some 1
 else if (s.toList==[116,114,117,101])=true then some 1
 else if (s.toList==[84,114,117,101])=true then some 1
 else if (s.toList==[84,82,85,69])=true then some 1
 else if (s.toList==[102])=true then some 0
 else if (s.toList==[70])=true then some 0
 else if (s.toList==[102,97,108,115,101])=true then some 0
 else if (s.toList==[70,97,108,115,101])=true then some 0
 else if (s.toList==[70,65,76,83,69])=true then some 0
 else none
def PbPost (w:World):Option Int→Ending→World→Prop
 | some n,e,w'=>e=.returned (.tuple #[.int .u8 n,.nilIface])∧∃ m,w'=w.drewN m
 | none,e,w'=>(∃ t p,e=.returned (.tuple #[.int .u8 0,.iface t p]))∧∃ m,w'=w.drewN m
set_option maxHeartbeats 4000000 in
theorem pbb_spec {w:World} {v:Value} {L:List UInt8} {B:Nat} {aR aS aO:Addr} (hV:EV w B aR aS aO) (hB:TB w v L) :
  Calls Tryz.prog 94 #[v] w (PbPost w (pbR (sOf L))):=by
 have hc:=conv_told hB
 obtain ⟨tb,pb,hb⟩:=hV.bad
 obtain ⟨s,hs⟩:∃ s,sOf L=s:=⟨_,rfl⟩
 rw [hs] at hc ⊢
 obtain ⟨R,hR⟩:∃ R,pbR s=R:=⟨_,rfl⟩
 rw [hR]
 unfold pbR at hR
 clear hs hB hV
 obtain ⟨b0,h0⟩:∃ b,(s.toList==[116])=b:=⟨_,rfl⟩
 rw [h0] at hR
 cases b0 with
 | true=>
  have HR:=Lib.hid (show some 1=R from hR)
  clear hR
  go_enter Tryz.func94,Tryz.ntmps94
  go_wp2_with fail
  refine bodyPost_ret (results_tmp2 rfl _ _ _) rfl ?_
  rw [←HR.out]
  exact ⟨rfl,0,rfl⟩
 | false=>
  rw [if_neg (fun h=>by cases h)] at hR
  obtain ⟨b1,h1⟩:∃ b,(s.toList==[84])=b:=⟨_,rfl⟩
  rw [h1] at hR
  cases b1 with
  | true=>
   have HR:=Lib.hid (show some 1=R from hR)
   clear hR
   go_enter Tryz.func94,Tryz.ntmps94
   go_wp2_with fail
   refine bodyPost_ret (results_tmp2 rfl _ _ _) rfl ?_
   rw [←HR.out]
   exact ⟨rfl,0,rfl⟩
  | false=>
   rw [if_neg (fun h=>by cases h)] at hR
   obtain ⟨b2,h2⟩:∃ b,(s.toList==[116,114,117,101])=b:=⟨_,rfl⟩
   rw [h2] at hR
   cases b2 with
   | true=>
    have HR:=Lib.hid (show some 1=R from hR)
    clear hR
    go_enter Tryz.func94,Tryz.ntmps94
    go_wp2_with fail
    refine bodyPost_ret (results_tmp2 rfl _ _ _) rfl ?_
    rw [←HR.out]
    exact ⟨rfl,0,rfl⟩
   | false=>
    rw [if_neg (fun h=>by cases h)] at hR
    obtain ⟨b3,h3⟩:∃ b,(s.toList==[84,114,117,101])=b:=⟨_,rfl⟩
    rw [h3] at hR
    cases b3 with
    | true=>
     have HR:=Lib.hid (show some 1=R from hR)
     clear hR
     go_enter Tryz.func94,Tryz.ntmps94
     go_wp2_with fail
     refine bodyPost_ret (results_tmp2 rfl _ _ _) rfl ?_
     rw [←HR.out]
     exact ⟨rfl,0,rfl⟩
    | false=>
     rw [if_neg (fun h=>by cases h)] at hR
     obtain ⟨b4,h4⟩:∃ b,(s.toList==[84,82,85,69])=b:=⟨_,rfl⟩
     rw [h4] at hR
     cases b4 with
     | true=>
      have HR:=Lib.hid (show some 1=R from hR)
      clear hR
      go_enter Tryz.func94,Tryz.ntmps94
      go_wp2_with fail
      refine bodyPost_ret (results_tmp2 rfl _ _ _) rfl ?_
      rw [←HR.out]
      exact ⟨rfl,0,rfl⟩
     | false=>
      rw [if_neg (fun h=>by cases h)] at hR
      obtain ⟨b5,h5⟩:∃ b,(s.toList==[102])=b:=⟨_,rfl⟩
      rw [h5] at hR
      cases b5 with
      | true=>
       have HR:=Lib.hid (show some 0=R from hR)
       clear hR
       go_enter Tryz.func94,Tryz.ntmps94
       go_wp2_with fail
       refine bodyPost_ret (results_tmp2 rfl _ _ _) rfl ?_
       rw [←HR.out]
       exact ⟨rfl,0,rfl⟩
      | false=>
       rw [if_neg (fun h=>by cases h)] at hR
       obtain ⟨b6,h6⟩:∃ b,(s.toList==[70])=b:=⟨_,rfl⟩
       rw [h6] at hR
       cases b6 with
       | true=>
        have HR:=Lib.hid (show some 0=R from hR)
        clear hR
        go_enter Tryz.func94,Tryz.ntmps94
        go_wp2_with fail
        refine bodyPost_ret (results_tmp2 rfl _ _ _) rfl ?_
        rw [←HR.out]
        exact ⟨rfl,0,rfl⟩
       | false=>
        rw [if_neg (fun h=>by cases h)] at hR
        obtain ⟨b7,h7⟩:∃ b,(s.toList==[102,97,108,115,101])=b:=⟨_,rfl⟩
        rw [h7] at hR
        cases b7 with
        | true=>
         have HR:=Lib.hid (show some 0=R from hR)
         clear hR
         go_enter Tryz.func94,Tryz.ntmps94
         go_wp2_with fail
         refine bodyPost_ret (results_tmp2 rfl _ _ _) rfl ?_
         rw [←HR.out]
         exact ⟨rfl,0,rfl⟩
        | false=>
         rw [if_neg (fun h=>by cases h)] at hR
         obtain ⟨b8,h8⟩:∃ b,(s.toList==[70,97,108,115,101])=b:=⟨_,rfl⟩
         rw [h8] at hR
         cases b8 with
         | true=>
          have HR:=Lib.hid (show some 0=R from hR)
          clear hR
          go_enter Tryz.func94,Tryz.ntmps94
          go_wp2_with fail
          refine bodyPost_ret (results_tmp2 rfl _ _ _) rfl ?_
          rw [←HR.out]
          exact ⟨rfl,0,rfl⟩
         | false=>
          rw [if_neg (fun h=>by cases h)] at hR
          obtain ⟨b9,h9⟩:∃ b,(s.toList==[70,65,76,83,69])=b:=⟨_,rfl⟩
          rw [h9] at hR
          cases b9 with
          | true=>
           have HR:=Lib.hid (show some 0=R from hR)
           clear hR
           go_enter Tryz.func94,Tryz.ntmps94
           go_wp2_with fail
           refine bodyPost_ret (results_tmp2 rfl _ _ _) rfl ?_
           rw [←HR.out]
           exact ⟨rfl,0,rfl⟩
          | false=>
           rw [if_neg (fun h=>by cases h)] at hR
           have HR:=Lib.hid hR
           clear hR
           go_enter Tryz.func94,Tryz.ntmps94
           go_wp2_with fail
           go_quiet (fail)
           go_wp2_with fail
           refine bodyPost_ret (results_tmp2 rfl _ _ _) rfl ?_
           rw [←HR.out]
           exact ⟨⟨_,_,rfl⟩,_,rfl⟩
end Go.Proofs.YtkfggfjdplnkpaaGreatDoor
end
