/- Proved: whatever text and calls it is handed, the law FnDecodeValues returns true, and its arguments read behind the call as they did before.
   Conditions: those of the given row and of its tied card: the listed package-level variables hold what the program's text lays; the tie is the given one, to a pruned copy of the project: it says nothing of the project's other packages, commands or tests. -/
import Derived.Test.YtkfggfjdplnkpaaGreatDoorVLdb
import Derived.Test.YtkfggfjdplnkpaaGreatDoorVWit
import Derived.Test.YtkfggfjdplnkpaaGreatDoorTie
import Derived.Test.YtkfggfjdplnkpaaGreatDoorCards
import Derived.ProofKit
import Derived.Lay
import Derived.LaidOnce
import Derived.SevenTiedAt
import Derived.WideKeyArgs
import Derived.ChangeOld
set_option maxRecDepth 100000
set_option linter.unusedVariables false
set_option linter.unusedSimpArgs false
section
namespace Go.Proofs.YtkfggfjdplnkpaaGreatDoor
open Go Go.RowKit Go.ChangeShapes Go.WideShapes Go.ChangeAt
section
variable {H:Type} {enc:TypeId × Value→H} {W:World} {base:Nat}
def getI:Option Value→Int
 | some (.int _ z)=>z
 | _=>0
theorem str_of {v:Value} {d:DataW H} {p:List MemPlace} (hval:Value.okWide Tryz.prog W .any base 9 v) (h:DataW.Trod enc Tryz.prog W 0 (fun _=>true) true 9 v d p):∃ s:ByteArray,v=.string s:=by
 obtain ⟨n,hn⟩:=h
 obtain ⟨s,e,_⟩:=DataW.trod_string Tryz.underlying9 hn
 refine ⟨s,?_⟩
 unfold Value.okWide at hval
 rw [Tryz.underlying9] at hval
 simp only at hval
 unfold Cell.okWide at hval
 rw [Tryz.underlying9] at hval
 cases v <;> simp [Value.cells,Cell.ok,Tryz.underlying9] at hval e
 rw [e]
theorem calls_of {v:Value} {d:DataW H} {p:List MemPlace} (hval:Value.okWide Tryz.prog W .any base 23 v) (h:DataW.Trod enc Tryz.prog W 0 (fun _=>true) true 23 v d p) :
  ∃ ca n cc O P D,v=.slice ca n cc∧CallsAt W ca n O P D∧(∀ ad,ca=some ad→∃ b o,ad=⟨b,o,none⟩)∧(ca=none→n=0)∧n≤cc∧cc≤maxLen∧∀ j,j<n→D j≤9223372036854775807:=by
 obtain ⟨m,hm⟩:=h
 unfold Value.okWide at hval
 rw [Tryz.underlying23] at hval
 simp only at hval
 unfold Cell.okWide at hval
 rw [Tryz.underlying23] at hval
 rcases DataW.trod_slice Tryz.underlying23 hm with ⟨e,_⟩ | ⟨a,len,cap,elems,rest,k,_,e,_,_,hlc,hcm,hel,hat,_,_⟩
 ·have hv:v=.slice none 0 0:=by
   cases v <;> simp [Value.cells,Cell.ok,Tryz.underlying23] at hval e
   obtain ⟨rfl,rfl,rfl⟩:=e
   rfl
  exact ⟨none,0,0,fun _=>0,fun _=>0,fun _=>0,hv,⟨fun j hj=>by omega⟩,fun ad h=>(by cases h),fun _=>rfl,Nat.le_refl _,Nat.zero_le _,fun j hj=>by omega⟩
 ·have hv:v=.slice (some a) len cap:=by
   cases v <;> simp [Value.cells,Cell.ok,Tryz.underlying23] at hval e
   obtain ⟨rfl,rfl,rfl⟩:=e
   rfl
  subst hv
  have hs:a.spot=none:=by
   simp only [Cell.ok,Tryz.underlying23] at hval
   exact hval.2.2.2.1
  obtain ⟨b,o,sp⟩:=a
  obtain rfl:sp=none:=hs
  have c31:Tryz.prog.cellsOf 31=3:=by kernel_rfl
  have c3:Tryz.prog.cellsOf 3=1:=by kernel_rfl
  have c2:Tryz.prog.cellsOf 2=1:=by kernel_rfl
  have key:∀ j,j<len→b<W.heap.size∧∃ x y z,W.cell? ⟨b,o+j*3,none⟩=some (.int .i64 x)∧W.cell? ⟨b,o+j*3+1,none⟩=some (.int .i64 y)∧W.cell? ⟨b,o+j*3+2,none⟩=some (.int .i64 z)∧z≤9223372036854775807:=by
   intro j hj
   have h1:=hat j hj
   rw [List.getElem?_eq_getElem (by omega),c31,addr_plain] at h1
   obtain ⟨cs',k1,k2⟩:=Option.bind_eq_some_iff.1 h1
   obtain ⟨xs,n2,_,hx,hl,hxl,hall⟩:=DataW.trod_struct Tryz.underlying31 k2
   rw [c31] at hl
   match cs',hl with
   | [u0,u1,u2],_=>
    match xs,hxl with
    | [x0,x1,x2],_=>
     have g0:DataW.trod enc Tryz.prog W 0 (fun _=>true) true n2 3 (([u0,u1,u2].drop 0).take (Tryz.prog.cellsOf 3))=some x0:=hall 0 _ rfl
     have g1:DataW.trod enc Tryz.prog W 0 (fun _=>true) true n2 3 (([u0,u1,u2].drop 1).take (Tryz.prog.cellsOf 3))=some x1:=hall 1 _ rfl
     have g2:DataW.trod enc Tryz.prog W 0 (fun _=>true) true n2 2 (([u0,u1,u2].drop 2).take (Tryz.prog.cellsOf 2))=some x2:=hall 2 _ rfl
     rw [c3] at g0 g1
     rw [c2] at g2
     obtain ⟨x,e0,_,_⟩:=DataW.trod_int Tryz.underlying3 (show DataW.trod enc Tryz.prog W 0 (fun _=>true) true n2 3 [u0]=some x0 from g0)
     obtain ⟨y,e1,_,_⟩:=DataW.trod_int Tryz.underlying3 (show DataW.trod enc Tryz.prog W 0 (fun _=>true) true n2 3 [u1]=some x1 from g1)
     obtain ⟨z,e2,_,wz⟩:=DataW.trod_int Tryz.underlying2 (show DataW.trod enc Tryz.prog W 0 (fun _=>true) true n2 2 [u2]=some x2 from g2)
     injection e0 with e0
     injection e1 with e1
     injection e2 with e2
     subst e0;subst e1;subst e2
     have q0:=cells_cell k1 rfl 0 (by omega)
     have q1:=cells_cell k1 rfl 1 (by omega)
     have q2:=cells_cell k1 rfl 2 (by omega)
     refine ⟨block_lt_of_cell q0,x,y,z,q0,q1,q2,?_⟩
     simp [Lit.wf,IntKind.min,IntKind.max,IntKind.signed,IntKind.bits] at wz
     omega
  refine ⟨some ⟨b,o,none⟩,len,cap,fun j=>getI (W.cell? ⟨b,o+j*3,none⟩),fun j=>getI (W.cell? ⟨b,o+j*3+1,none⟩),fun j=>getI (W.cell? ⟨b,o+j*3+2,none⟩),rfl,⟨fun j hj=>?_⟩,fun ad h=>⟨b,o,by injection h with h;exact h.symm⟩,fun h=>(by cases h),hlc,hcm,fun j hj=>?_⟩
  ·obtain ⟨hb,x,y,z,k1,k2,k3,_⟩:=key j hj
   refine ⟨b,o,rfl,hb,?_,?_,?_⟩
   ·rw [k1];rfl
   ·rw [k2];rfl
   ·rw [k3];rfl
  ·obtain ⟨_,x,y,z,_,_,k3,hz⟩:=key j hj
   show getI (W.cell? ⟨b,o+j*3+2,none⟩)≤_
   rw [k3]
   exact hz
theorem stays {t:TypeId} (hr:Tryz.prog.readableRec t=true) (ht:t<Tryz.prog.types.size) {W':World} (hb:Below W.heap.size W W') {v:Value} {d:DataW H} {p:List MemPlace} (h:DataW.Trod enc Tryz.prog W 0 (fun _=>true) true t v d p) :
  DataW.Trod enc Tryz.prog W' 0 (fun b=>decide (b<W.heap.size)) true t v d p:=by
 have hlt:∀ x∈p,x.block<W.heap.size:=by
  obtain ⟨n,hn⟩:=h
  exact DataW.trod_lt n t _ _ hn
 exact Go.WideElems.Trod_stays (by kernel_rfl) hr ht h (fun x hx=>hb.same (hlt x hx)) (fun x hx=>by simpa using hlt x hx)
end
theorem own:ownKnob Tryz.prog.godebug=none:=by kernel_rfl
theorem slot25:∃ z t,(((begin Tryz.prog (fun _ _=>0) default).world.heap[25]?).bind Obj.row?)=some (z,t):=by
 have h:(((begin Tryz.prog (fun _ _=>0) default).world.heap[25]?).bind Obj.row?).isSome=true:=by kernel_rfl
 obtain ⟨x,hx⟩:=Option.isSome_iff_exists.1 h
 exact ⟨x.1,x.2,hx⟩
theorem size25 {w:World} (h:w.ShapedOpen Tryz.prog):25<w.heap.size:=by
 obtain ⟨z,t,hz⟩:=slot25
 obtain ⟨cs,hc,_⟩:=h.1 25 z t (by rw [show Tryz.prog.globals.size=26 by kernel_rfl];omega) hz
 exact (Array.getElem?_eq_some_iff.1 hc).1
theorem lifted (os:Os) (started:os.Started) (H:Type) (enc:TypeId × Value→H) :
  ReturnsInHanded {} Tryz.checked os 4 .any (fun w args=>(Rows.fnDecodeValuesSpec.pre enc Tryz.prog Tryz.f4 [] false w args∧laidMetH Tryz.prog LL w)∧sizedMet enc Tryz.prog Tryz.f4 (OpenSpec.ofChange Rows.fnDecodeValuesSpec) false w args)
   (Rows.fnDecodeValuesSpec.post enc Tryz.prog Tryz.f4 false true false false):=by
 refine returnsInHanded_of_calls own started (by kernel_rfl)
  (wit os H enc) ?_
 intro w tape i _ hshape _ hok hpre _
 obtain ⟨_,_,_,fn',hfn',_,_,_,_,hval⟩:=hok
 obtain rfl:fn'=Tryz.f4:=Option.some.inj (hfn'.symm.trans Tryz.func4)
 obtain ⟨⟨⟨ds,gs,before,hw,_⟩,hx⟩,_⟩:=hpre
 have hW:=DataW.Whole.of_heap (w':=w.forCall tape i) (by rfl) hw
 have hL:laidMetH Tryz.prog LL (w.forCall tape i):=hx.of_heap (by rfl)
 rw [MakeChecks.laidMetH_plain _ _ _ (by kernel_rfl)] at hL
 have h26:=size25 hshape
 generalize w.heap.size=base at hval
 obtain ⟨W,hWW⟩:∃ W,w.forCall tape i=W:=⟨_,rfl⟩
 rw [hWW] at hW hL h26 hval ⊢
 clear hWW hshape hw hx hfn'
 obtain ⟨args,hargs⟩:∃ args,i.args=args:=⟨_,rfl⟩
 rw [hargs] at hW hval ⊢
 clear hargs
 have hW':=hW
 obtain ⟨p,q,hA0,hV,rfl,_,_⟩:=hW
 have hA:DataW.TrodAll enc Tryz.prog W 0 (fun _=>true) true Tryz.f4.params.toList args.toList ds p:=hA0
 rw [Tryz.params4] at hA hval
 obtain ⟨v0,v1,d0,d1,p0,p1,rfl,rfl,rfl,h0,h1⟩:=trodAll_two hA
 obtain ⟨rfl,rfl⟩:=trodVars_none hV
 obtain ⟨s,rfl⟩:=str_of (hval 0 9 v0 rfl rfl) h0
 obtain ⟨ca,n,cc,O,P,D,rfl,hC,ha,ha0,hcap,hcm,hr⟩:=calls_of (hval 1 23 v1 rfl rfl) h1
 obtain ⟨aR,aS,aO,hE⟩:=ev_of hL h26
 simp only [List.append_nil] at hW'
 refine (values_spec (init_of hL h26) (tabs_of hL h26) hE hC ha ha0 hcap hcm hr).mono fun e W' he=>?_
 obtain ⟨rfl,hb⟩:=he
 refine ChangeSpec.post_blind ?_
 exact ⟨_,_,_,[],_,[],hW',trodAll_mk1 (shut_bool Tryz.underlying4 _),trodAll_mk2 (stays (by kernel_rfl) (by decide +kernel) hb h0) (stays (by kernel_rfl) (by decide +kernel) hb h1),rfl,hb.frame _,fun h=>by cases h⟩
theorem values_holds:Rows.FnDecodeValuesSaid:=
 OpenClaim.holds_of_wide 4 Tryz.f4 rfl rfl rfl rfl rfl rfl rfl ⟨rfl,rfl,rfl,rfl,rfl⟩ rfl rfl rfl rfl rfl (by kernel_rfl) Tryz.func4 closedFacts
  (of_decide_eq_true (by kernel_rfl)) (by unfold Func.isWrapper;first | (rw [if_pos (by decide +kernel)];kernel_rfl) | (rw [if_neg (by decide +kernel)];exact ⟨rfl,rfl⟩))
  (fun os started H enc _=>lifted os started H enc)
theorem values_card:Rows.FnDecodeValuesCardSaid:=
 Claim7.holds_tied_plain_at .later [] [.data,.data,.widerDeep,.widerDeep,.data,.data,.data,.data,.data,.data,.sentinel,.sentinel,.sentinel,.sentinel,.sentinel,.pinned,.pinned,.pinned,.pinned,.pinned,.pinned,.pinned,.pinned] true (true,"773806a949b0c1db960bbe1cef65cb19880244695348516ff54da80abff4af0d") true
  values_holds (fun _ h=>by cases h) (by kernel_rfl) (fun _ h=>by cases h) fnDecodeValues_row_tie rfl ⟨rfl,rfl⟩ (by kernel_rfl) rfl
  (fun f fn hf hfn=>by
   obtain rfl:f=4:=Option.some.inj ((show Tryz.prog.funcNamed "pub-teleprinter/laws.FnDecodeValues"=some 4 by kernel_rfl).symm.trans hf) |>.symm
   obtain rfl:fn=Tryz.f4:=(Option.some.inj (Tryz.func4.symm.trans hfn)).symm
   exact ⟨by kernel_rfl,fun j t ht=>by
    rw [Tryz.params4] at ht
    have hm:t∈[9,23]:=by simpa using Array.mem_of_getElem? ht
    have hall:([9,23].all fun u=>!Tryz.prog.wantsStandIn u)=true:=by kernel_rfl
    exact (show Tryz.prog.wantsStandIn t=false by simpa using List.all_eq_true.1 hall t hm)⟩)
  (by kernel_rfl)
end Go.Proofs.YtkfggfjdplnkpaaGreatDoor
end
