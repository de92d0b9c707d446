/- A part of the proof that the law FnDecodeValues returns true; its conditions are those of the last part. -/
import Derived.Test.YtkfggfjdplnkpaaGreatDoorVSets
import Derived.OwnWalk
import Derived.Maps.AppendAt
import Derived.Lib.Hide
import Derived.Lib.AppendStr
import Derived.Lib.ConvBytes
import Derived.Laws.IdiomStrings
import Derived.Lib.OthersKept
import Derived.Deep.LoopGhost
import Derived.Test.YtkfggfjdplnkpaaGreatDoorVEol
set_option maxRecDepth 100000
set_option linter.unusedVariables false
set_option linter.unusedSimpArgs false
section
namespace Go.Proofs.YtkfggfjdplnkpaaGreatDoor
open Go.RowKit
structure Row (N:Nat) (w0 w:World) (v:Value) (xs:List UInt8):Prop where
 own:w.ownsRow N 5 1 v xs.length (xs.map bcell)
 bel:Below N w0 w
 base:N≤w.heap.size
theorem info5':∃ i,Tryz.prog.info? 5=some i∧i.zero=some (.int .u8 0)∧i.size=1∧i.bytes=1:=by
 obtain ⟨i,hi⟩:∃ i,Tryz.prog.info? 5=some i:=Option.isSome_iff_exists.1 (by kernel_rfl)
 have h1:(Tryz.prog.info? 5).map (·.zero)=some (some (.int .u8 0)):=by kernel_rfl
 have h2:(Tryz.prog.info? 5).map (·.size)=some 1:=by kernel_rfl
 have h3:(Tryz.prog.info? 5).map (·.bytes)=some 1:=by kernel_rfl
 rw [hi] at h1 h2 h3
 exact ⟨i,hi,by simpa using h1,by simpa using h2,by simpa using h3⟩
theorem own_nat {N n:Nat} {w:World} {v:Value} {xs:List Value} (h:w.ownsRow N 5 1 v n xs):∃ a c,v=.slice a n c:=by
 rcases h.2 with ⟨hv,h0⟩ | ⟨b,cp,cur,hv,_⟩
 ·exact ⟨none,0,by rw [hv,h0]⟩
 ·exact ⟨_,_,hv⟩
theorem Row.form {N:Nat} {w0 w:World} {v:Value} {xs:List UInt8} (h:Row N w0 w v xs):∃ a n c,v=.slice a n c:=by
 obtain ⟨a,c,e⟩:=own_nat h.own
 exact ⟨a,_,c,e⟩
theorem row_one {N:Nat} {w0 w:World} {v:Value} {xs:List UInt8} (x:UInt8) (h:Row N w0 w v xs) (hl:xs.length≤1000) (s x':Operand) (t:TypeId) (o:Oper) (ops:Array Oper) (rest:List Oper) (a:Act) (Q:Exit→Act→World→Prop)
  (hgd:o.guard=none) (ho:o.op=.call { callee:=.builtin .append,args:=#[s,x'],argTypes:=#[54,54] }) (hs:a.eval s=v) (hx:a.eval x'=.slice (some ⟨w.heap.size,0,none⟩) 1 1)
  (hK:∀ v' w',Row N w0 w' v' (xs++[x])→wpList Tryz.prog ops Q rest (a.put o.dst v') w'):wpList Tryz.prog ops Q (o::rest) a (w.alloc (.cells #[.int .u8 (x.toNat:Int)] 5)):=by
 obtain ⟨i5,hi5,hz5,hs5,hb5⟩:=info5'
 refine wpList_append_stay (P:=Tryz.prog) _ hgd s x' 54 ho N 5 i5 (.int .u8 0) 1 Tryz.underlying54 hi5 hz5 hs5 hb5 rfl v xs.length (xs.map bcell) hs (h.own.alloc _) ⟨w.heap.size,0,none⟩ 1 1 [.int .u8 (x.toNat:Int)] hx rfl (cell_one_new _ _ _) (fun u hu=>by simp at hu;subst hu;rfl) (by unfold maxLen;omega) (by omega) (by have:=h.base;simp;omega) ?_
 intro v' w' h1 h2 h3 h4
 refine hK v' w' ⟨?_,?_,?_⟩
 ·rw [List.length_append,List.map_append];exact h1
 ·exact ((h.bel.alloc h.base (.cells #[.int .u8 (x.toNat:Int)] 5)).grown h2 (by have:=h.base;simp;omega) fun k hk=>by
   rcases h.own.2 with ⟨hv,_⟩ | ⟨b,cp,cur,hv,hb,_⟩
   ·rw [hv] at hk;simp [Value.ownBlock] at hk
   ·rw [hv] at hk
    obtain rfl:b=k:=by simpa [Value.ownBlock] using hk
    exact hb)
 ·have:=h2.size
  have h5:=h.base
  simp at this
  omega
theorem isPrint_lo (r:Nat) (h:r≤126) (w:World):Calls Tryz.prog 186 #[.int .i32 (r:Int)] w fun e w'=>e=.returned (.bool (decide (32≤r)))∧w'=w:=by
 have h1:(r:Int)≤255:=by omega
 have h2:(r:Int)≤126:=by omega
 have h3:¬(161:Int)≤(r:Int):=by omega
 by_cases h4:32≤r
 ·have h5:(32:Int)≤(r:Int):=by omega
  rw [decide_eq_true h4]
  go_enter Tryz.func186,Tryz.ntmps186
  go_wp2
  go_ret
  exact ⟨rfl,rfl⟩
 ·have h5:¬(32:Int)≤(r:Int):=by omega
  rw [decide_eq_false h4]
  go_enter Tryz.func186,Tryz.ntmps186
  go_wp2
  go_ret
  exact ⟨rfl,rfl⟩
theorem isPrint_no (r:Nat) (h:r<32) (w:World):Calls Tryz.prog 186 #[.int .i32 (r:Int)] w fun e w'=>e=.returned (.bool false)∧w'=w:=
 (isPrint_lo r (by omega) w).mono fun e w' hh=>by rw [decide_eq_false (by omega)] at hh;exact hh
theorem validRune_lo (r:Nat) (h:r≤126) (w:World):Calls Tryz.prog 170 #[.int .i32 (r:Int)] w fun e w'=>e=.returned (.bool true)∧w'=w:=by
 have h1:(r:Int)<55296:=by omega
 have h2:(0:Int)≤(r:Int):=by omega
 go_enter Tryz.func170,Tryz.ntmps170
 go_wp2
 go_ret
 exact ⟨rfl,rfl⟩
theorem appRune {N:Nat} {w0 w:World} {v:Value} {xs:List UInt8} (r:UInt8) (hr:r.toNat≤126) (h:Row N w0 w v xs) (hl:xs.length≤1000) :
  Calls Tryz.prog 188 #[v,.int .i32 (r.toNat:Int)] w fun e w'=>∃ v',e=.returned v'∧Row N w0 w' v' (xs++[r]):=by
 obtain ⟨a,n,c,rfl⟩:=h.form
 have h1:(r.toNat:Int)≤127:=by omega
 have h2:(r.toNat:Int)<256:=by omega
 have H:=Lib.hid h
 have HL:=Lib.hid hl
 clear h hl
 go_enter Tryz.func188,Tryz.ntmps188
 go_wp2_with (at_builtin;refine row_one r H.out HL.out _ _ 54 _ _ _ _ _ rfl rfl rfl rfl ?_;intro v' w' hrow)
 go_ret
 exact ⟨_,rfl,hrow⟩
theorem row_str {N:Nat} {w0 w:World} {v:Value} {xs:List UInt8} (s:ByteArray) (h:Row N w0 w v xs) (hl:xs.length≤1000) (hsl:s.size≤1000) (sl x':Operand) (o:Oper) (ops:Array Oper) (rest:List Oper) (a:Act) (Q:Exit→Act→World→Prop)
  (hgd:o.guard=none) (ho:o.op=.call { callee:=.builtin .append,args:=#[sl,x'],argTypes:=#[54,9] }) (hs:a.eval sl=v) (hx:a.eval x'=.string s)
  (hK:∀ v' w',Row N w0 w' v' (xs++s.data.toList)→wpList Tryz.prog ops Q rest (a.put o.dst v') w'):wpList Tryz.prog ops Q (o::rest) a w:=by
 obtain ⟨i5,hi5,hz5,hs5,hb5⟩:=info5'
 refine Lib.wpList_append_own_string (P:=Tryz.prog) _ hgd sl x' 54 9 ho N 5 i5 Tryz.underlying54 Tryz.underlying9 hi5 hz5 hs5 hb5 v xs.length (xs.map bcell) hs h.own s hx (by unfold maxLen;omega) (by omega) h.base ?_
 intro v' w' h1 h2 h3
 refine hK v' w' ⟨?_,?_,?_⟩
 ·rw [List.length_append,List.map_append,show s.data.toList.length=s.size by rw [Array.length_toList];rfl];exact h1
 ·exact h.bel.grown h2 h.base fun k hk=>by
   rcases h.own.2 with ⟨hv,_⟩ | ⟨b,cp,cur,hv,hb,_⟩
   ·rw [hv] at hk;simp [Value.ownBlock] at hk
   ·rw [hv] at hk
    obtain rfl:b=k:=by simpa [Value.ownBlock] using hk
    exact hb
 ·have:=h2.size
  have h5:=h.base
  omega
theorem escRune_b {N:Nat} {w0 w:World} {v:Value} {xs:List UInt8} (h:Row N w0 w v xs) (hl:xs.length≤100) :
  Calls Tryz.prog 171 #[v,.int .i32 92,.int .u8 39,.bool false,.bool false] w fun e w'=>∃ v',e=.returned v'∧Row N w0 w' v' (xs++[92,92]):=by
 obtain ⟨a,n,c,rfl⟩:=h.form
 have H:=Lib.hid h
 have HL:=Lib.hid hl
 clear h hl
 go_enter Tryz.func171,Tryz.ntmps171
 go_wp2_with (first
  | (at_builtin;refine row_one 92 H.out (by have:=HL.out;omega) _ _ 54 _ _ _ _ _ rfl rfl rfl rfl ?_;intro v' w1 hrow;have H1:=Lib.hid hrow;obtain ⟨a1,n1,c1,rfl⟩:=hrow.form;clear hrow H)
  | (at_builtin;refine row_one 92 H1.out (by have:=HL.out;rw [List.length_append];simp;omega) _ _ 54 _ _ _ _ _ rfl rfl rfl rfl ?_;intro v' w2 hrow;have H2:=Lib.hid hrow;obtain ⟨a2,n2,c2,rfl⟩:=hrow.form;clear hrow H1))
 go_ret
 refine ⟨_,rfl,?_⟩
 have:=H2.out
 rw [List.append_assoc] at this
 exact this
theorem escRune_p {N:Nat} {w0 w:World} {v:Value} {xs:List UInt8} (r:UInt8) (h0:32≤r.toNat) (h1:r.toNat≤126) (h2:r.toNat≠92) (h3:r.toNat≠39) (h:Row N w0 w v xs) (hl:xs.length≤100) :
  Calls Tryz.prog 171 #[v,.int .i32 (r.toNat:Int),.int .u8 39,.bool false,.bool false] w fun e w'=>∃ v',e=.returned v'∧Row N w0 w' v' (xs++[r]):=by
 obtain ⟨a,n,c,rfl⟩:=h.form
 have H:=Lib.hid h
 have HL:=Lib.hid hl
 have H0:=Lib.hid h0
 have H1:=Lib.hid h1
 have h2':¬(r.toNat:Int)=92:=by omega
 have h3':¬(r.toNat:Int)=39:=by omega
 have h2b:((r.toNat:Int)==92)=false:=by simp;omega
 have h3b:((r.toNat:Int)==39)=false:=by simp;omega
 clear h hl h0 h1 h2 h3
 go_enter Tryz.func171,Tryz.ntmps171
 go_wp2_with (first
  | (go_at_call 186;refine (isPrint_lo r.toNat H1.out _).mono ?_;rintro e w' ⟨rfl,rfl⟩;rw [decide_eq_true H0.out])
  | (go_at_call 188;refine (appRune r H1.out H.out (by have:=HL.out;omega)).mono ?_;rintro e w2 ⟨v',rfl,hrow⟩;have H2:=Lib.hid hrow;obtain ⟨a2,n2,c2,rfl⟩:=hrow.form;clear hrow H))
 go_ret
 exact ⟨_,rfl,H2.out⟩
theorem escRune_10 {N:Nat} {w0 w:World} {v:Value} {xs:List UInt8} (h:Row N w0 w v xs) (hl:xs.length≤100) :
  Calls Tryz.prog 171 #[v,.int .i32 10,.int .u8 39,.bool false,.bool false] w fun e w'=>∃ v',e=.returned v'∧Row N w0 w' v' (xs++[92,110]):=by
 obtain ⟨a,n,c,rfl⟩:=h.form
 have H:=Lib.hid h
 have HL:=Lib.hid hl
 have HP:∀ w,Calls Tryz.prog 186 #[.int .i32 10] w fun e w'=>e=.returned (.bool false)∧w'=w:=isPrint_no 10 (by omega)
 clear h hl
 go_enter Tryz.func171,Tryz.ntmps171
 go_wp2_with (first
  | (go_at_call 186;refine (HP _).mono ?_;rintro e w' ⟨rfl,rfl⟩)
  | (at_builtin;refine row_str _ H.out (by have:=HL.out;omega) (by decide) _ _ _ _ _ _ _ rfl rfl rfl rfl ?_;intro v' w1 hrow;have H1:=Lib.hid hrow;obtain ⟨a1,n1,c1,rfl⟩:=hrow.form;clear hrow H))
 go_ret
 exact ⟨_,rfl,H1.out⟩
theorem escRune_13 {N:Nat} {w0 w:World} {v:Value} {xs:List UInt8} (h:Row N w0 w v xs) (hl:xs.length≤100) :
  Calls Tryz.prog 171 #[v,.int .i32 13,.int .u8 39,.bool false,.bool false] w fun e w'=>∃ v',e=.returned v'∧Row N w0 w' v' (xs++[92,114]):=by
 obtain ⟨a,n,c,rfl⟩:=h.form
 have H:=Lib.hid h
 have HL:=Lib.hid hl
 have HP:∀ w,Calls Tryz.prog 186 #[.int .i32 13] w fun e w'=>e=.returned (.bool false)∧w'=w:=isPrint_no 13 (by omega)
 clear h hl
 go_enter Tryz.func171,Tryz.ntmps171
 go_wp2_with (first
  | (go_at_call 186;refine (HP _).mono ?_;rintro e w' ⟨rfl,rfl⟩)
  | (at_builtin;refine row_str _ H.out (by have:=HL.out;omega) (by decide) _ _ _ _ _ _ _ rfl rfl rfl rfl ?_;intro v' w1 hrow;have H1:=Lib.hid hrow;obtain ⟨a1,n1,c1,rfl⟩:=hrow.form;clear hrow H))
 go_ret
 exact ⟨_,rfl,H1.out⟩
theorem escRune_9 {N:Nat} {w0 w:World} {v:Value} {xs:List UInt8} (h:Row N w0 w v xs) (hl:xs.length≤100) :
  Calls Tryz.prog 171 #[v,.int .i32 9,.int .u8 39,.bool false,.bool false] w fun e w'=>∃ v',e=.returned v'∧Row N w0 w' v' (xs++[92,116]):=by
 obtain ⟨a,n,c,rfl⟩:=h.form
 have H:=Lib.hid h
 have HL:=Lib.hid hl
 have HP:∀ w,Calls Tryz.prog 186 #[.int .i32 9] w fun e w'=>e=.returned (.bool false)∧w'=w:=isPrint_no 9 (by omega)
 clear h hl
 go_enter Tryz.func171,Tryz.ntmps171
 go_wp2_with (first
  | (go_at_call 186;refine (HP _).mono ?_;rintro e w' ⟨rfl,rfl⟩)
  | (at_builtin;refine row_str _ H.out (by have:=HL.out;omega) (by decide) _ _ _ _ _ _ _ rfl rfl rfl rfl ?_;intro v' w1 hrow;have H1:=Lib.hid hrow;obtain ⟨a1,n1,c1,rfl⟩:=hrow.form;clear hrow H))
 go_ret
 exact ⟨_,rfl,H1.out⟩
theorem row_start (w:World):Row w.heap.size w w (.slice none 0 0) []:=⟨World.ownsRow_nil _ _ _ _,Below.refl _ _,Nat.le_refl _⟩
def EscR (r:Nat) (es:List UInt8):Prop:=∀ (N:Nat) (w0 w:World) (v:Value) (xs:List UInt8),Row N w0 w v xs→xs.length≤100→Calls Tryz.prog 171 #[v,.int .i32 (r:Int),.int .u8 39,.bool false,.bool false] w fun e w'=>∃ v',e=.returned v'∧Row N w0 w' v' (xs++es)
theorem quotedRune {w:World} (r:Nat) (es:List UInt8) (hr:r≤126)
  (hes:EscR r es) (hel:es.length≤10) :
  Calls Tryz.prog 164 #[.slice none 0 0,.int .i32 (r:Int),.int .u8 39,.bool false,.bool false] w fun e w'=>∃ v',e=.returned v'∧Row w.heap.size w w' v' ([39]++es++[39]):=by
 have H:=Lib.hid (row_start w)
 have HES:=Lib.hid hes
 have HR:=Lib.hid hr
 have HEL:=Lib.hid hel
 clear hes hr hel
 go_enter Tryz.func164,Tryz.ntmps164
 go_wp2_with (first
  | (at_builtin;refine row_one 39 H.out (by simp) _ _ 54 _ _ _ _ _ rfl rfl rfl rfl ?_;intro v' w1 hrow;have H1:=Lib.hid hrow;obtain ⟨a1,n1,c1,rfl⟩:=hrow.form;clear hrow H)
  | (go_at_call 170;refine (validRune_lo r HR.out _).mono ?_;rintro e w' ⟨rfl,rfl⟩)
  | (go_at_call 171;refine (HES.out _ _ _ _ _ H1.out (by simp)).mono ?_;rintro e w2 ⟨v',rfl,hrow⟩;have H2:=Lib.hid hrow;obtain ⟨a2,n2,c2,rfl⟩:=hrow.form;clear hrow H1)
  | (at_builtin;refine row_one 39 H2.out (by have:=HEL.out;simp;omega) _ _ 54 _ _ _ _ _ rfl rfl rfl rfl ?_;intro v' w3 hrow;have H3:=Lib.hid hrow;obtain ⟨a3,n3,c3,rfl⟩:=hrow.form;clear hrow H2))
 go_ret
 exact ⟨_,rfl,H3.out⟩
theorem Row.conv {N:Nat} {w0 w:World} {v:Value} {xs:List UInt8} (h:Row N w0 w v xs) (hne:xs≠[]):∃ b cap,v=.slice (some ⟨b,0,none⟩) xs.length cap∧
  (convert 54 9 (.slice (some ⟨b,0,none⟩) xs.length cap)).run Tryz.prog w=.ok (.string ⟨xs.toArray⟩) w:=by
 rcases h.own.2 with ⟨hv0,h0⟩ | ⟨b,cp,cur,hvb,_⟩
 ·exact absurd (List.eq_nil_of_length_eq_zero h0) hne
 ·subst hvb
  refine ⟨b,cp,rfl,run_convert_bytes_back w 54 9 5 ⟨b,0,none⟩ cp xs Tryz.underlying54 Tryz.underlying5 Tryz.underlying9 fun j hj=>?_⟩
  have:=h.own.cellAt j (by simp;omega)
  rw [show (⟨b,0,none⟩:Addr).add j=⟨b,j,none⟩ by simp [Addr.add];intro h;exact h.symm,this,List.getElem?_map,List.getElem?_eq_getElem hj]
  rfl
theorem quoteWith {w:World} (r:Nat) (es:List UInt8) (hr:r≤126) (hes:EscR r es) (hel:es.length≤10) :
  Calls Tryz.prog 155 #[.int .i32 (r:Int),.int .u8 39,.bool false,.bool false] w fun e w'=>e=.returned (.string ⟨([39]++es++[39]).toArray⟩)∧Below w.heap.size w w':=by
 have HQ:∀ w,Calls Tryz.prog 164 #[.slice none 0 0,.int .i32 (r:Int),.int .u8 39,.bool false,.bool false] w fun e w'=>∃ v',e=.returned v'∧Row w.heap.size w w' v' ([39]++es++[39]):=fun w=>quotedRune r es hr hes hel
 clear hes hr hel
 go_enter Tryz.func155,Tryz.ntmps155
 go_wp2_with (go_at_call 164;refine (HQ _).mono ?_;rintro e w2 ⟨v',rfl,hrow⟩;have H2:=Lib.hid hrow;obtain ⟨b,cap,rfl,hcv⟩:=hrow.conv (by simp);clear hrow;revert hcv;generalize ([39]++es++[39]).length=n;intro hcv)
 go_ret
 exact ⟨rfl,H2.out.bel⟩
theorem quoteRune {w:World} (r:Nat) (es:List UInt8) (hr:r≤126) (hes:EscR r es) (hel:es.length≤10) :
  Calls Tryz.prog 137 #[.int .i32 (r:Int)] w fun e w'=>e=.returned (.string ⟨([39]++es++[39]).toArray⟩)∧Below w.heap.size w w':=by
 have HQ:=Lib.hid (@quoteWith w r es hr hes hel)
 clear hes hr hel
 go_enter Tryz.func137,Tryz.ntmps137
 go_wp2_with (go_at_call 155;refine HQ.out.mono ?_;rintro e w2 ⟨rfl,hb⟩)
 go_ret
 exact ⟨rfl,hb⟩
theorem escR_p (r:UInt8) (h0:32≤r.toNat) (h1:r.toNat≤126) (h2:r.toNat≠92) (h3:r.toNat≠39):EscR r.toNat [r]:=fun N w0 w v xs h hl=>escRune_p r h0 h1 h2 h3 h hl
theorem escR_92:EscR 92 [92,92]:=fun N w0 w v xs h hl=>escRune_b h hl
theorem escR_10:EscR 10 [92,110]:=fun N w0 w v xs h hl=>escRune_10 h hl
theorem escR_13:EscR 13 [92,114]:=fun N w0 w v xs h hl=>escRune_13 h hl
theorem escR_9:EscR 9 [92,116]:=fun N w0 w v xs h hl=>escRune_9 h hl
end Go.Proofs.YtkfggfjdplnkpaaGreatDoor
end
section
namespace Go.Proofs.YtkfggfjdplnkpaaGreatDoor
open Go.RowKit
theorem ext_one (x:UInt8):((⟨#[x]⟩:ByteArray).extract 0 1)=⟨#[x]⟩:=by rfl
theorem ext_two (y x:UInt8):((⟨#[y,x]⟩:ByteArray).extract 0 1)=⟨#[y]⟩:=by rfl
theorem ext_two' (y x:UInt8):((⟨#[y,x]⟩:ByteArray).extract 1 2)=⟨#[x]⟩:=by rfl
theorem trim_one (x:UInt8) (hx:x≠92) (w:World):Calls Tryz.prog 138 #[.string ⟨#[x]⟩,.string ⟨#[92]⟩] w fun e w'=>e=.returned (.string ⟨#[x]⟩)∧w'=w:=by
 have he:(((⟨#[x]⟩:ByteArray).extract 0 1).toList==[92])=false:=by rw [ext_one,ByteArray.toList_eq];show ([x]==[92])=false;simpa using hx
 go_enter Tryz.func138,Tryz.ntmps138
 go_wp2
 go_ret
 exact ⟨rfl,rfl⟩
theorem trim_two (x:UInt8) (w:World):Calls Tryz.prog 138 #[.string ⟨#[92,x]⟩,.string ⟨#[92]⟩] w fun e w'=>e=.returned (.string ⟨#[x]⟩)∧w'=w:=by
 have he:(((⟨#[92,x]⟩:ByteArray).extract 0 1).toList==[92])=true:=by rw [ext_two,ByteArray.toList_eq];rfl
 have h2:=ext_two' 92 x
 go_enter Tryz.func138,Tryz.ntmps138
 go_wp2
 go_ret
 exact ⟨rfl,rfl⟩
end Go.Proofs.YtkfggfjdplnkpaaGreatDoor
end
section
namespace Go.Proofs.YtkfggfjdplnkpaaGreatDoor
open Go.RowKit
def kq (b:UInt8):UInt8:=if b=10 then 110 else if b=13 then 114 else if b=9 then 116 else b
def revUp (R:Nat→Nat) (b:UInt8) (c:Nat):Nat:=if c=(kq b).toNat then b.toNat else R c
def revOf (l:List UInt8):Nat→Nat:=l.foldl revUp (fun _=>0)
def goodB (b:UInt8):Prop:=b=44∨b=61∨b=32∨b=34∨b=92∨b=10∨b=13∨b=9
structure EscBlk (w:World) (g:Nat) (R:Nat→Nat):Prop where
 ex:∃ cs,w.heap[g]?=some (.cells cs 116 (0,0))∧cs.size=513∧∀ c,c<256→cs[256+c]?=some (.int .u8 (R c:Int))∧R c<256
theorem EscBlk.any {w:World} {g:Nat} {R:Nat→Nat} (h:EscBlk w g R) (i:Nat) (hi:i<513):∃ v,w.cell? ⟨g,i,none⟩=some v:=by
 obtain ⟨cs,h1,h2,_⟩:=h.ex
 exact ⟨cs[i]'(by omega),by rw [blk_cell h1,Array.getElem?_eq_getElem (by omega)]⟩
theorem EscBlk.fz {w:World} {g:Nat} {R:Nat→Nat} (h:EscBlk w g R) (i:Nat):w.frozen? ⟨g,i,none⟩=false:=by
 obtain ⟨cs,h1,_⟩:=h.ex
 exact blk_frozen h1 i
theorem EscBlk.tab {w:World} {g:Nat} {R:Nat→Nat} (h:EscBlk w g R) (i:Nat) (hi:i<256) (v:Value):EscBlk (w.setCell ⟨g,i,none⟩ v) g R:=by
 obtain ⟨cs,h1,h2,h3⟩:=h.ex
 exact ⟨_,blk_set h1 i v,by simpa using h2,fun c hc=>by rw [Array.getElem?_setIfInBounds,if_neg (by omega)];exact h3 c hc⟩
theorem EscBlk.end {w:World} {g:Nat} {R:Nat→Nat} (h:EscBlk w g R) (v:Value):EscBlk (w.setCell ⟨g,512,none⟩ v) g R:=by
 obtain ⟨cs,h1,h2,h3⟩:=h.ex
 exact ⟨_,blk_set h1 512 v,by simpa using h2,fun c hc=>by rw [Array.getElem?_setIfInBounds,if_neg (by omega)];exact h3 c hc⟩
theorem EscBlk.end_cell {w:World} {g:Nat} {R:Nat→Nat} (h:EscBlk w g R) (v:Value):(w.setCell ⟨g,512,none⟩ v).cell? ⟨g,512,none⟩=some v:=by
 obtain ⟨cs,h1,h2,_⟩:=h.ex
 rw [blk_cell (blk_set h1 512 v),Array.getElem?_setIfInBounds,if_pos rfl,if_pos (by omega)]
theorem EscBlk.congrR {w:World} {g:Nat} {R R':Nat→Nat} (h:EscBlk w g R) (e:∀ c,c<256→R c=R' c):EscBlk w g R':=by
 obtain ⟨cs,h1,h2,h3⟩:=h.ex
 exact ⟨cs,h1,h2,fun c hc=>by rw [←e c hc];exact h3 c hc⟩
theorem EscBlk.rev {w:World} {g:Nat} {R:Nat→Nat} (h:EscBlk w g R) (b:UInt8):EscBlk (w.setCell ⟨g,256+(kq b).toNat,none⟩ (.int .u8 (b.toNat:Int))) g (revUp R b):=by
 obtain ⟨cs,h1,h2,h3⟩:=h.ex
 have hk:=(kq b).toNat_lt
 refine ⟨_,blk_set h1 _ _,by simpa using h2,fun c hc=>?_⟩
 rw [Array.getElem?_setIfInBounds]
 unfold revUp
 by_cases hcb:c=(kq b).toNat
 ·rw [if_pos (by omega),if_pos (by omega),if_pos hcb]
  exact ⟨rfl,b.toNat_lt⟩
 ·rw [if_neg (by omega),if_neg hcb]
  exact h3 c hc
theorem EscBlk.block {w w':World} {g:Nat} {R:Nat→Nat} (h:EscBlk w g R) (e:w'.heap[g]?=w.heap[g]?):EscBlk w' g R:=by
 obtain ⟨cs,h1,h2,h3⟩:=h.ex
 exact ⟨cs,e.trans h1,h2,h3⟩
theorem EscBlk.congr {w:World} {g:Nat} (h:EscBlk w g (fun _=>0)) {s:ByteArray}:EscBlk w g (revOf (s.data.toList.take 0)):=h
theorem EscBlk.fresh (w:World):EscBlk (w.alloc (.cells Tryz.zeroCells116 116)) w.heap.size (fun _=>0):=by
 have e:Tryz.zeroCells116=Array.replicate 512 (.int .u8 0)++#[.string ⟨#[]⟩]:=by kernel_rfl
 refine ⟨Tryz.zeroCells116,heap_alloc_new _ _,by kernel_rfl,fun c hc=>⟨?_,by omega⟩⟩
 rw [e,Array.getElem?_append_left (by simp;omega),Array.getElem?_replicate,if_pos (by omega)]
 rfl
theorem lt_alloc (w:World) (o:Obj):w.heap.size<(w.alloc o).heap.size:=by simp
theorem it_start (w:World) (o:Obj) (s:ByteArray):((w.alloc o).alloc (.stringIter s 0)).heap[w.heap.size+1]?=some (.stringIter s 0):=by
 have:=heap_alloc_new (w.alloc o) (.stringIter s 0)
 simpa using this
structure EscRun (w:World) (s:ByteArray) (pos:Nat) (wr:World):Prop where
 it:wr.heap[w.heap.size+1]?=some (.stringIter s pos)
 blk:EscBlk wr w.heap.size (revOf (s.data.toList.take pos))
 bel:Below w.heap.size w wr
theorem revOf_snoc (s:ByteArray) (pos:Nat) (h:pos<s.size):revOf (s.data.toList.take (pos+1))=revUp (revOf (s.data.toList.take pos)) s[pos]:=by
 rw [take_sn s pos h]
 unfold revOf
 rw [List.foldl_append]
 rfl
theorem EscRun.go {w wr w2:World} {s:ByteArray} {pos:Nat} {b:UInt8} {v:Value} (h:EscRun w s pos wr) (hp:pos<s.size) (hb:s[pos]=b) (hw:Below (wr.iterAt (w.heap.size+1) s (pos+1)).heap.size (wr.iterAt (w.heap.size+1) s (pos+1)) w2) :
  EscRun w s (pos+1) ((w2.setCell ⟨w.heap.size,b.toNat,none⟩ v).setCell ⟨w.heap.size,256+(kq b).toNat,none⟩ (.int .u8 (b.toNat:Int))):=by
 have hsz:=Lib.iterAt_size wr (w.heap.size+1) s (pos+1)
 have h1:=blk_lt h.it
 have e0:w2.heap[w.heap.size]?=wr.heap[w.heap.size]?:=(hw.block _ (by rw [hsz];omega)).trans (Lib.iterAt_other _ _ _ _ _ (by omega))
 have e1:w2.heap[w.heap.size+1]?=some (.stringIter s (pos+1)):=(hw.block _ (by rw [hsz];omega)).trans (Lib.iterAt_heap _ _ _ _ _ h.it)
 refine ⟨?_,?_,?_⟩
 ·rw [heap_setCell_other _ ⟨w.heap.size,_,none⟩ _ _ (by show w.heap.size+1≠w.heap.size;omega),heap_setCell_other _ ⟨w.heap.size,_,none⟩ _ _ (by show w.heap.size+1≠w.heap.size;omega)]
  exact e1
 ·rw [revOf_snoc s pos hp,hb]
  exact ((h.blk.block e0).tab b.toNat b.toNat_lt v).rev b
 ·exact ((((Lib.below_iterAt h.bel (by omega) s (pos+1)).trans (hw.mono (by rw [hsz];omega)))).setCell (Nat.le_refl _) _).setCell (Nat.le_refl _) _
theorem qr_44 (w:World):Calls Tryz.prog 137 #[.int .i32 44] w fun e w'=>e=.returned (.string ⟨#[39,44,39]⟩)∧Below w.heap.size w w':=quoteRune 44 [44] (by decide) (escR_p 44 (by decide) (by decide) (by decide) (by decide)) (by decide)
theorem qx_44:((⟨#[39,44,39]⟩:ByteArray).extract 1 2)=⟨#[44]⟩:=by rfl
theorem qt_44 (w:World):Calls Tryz.prog 138 #[.string ⟨#[44]⟩,.string ⟨#[92]⟩] w fun e w'=>e=.returned (.string ⟨#[44]⟩)∧w'=w:=trim_one 44 (by decide) w
theorem qr_61 (w:World):Calls Tryz.prog 137 #[.int .i32 61] w fun e w'=>e=.returned (.string ⟨#[39,61,39]⟩)∧Below w.heap.size w w':=quoteRune 61 [61] (by decide) (escR_p 61 (by decide) (by decide) (by decide) (by decide)) (by decide)
theorem qx_61:((⟨#[39,61,39]⟩:ByteArray).extract 1 2)=⟨#[61]⟩:=by rfl
theorem qt_61 (w:World):Calls Tryz.prog 138 #[.string ⟨#[61]⟩,.string ⟨#[92]⟩] w fun e w'=>e=.returned (.string ⟨#[61]⟩)∧w'=w:=trim_one 61 (by decide) w
theorem qr_32 (w:World):Calls Tryz.prog 137 #[.int .i32 32] w fun e w'=>e=.returned (.string ⟨#[39,32,39]⟩)∧Below w.heap.size w w':=quoteRune 32 [32] (by decide) (escR_p 32 (by decide) (by decide) (by decide) (by decide)) (by decide)
theorem qx_32:((⟨#[39,32,39]⟩:ByteArray).extract 1 2)=⟨#[32]⟩:=by rfl
theorem qt_32 (w:World):Calls Tryz.prog 138 #[.string ⟨#[32]⟩,.string ⟨#[92]⟩] w fun e w'=>e=.returned (.string ⟨#[32]⟩)∧w'=w:=trim_one 32 (by decide) w
theorem qr_34 (w:World):Calls Tryz.prog 137 #[.int .i32 34] w fun e w'=>e=.returned (.string ⟨#[39,34,39]⟩)∧Below w.heap.size w w':=quoteRune 34 [34] (by decide) (escR_p 34 (by decide) (by decide) (by decide) (by decide)) (by decide)
theorem qx_34:((⟨#[39,34,39]⟩:ByteArray).extract 1 2)=⟨#[34]⟩:=by rfl
theorem qt_34 (w:World):Calls Tryz.prog 138 #[.string ⟨#[34]⟩,.string ⟨#[92]⟩] w fun e w'=>e=.returned (.string ⟨#[34]⟩)∧w'=w:=trim_one 34 (by decide) w
theorem qr_92 (w:World):Calls Tryz.prog 137 #[.int .i32 92] w fun e w'=>e=.returned (.string ⟨#[39,92,92,39]⟩)∧Below w.heap.size w w':=quoteRune 92 [92,92] (by decide) (escR_92) (by decide)
theorem qx_92:((⟨#[39,92,92,39]⟩:ByteArray).extract 1 3)=⟨#[92,92]⟩:=by rfl
theorem qt_92 (w:World):Calls Tryz.prog 138 #[.string ⟨#[92,92]⟩,.string ⟨#[92]⟩] w fun e w'=>e=.returned (.string ⟨#[92]⟩)∧w'=w:=trim_two 92 w
theorem qr_10 (w:World):Calls Tryz.prog 137 #[.int .i32 10] w fun e w'=>e=.returned (.string ⟨#[39,92,110,39]⟩)∧Below w.heap.size w w':=quoteRune 10 [92,110] (by decide) (escR_10) (by decide)
theorem qx_10:((⟨#[39,92,110,39]⟩:ByteArray).extract 1 3)=⟨#[92,110]⟩:=by rfl
theorem qt_10 (w:World):Calls Tryz.prog 138 #[.string ⟨#[92,110]⟩,.string ⟨#[92]⟩] w fun e w'=>e=.returned (.string ⟨#[110]⟩)∧w'=w:=trim_two 110 w
theorem qr_13 (w:World):Calls Tryz.prog 137 #[.int .i32 13] w fun e w'=>e=.returned (.string ⟨#[39,92,114,39]⟩)∧Below w.heap.size w w':=quoteRune 13 [92,114] (by decide) (escR_13) (by decide)
theorem qx_13:((⟨#[39,92,114,39]⟩:ByteArray).extract 1 3)=⟨#[92,114]⟩:=by rfl
theorem qt_13 (w:World):Calls Tryz.prog 138 #[.string ⟨#[92,114]⟩,.string ⟨#[92]⟩] w fun e w'=>e=.returned (.string ⟨#[114]⟩)∧w'=w:=trim_two 114 w
theorem qr_9 (w:World):Calls Tryz.prog 137 #[.int .i32 9] w fun e w'=>e=.returned (.string ⟨#[39,92,116,39]⟩)∧Below w.heap.size w w':=quoteRune 9 [92,116] (by decide) (escR_9) (by decide)
theorem qx_9:((⟨#[39,92,116,39]⟩:ByteArray).extract 1 3)=⟨#[92,116]⟩:=by rfl
theorem qt_9 (w:World):Calls Tryz.prog 138 #[.string ⟨#[92,116]⟩,.string ⟨#[92]⟩] w fun e w'=>e=.returned (.string ⟨#[116]⟩)∧w'=w:=trim_two 116 w
set_option maxHeartbeats 4000000 in
theorem newEscaper_spec {w:World} (s:ByteArray) (hs:∀ i,(h:i<s.size)→goodB (s[i]'h)) (hl:s.size≤1000) :
  Calls Tryz.prog 109 #[.string s] w fun e w'=>e=.returned (.pointer (some ⟨w.heap.size,0,none⟩))∧EscBlk w' w.heap.size (revOf s.data.toList)∧w'.cell? ⟨w.heap.size,512,none⟩=some (.string s)∧Below w.heap.size w w':=by
 have HS:=Lib.hid hs
 have h0:=EscBlk.fresh w
 have H0:=Lib.hid h0
 clear hs h0
 go_enter Tryz.func109,Tryz.ntmps109
 go_wp2
 go_loopg [] (s.size+1) (fun gk wx=>∃ pos,EscRun w s pos wx∧pos≤s.size∧s.size<gk+pos)
 case atStart=>
  refine ⟨0,⟨?_,?_,?_⟩,by omega,by omega⟩
  ·exact it_start w _ s
  ·exact (H0.out.block (heap_alloc_old _ _ (lt_alloc w _))).congr
  ·exact ((Below.refl _ w).alloc (Nat.le_refl _) _).alloc (Nat.le_of_lt (lt_alloc w _)) _
 case round=>
  obtain ⟨pos,hr,hp,hg⟩:=hrel
  have HR:=Lib.hid hr
  by_cases hlt:pos<s.size
  ·obtain ⟨g',rfl⟩:∃ g',gk=g'+1:=⟨gk-1,by omega⟩
   have hgood:=HS.out pos hlt
   obtain ⟨b,hb⟩:∃ b,s[pos]'hlt=b:=⟨_,rfl⟩
   rw [hb] at hgood
   have HB:=Lib.hid hb
   have hnx:∀ ty,(Instr.next (.pointer (some ⟨w.heap.size+1,0,none⟩)) true ty).run Tryz.prog wr=.ok (.tuple #[.bool true,.int .i64 pos,.int .i32 (b.toNat:Int)]) (wr.iterAt (w.heap.size+1) s (pos+1)):=fun ty=>by
    rw [←HB.out]
    refine Lib.run_next_ascii_at wr (w.heap.size+1) s pos ty HR.out.it hlt ?_
    rw [HB.out]
    rcases hgood with h | h | h | h | h | h | h | h <;> rw [h] <;> decide
   clear hr hb
   rcases hgood with rfl | rfl | rfl | rfl | rfl | rfl | rfl | rfl
   ·as_aux_lemma=>
     have hnx':∀ ty,(Instr.next (.pointer (some ⟨w.heap.size+1,0,none⟩)) true ty).run Tryz.prog wr=.ok (.tuple #[.bool true,.int .i64 pos,.int .i32 44]) (wr.iterAt (w.heap.size+1) s (pos+1)):=hnx
     have hqx:=qx_44
     have hi0:∀ h,((⟨#[44]⟩:ByteArray)[0]'h).toNat=44:=fun _=>rfl
     clear hnx
     go_wp2_with (first
      | (go_at_call 137;refine (qr_44 _).mono ?_;rintro e w2 ⟨rfl,hb2⟩;have HW:=Lib.hid hb2;have hgo:=fun v=>Lib.hid (HR.out.go (v:=v) hlt HB.out HW.out);have hsz:=Lib.iterAt_size wr (w.heap.size+1) s (pos+1);have hblk:EscBlk w2 w.heap.size _:=(HR.out.blk.block (Lib.iterAt_other wr (w.heap.size+1) w.heap.size s (pos+1) (by omega))).block (HW.out.block _ (by rw [hsz];have:=blk_lt HR.out.it;omega));obtain ⟨v1,hv1⟩:=hblk.any 44 (by omega);have f1:=hblk.fz 44;have hblk2:=Lib.hid (hblk.tab 44 (by omega) (.int .u8 44));obtain ⟨v2,hv2⟩:=hblk2.out.any 300 (by omega);have f2:=hblk2.out.fz 300;clear hblk hb2 hsz)
      | (go_at_call 138;refine (qt_44 _).mono ?_;rintro e w3 ⟨rfl,rfl⟩))
     go_roundg g'
     case measure=>omega
     case rel=>exact ⟨pos+1,(hgo (.int .u8 44)).out,by omega,by omega⟩
   ·as_aux_lemma=>
     have hnx':∀ ty,(Instr.next (.pointer (some ⟨w.heap.size+1,0,none⟩)) true ty).run Tryz.prog wr=.ok (.tuple #[.bool true,.int .i64 pos,.int .i32 61]) (wr.iterAt (w.heap.size+1) s (pos+1)):=hnx
     have hqx:=qx_61
     have hi0:∀ h,((⟨#[61]⟩:ByteArray)[0]'h).toNat=61:=fun _=>rfl
     clear hnx
     go_wp2_with (first
      | (go_at_call 137;refine (qr_61 _).mono ?_;rintro e w2 ⟨rfl,hb2⟩;have HW:=Lib.hid hb2;have hgo:=fun v=>Lib.hid (HR.out.go (v:=v) hlt HB.out HW.out);have hsz:=Lib.iterAt_size wr (w.heap.size+1) s (pos+1);have hblk:EscBlk w2 w.heap.size _:=(HR.out.blk.block (Lib.iterAt_other wr (w.heap.size+1) w.heap.size s (pos+1) (by omega))).block (HW.out.block _ (by rw [hsz];have:=blk_lt HR.out.it;omega));obtain ⟨v1,hv1⟩:=hblk.any 61 (by omega);have f1:=hblk.fz 61;have hblk2:=Lib.hid (hblk.tab 61 (by omega) (.int .u8 61));obtain ⟨v2,hv2⟩:=hblk2.out.any 317 (by omega);have f2:=hblk2.out.fz 317;clear hblk hb2 hsz)
      | (go_at_call 138;refine (qt_61 _).mono ?_;rintro e w3 ⟨rfl,rfl⟩))
     go_roundg g'
     case measure=>omega
     case rel=>exact ⟨pos+1,(hgo (.int .u8 61)).out,by omega,by omega⟩
   ·as_aux_lemma=>
     have hnx':∀ ty,(Instr.next (.pointer (some ⟨w.heap.size+1,0,none⟩)) true ty).run Tryz.prog wr=.ok (.tuple #[.bool true,.int .i64 pos,.int .i32 32]) (wr.iterAt (w.heap.size+1) s (pos+1)):=hnx
     have hqx:=qx_32
     have hi0:∀ h,((⟨#[32]⟩:ByteArray)[0]'h).toNat=32:=fun _=>rfl
     clear hnx
     go_wp2_with (first
      | (go_at_call 137;refine (qr_32 _).mono ?_;rintro e w2 ⟨rfl,hb2⟩;have HW:=Lib.hid hb2;have hgo:=fun v=>Lib.hid (HR.out.go (v:=v) hlt HB.out HW.out);have hsz:=Lib.iterAt_size wr (w.heap.size+1) s (pos+1);have hblk:EscBlk w2 w.heap.size _:=(HR.out.blk.block (Lib.iterAt_other wr (w.heap.size+1) w.heap.size s (pos+1) (by omega))).block (HW.out.block _ (by rw [hsz];have:=blk_lt HR.out.it;omega));obtain ⟨v1,hv1⟩:=hblk.any 32 (by omega);have f1:=hblk.fz 32;have hblk2:=Lib.hid (hblk.tab 32 (by omega) (.int .u8 32));obtain ⟨v2,hv2⟩:=hblk2.out.any 288 (by omega);have f2:=hblk2.out.fz 288;clear hblk hb2 hsz)
      | (go_at_call 138;refine (qt_32 _).mono ?_;rintro e w3 ⟨rfl,rfl⟩))
     go_roundg g'
     case measure=>omega
     case rel=>exact ⟨pos+1,(hgo (.int .u8 32)).out,by omega,by omega⟩
   ·as_aux_lemma=>
     have hnx':∀ ty,(Instr.next (.pointer (some ⟨w.heap.size+1,0,none⟩)) true ty).run Tryz.prog wr=.ok (.tuple #[.bool true,.int .i64 pos,.int .i32 34]) (wr.iterAt (w.heap.size+1) s (pos+1)):=hnx
     have hqx:=qx_34
     have hi0:∀ h,((⟨#[34]⟩:ByteArray)[0]'h).toNat=34:=fun _=>rfl
     clear hnx
     go_wp2_with (first
      | (go_at_call 137;refine (qr_34 _).mono ?_;rintro e w2 ⟨rfl,hb2⟩;have HW:=Lib.hid hb2;have hgo:=fun v=>Lib.hid (HR.out.go (v:=v) hlt HB.out HW.out);have hsz:=Lib.iterAt_size wr (w.heap.size+1) s (pos+1);have hblk:EscBlk w2 w.heap.size _:=(HR.out.blk.block (Lib.iterAt_other wr (w.heap.size+1) w.heap.size s (pos+1) (by omega))).block (HW.out.block _ (by rw [hsz];have:=blk_lt HR.out.it;omega));obtain ⟨v1,hv1⟩:=hblk.any 34 (by omega);have f1:=hblk.fz 34;have hblk2:=Lib.hid (hblk.tab 34 (by omega) (.int .u8 34));obtain ⟨v2,hv2⟩:=hblk2.out.any 290 (by omega);have f2:=hblk2.out.fz 290;clear hblk hb2 hsz)
      | (go_at_call 138;refine (qt_34 _).mono ?_;rintro e w3 ⟨rfl,rfl⟩))
     go_roundg g'
     case measure=>omega
     case rel=>exact ⟨pos+1,(hgo (.int .u8 34)).out,by omega,by omega⟩
   ·as_aux_lemma=>
     have hnx':∀ ty,(Instr.next (.pointer (some ⟨w.heap.size+1,0,none⟩)) true ty).run Tryz.prog wr=.ok (.tuple #[.bool true,.int .i64 pos,.int .i32 92]) (wr.iterAt (w.heap.size+1) s (pos+1)):=hnx
     have hqx:=qx_92
     have hi0:∀ h,((⟨#[92]⟩:ByteArray)[0]'h).toNat=92:=fun _=>rfl
     clear hnx
     go_wp2_with (first
      | (go_at_call 137;refine (qr_92 _).mono ?_;rintro e w2 ⟨rfl,hb2⟩;have HW:=Lib.hid hb2;have hgo:=fun v=>Lib.hid (HR.out.go (v:=v) hlt HB.out HW.out);have hsz:=Lib.iterAt_size wr (w.heap.size+1) s (pos+1);have hblk:EscBlk w2 w.heap.size _:=(HR.out.blk.block (Lib.iterAt_other wr (w.heap.size+1) w.heap.size s (pos+1) (by omega))).block (HW.out.block _ (by rw [hsz];have:=blk_lt HR.out.it;omega));obtain ⟨v1,hv1⟩:=hblk.any 92 (by omega);have f1:=hblk.fz 92;have hblk2:=Lib.hid (hblk.tab 92 (by omega) (.int .u8 92));obtain ⟨v2,hv2⟩:=hblk2.out.any 348 (by omega);have f2:=hblk2.out.fz 348;clear hblk hb2 hsz)
      | (go_at_call 138;refine (qt_92 _).mono ?_;rintro e w3 ⟨rfl,rfl⟩))
     go_roundg g'
     case measure=>omega
     case rel=>exact ⟨pos+1,(hgo (.int .u8 92)).out,by omega,by omega⟩
   ·as_aux_lemma=>
     have hnx':∀ ty,(Instr.next (.pointer (some ⟨w.heap.size+1,0,none⟩)) true ty).run Tryz.prog wr=.ok (.tuple #[.bool true,.int .i64 pos,.int .i32 10]) (wr.iterAt (w.heap.size+1) s (pos+1)):=hnx
     have hqx:=qx_10
     have hi0:∀ h,((⟨#[110]⟩:ByteArray)[0]'h).toNat=110:=fun _=>rfl
     clear hnx
     go_wp2_with (first
      | (go_at_call 137;refine (qr_10 _).mono ?_;rintro e w2 ⟨rfl,hb2⟩;have HW:=Lib.hid hb2;have hgo:=fun v=>Lib.hid (HR.out.go (v:=v) hlt HB.out HW.out);have hsz:=Lib.iterAt_size wr (w.heap.size+1) s (pos+1);have hblk:EscBlk w2 w.heap.size _:=(HR.out.blk.block (Lib.iterAt_other wr (w.heap.size+1) w.heap.size s (pos+1) (by omega))).block (HW.out.block _ (by rw [hsz];have:=blk_lt HR.out.it;omega));obtain ⟨v1,hv1⟩:=hblk.any 10 (by omega);have f1:=hblk.fz 10;have hblk2:=Lib.hid (hblk.tab 10 (by omega) (.int .u8 110));obtain ⟨v2,hv2⟩:=hblk2.out.any 366 (by omega);have f2:=hblk2.out.fz 366;clear hblk hb2 hsz)
      | (go_at_call 138;refine (qt_10 _).mono ?_;rintro e w3 ⟨rfl,rfl⟩))
     go_roundg g'
     case measure=>omega
     case rel=>exact ⟨pos+1,(hgo (.int .u8 110)).out,by omega,by omega⟩
   ·as_aux_lemma=>
     have hnx':∀ ty,(Instr.next (.pointer (some ⟨w.heap.size+1,0,none⟩)) true ty).run Tryz.prog wr=.ok (.tuple #[.bool true,.int .i64 pos,.int .i32 13]) (wr.iterAt (w.heap.size+1) s (pos+1)):=hnx
     have hqx:=qx_13
     have hi0:∀ h,((⟨#[114]⟩:ByteArray)[0]'h).toNat=114:=fun _=>rfl
     clear hnx
     go_wp2_with (first
      | (go_at_call 137;refine (qr_13 _).mono ?_;rintro e w2 ⟨rfl,hb2⟩;have HW:=Lib.hid hb2;have hgo:=fun v=>Lib.hid (HR.out.go (v:=v) hlt HB.out HW.out);have hsz:=Lib.iterAt_size wr (w.heap.size+1) s (pos+1);have hblk:EscBlk w2 w.heap.size _:=(HR.out.blk.block (Lib.iterAt_other wr (w.heap.size+1) w.heap.size s (pos+1) (by omega))).block (HW.out.block _ (by rw [hsz];have:=blk_lt HR.out.it;omega));obtain ⟨v1,hv1⟩:=hblk.any 13 (by omega);have f1:=hblk.fz 13;have hblk2:=Lib.hid (hblk.tab 13 (by omega) (.int .u8 114));obtain ⟨v2,hv2⟩:=hblk2.out.any 370 (by omega);have f2:=hblk2.out.fz 370;clear hblk hb2 hsz)
      | (go_at_call 138;refine (qt_13 _).mono ?_;rintro e w3 ⟨rfl,rfl⟩))
     go_roundg g'
     case measure=>omega
     case rel=>exact ⟨pos+1,(hgo (.int .u8 114)).out,by omega,by omega⟩
   ·as_aux_lemma=>
     have hnx':∀ ty,(Instr.next (.pointer (some ⟨w.heap.size+1,0,none⟩)) true ty).run Tryz.prog wr=.ok (.tuple #[.bool true,.int .i64 pos,.int .i32 9]) (wr.iterAt (w.heap.size+1) s (pos+1)):=hnx
     have hqx:=qx_9
     have hi0:∀ h,((⟨#[116]⟩:ByteArray)[0]'h).toNat=116:=fun _=>rfl
     clear hnx
     go_wp2_with (first
      | (go_at_call 137;refine (qr_9 _).mono ?_;rintro e w2 ⟨rfl,hb2⟩;have HW:=Lib.hid hb2;have hgo:=fun v=>Lib.hid (HR.out.go (v:=v) hlt HB.out HW.out);have hsz:=Lib.iterAt_size wr (w.heap.size+1) s (pos+1);have hblk:EscBlk w2 w.heap.size _:=(HR.out.blk.block (Lib.iterAt_other wr (w.heap.size+1) w.heap.size s (pos+1) (by omega))).block (HW.out.block _ (by rw [hsz];have:=blk_lt HR.out.it;omega));obtain ⟨v1,hv1⟩:=hblk.any 9 (by omega);have f1:=hblk.fz 9;have hblk2:=Lib.hid (hblk.tab 9 (by omega) (.int .u8 116));obtain ⟨v2,hv2⟩:=hblk2.out.any 372 (by omega);have f2:=hblk2.out.fz 372;clear hblk hb2 hsz)
      | (go_at_call 138;refine (qt_9 _).mono ?_;rintro e w3 ⟨rfl,rfl⟩))
     go_roundg g'
     case measure=>omega
     case rel=>exact ⟨pos+1,(hgo (.int .u8 116)).out,by omega,by omega⟩
  ·have hend:pos=s.size:=by omega
   subst hend
   have hnx:∀ ty,(Instr.next (.pointer (some ⟨w.heap.size+1,0,none⟩)) true ty).run Tryz.prog wr=.ok (.tuple #[.bool false]) wr:=fun ty=>Lib.run_next_end_at wr (w.heap.size+1) s s.size ty HR.out.it (by omega)
   obtain ⟨v1,hv1⟩:=HR.out.blk.any 512 (by omega)
   have f1:=HR.out.blk.fz 512
   clear hr
   go_wp2
   go_ret
   refine ⟨rfl,?_,HR.out.blk.end_cell _,HR.out.bel.setCell (Nat.le_refl _) _⟩
   have:=HR.out.blk.end (.string s)
   rw [List.take_of_length_le (by simp)] at this
   exact this
end Go.Proofs.YtkfggfjdplnkpaaGreatDoor
end
section
namespace Go.Proofs.YtkfggfjdplnkpaaGreatDoor
open Go.RowKit
def lineEnd (T:List UInt8) (p:Nat):Nat:=p+(run (inSet 13) (T.drop p)).length
def lineNext (T:List UInt8) (p:Nat):Nat:=if T.getD (lineEnd T p) 0=10 then lineEnd T p+1 else lineEnd T p
def lineOne (T:List UInt8) (p:Nat):Nat:=if T.getD (lineEnd T p) 0=10 then 1 else 0
def ConPost (w:World) (B g:Nat) (T:List UInt8) (A:Ab) (C:Cn) (e:Ending) (w':World):Prop:=
 e=.returned (.tuple #[])∧∃ C',Rep w' B g T ⟨lineNext T A.at_,lineNext T A.at_,5,A.skip,[],A.line+lineOne T A.at_⟩ C'∧Pas g w C w' C'
theorem part_step {w:World} {B g:Nat} {T:List UInt8} {A:Ab} {C:Cn} (n:Nat) (hn:n≤5) (h:Rep w B g T A C) :
  Step w B g T A C (w.setCell ⟨g,5,none⟩ (.int .u8 (n:Int))) { A with part:=n } C:=
 h.setg 5 _ (by simp [dcells]) ⟨rfl,rfl,rfl,rfl,rfl,rfl,rfl,rfl,rfl⟩ h.le01 h.le1 h.at_ h.bigl hn h.escL
theorem getD_ten_lt {T:List UInt8} {p:Nat} {x:UInt8} (hx:x≠0) (h:T.getD p 0=x):p<T.length:=by
 refine Nat.lt_of_not_le fun hp=>hx ?_
 rw [←h,List.getD_eq_getElem?_getD,List.getElem?_eq_none hp]
 rfl
set_option maxHeartbeats 1000000 in
theorem consumeLine_spec {w:World} {B g:Nat} {T:List UInt8} {A:Ab} {C:Cn} (h:Rep w B g T A C) (hE:Env w B) (hl:A.line≤1+A.at_) :
  Calls Tryz.prog 132 #[.pointer (some ⟨g,0,none⟩)] w (ConPost w B g T A C):=by
 have HH:=Lib.hid h
 have HE:=Lib.hid hE
 have hb:A.line+1≤1000000000:=by
  have:=h.big
  have:=h.inT
  have:=h.at_
  have:=h.le1
  have:=h.le01
  omega
 have hb0:(A.line:Int)≤1000000000:=by omega
 clear h hE
 go_enter Tryz.func132,Tryz.ntmps132
 go_wp2_with fail
 refine (mk_153 _).mono ?_
 rintro e w1 ⟨a,rfl,hs,hbl⟩
 have S1:=Lib.hid (HH.out.below hbl)
 clear hbl
 have HS:=Lib.hid hs
 clear hs
 go_wp2_with fail
 refine (take_spec (inSet 13) S1.out.rep (HE.out.pas HH.out S1.out) HS.out).mono ?_
 rintro e w2 ⟨v,C2,rfl,s2,_,hav⟩
 have S2:=Lib.hid (S1.out.trans s2)
 clear s2
 change Hid (Step w B g T A C w2 { A with at_:=lineEnd T A.at_ } C2) at S2
 change lineEnd T A.at_<T.length→C2.r1<C2.bl at hav
 revert S2 hav
 generalize hp:lineEnd T A.at_=p
 intro S2 hav
 have HP:=Lib.hid hp
 clear hp
 go_wp2_with fail
 refine (at_spec 0 (by omega) S2.out.rep (fun hh=>by have:=hav hh;omega)).mono ?_
 rintro e w3 ⟨rfl,k,rfl⟩
 rw [Nat.add_zero]
 generalize hx:T.getD p 0=x
 have HX:=Lib.hid hx
 have S3:=Lib.hid (S2.out.drewN k)
 clear hx
 revert S3
 generalize w2.drewN k=w3
 intro S3
 by_cases c1:x=10
 ·have d1:(x.toNat:Int)=10:=by rw [c1];rfl
  rw [d1]
  have hlt:=hav (getD_ten_lt (x:=10) (by decide) (HX.out.trans c1))
  have HC:=Lib.hid c1
  clear c1 d1 hav
  go_wp2_with fail
  refine (advance_spec 1 S3.out.rep (by omega)).mono ?_
  rintro e w4 ⟨rfl,s4⟩
  have S4:=Lib.hid (S3.out.trans s4)
  clear s4
  have c8:=S4.out.rep.c8
  have f8:=S4.out.rep.fz 8
  dsimp only at c8
  go_wp2_with fail
  have S5:=Lib.hid (S4.out.trans (line_step S4.out.rep hb))
  refine (reset_spec S5.out.rep).mono ?_
  rintro e w6 ⟨rfl,C6,r6,p6⟩
  have R6:=Lib.hid r6
  have P6:=Lib.hid (S5.out.pas.trans p6)
  clear r6 p6
  have f5:=R6.out.fz 5
  have c5:=R6.out.c5
  go_wp2
  go_end0
  have s7:=part_step 5 (by omega) R6.out
  refine ⟨rfl,C6,?_,P6.out.trans s7.pas⟩
  have:=s7.rep
  unfold lineNext lineOne
  rw [HP.out,HX.out,if_pos HC.out,if_pos HC.out]
  exact this
 ·have d1:¬(x.toNat:Int)=10:=fun e=>u8_ne c1 (by show x.toNat=10;omega)
  have HC:=Lib.hid c1
  clear c1 hav
  go_wp2_with fail
  refine (reset_spec S3.out.rep).mono ?_
  rintro e w6 ⟨rfl,C6,r6,p6⟩
  have R6:=Lib.hid r6
  have P6:=Lib.hid (S3.out.pas.trans p6)
  clear r6 p6
  have f5:=R6.out.fz 5
  have c5:=R6.out.c5
  go_wp2
  go_end0
  have s7:=part_step 5 (by omega) R6.out
  refine ⟨rfl,C6,?_,P6.out.trans s7.pas⟩
  have:=s7.rep
  unfold lineNext lineOne
  rw [HP.out,HX.out,if_neg HC.out,if_neg HC.out]
  exact this
end Go.Proofs.YtkfggfjdplnkpaaGreatDoor
end
section
namespace Go.Proofs.YtkfggfjdplnkpaaGreatDoor
open Go.RowKit
def past (k:Nat) (T:List UInt8) (p:Nat):Nat:=p+(run (inSet k) (T.drop p)).length
def skipOne (T:List UInt8) (p:Nat):Bool × Nat × Nat:=
 if T.getD (past 0 T p) 0=35 then
  if (eol T (past 11 T (past 0 T p))).1 then (true,(eol T (past 11 T (past 0 T p))).2) else (false,p,0)
 else if T.getD (past 0 T p) 0=10 then (true,past 0 T p+1,1)
 else if T.getD (past 0 T p) 0=13 then eol T (past 0 T p)
 else (false,past 0 T p,0)
def skipN (T:List UInt8):Nat→Nat→Nat→Nat × Nat
 | 0,p,l=>(p,l)
 | k+1,p,l=>if (skipOne T p).1 then skipN T k (skipOne T p).2.1 (l+(skipOne T p).2.2) else ((skipOne T p).2.1,l+(skipOne T p).2.2)
theorem past_ge (k:Nat) (T:List UInt8) (p:Nat):p≤past k T p:=Nat.le_add_right _ _
theorem past_le (k:Nat) (T:List UInt8) (p:Nat) (h:p≤T.length):past k T p≤T.length:=by
 have:=run_len_le (inSet k) (T.drop p)
 rw [List.length_drop] at this
 unfold past
 omega
theorem eol_le (T:List UInt8) (p:Nat) (h:p≤T.length):p≤(eol T p).2.1∧(eol T p).2.1≤T.length∧(eol T p).2.1≤p+2∧(eol T p).2.2≤(eol T p).2.1-p:=by
 unfold eol
 repeat' split
 all_goals (dsimp only;omega)
theorem eol_false (T:List UInt8) (p:Nat) (h:(eol T p).1=false):(eol T p).2=(p,0):=by
 revert h
 unfold eol
 repeat' split
 all_goals (intro hh;first | (cases hh;done) | rfl)
theorem past_lt (k:Nat) (T:List UInt8) (p:Nat) (x:UInt8) (h:T.getD p 0=x) (hx:x≠0) (hk:inSet k x.toNat=true):p<past k T p:=by
 have hl:=getD_ten_lt hx h
 unfold past run
 rw [List.drop_eq_getElem_cons hl,List.takeWhile_cons]
 have:T[p]=x:=by rw [←h];simp [List.getD_eq_getElem?_getD,List.getElem?_eq_getElem hl]
 rw [this,if_pos hk]
 simp
theorem skipOne_le (T:List UInt8) (p:Nat) (h:p≤T.length):p≤(skipOne T p).2.1∧(skipOne T p).2.1≤T.length∧(skipOne T p).2.2≤(skipOne T p).2.1-p∧((skipOne T p).1=true→p<(skipOne T p).2.1):=by
 have h1:=past_ge 0 T p
 have h2:=past_le 0 T p h
 have h3:=past_ge 11 T (past 0 T p)
 have h4:=past_le 11 T (past 0 T p) h2
 have h5:=eol_le T (past 11 T (past 0 T p)) h4
 have h6:=eol_le T (past 0 T p) h2
 unfold skipOne
 split
 ·next hc=>
  have h7:=past_lt 11 T (past 0 T p) 35 hc (by decide) (by decide)
  split
  ·exact ⟨by dsimp only;omega,by dsimp only;omega,by dsimp only;omega,fun _=>by dsimp only;omega⟩
  ·exact ⟨by dsimp only;omega,by dsimp only;omega,by dsimp only;omega,fun hh=>by cases hh⟩
 ·split
  ·next hc=>
   have:=getD_ten_lt (by decide) hc
   exact ⟨by dsimp only;omega,by dsimp only;omega,by dsimp only;omega,fun _=>by dsimp only;omega⟩
  ·split
   ·next hc=>
    have h7:=getD_ten_lt (by decide) hc
    refine ⟨by omega,by omega,by omega,fun hh=>?_⟩
    have:past 0 T p<(eol T (past 0 T p)).2.1:=by
     revert hh
     unfold eol
     rw [if_pos (by omega),hc,if_neg (by decide),if_pos rfl]
     repeat' split
     all_goals (intro hh;first | (cases hh;done) | (dsimp only;omega))
    omega
   ·exact ⟨by dsimp only;omega,by dsimp only;omega,by dsimp only;omega,fun hh=>by cases hh⟩
def SkipPost (w:World) (B g:Nat) (T:List UInt8) (A:Ab) (C:Cn) (e:Ending) (w':World):Prop:=
 e=.returned (.tuple #[])∧∃ C',Step w B g T A C w' { A with at_:=(skipN T (T.length+1) A.at_ A.line).1,line:=(skipN T (T.length+1) A.at_ A.line).2 } C'
theorem back_step {w:World} {B g:Nat} {T:List UInt8} {A:Ab} {C:Cn} (p:Nat) (h:Rep w B g T A C) (h0:A.from_≤p) (h1:p≤A.at_) :
  Step w B g T A C (w.setCell ⟨g,3,none⟩ (.int .i64 ((C.r0:Int)+((p:Int)-(A.from_:Int))))) { A with at_:=p } { C with r1:=C.r0+(p-A.from_) }:=by
 have e1:=h.at_
 have e2:=h.le1
 rw [show (C.r0:Int)+((p:Int)-(A.from_:Int))=((C.r0+(p-A.from_):Nat):Int) by omega]
 exact h.setg 3 _ (by simp [dcells]) ⟨rfl,rfl,rfl,rfl,rfl,rfl,rfl,rfl,rfl⟩ (by show C.r0≤C.r0+(p-A.from_);omega) (by show C.r0+(p-A.from_)≤C.bl;omega) (by show A.from_+(C.r0+(p-A.from_))=p+C.r0;omega) h.bigl h.prt h.escL
set_option maxHeartbeats 1000000 in
theorem skipEmpty_spec {w:World} {B g:Nat} {T:List UInt8} {A:Ab} {C:Cn} (h:Rep w B g T A C) (hE:Env w B) (hl:A.line≤1+A.at_) :
  Calls Tryz.prog 44 #[.pointer (some ⟨g,0,none⟩)] w (SkipPost w B g T A C):=by
 have HH:=Lib.hid h
 have HE:=Lib.hid hE
 have HL:=Lib.hid hl
 clear h hE hl
 go_enter Tryz.func44,Tryz.ntmps44
 go_wp2_with fail
 go_loopg [] (T.length+1) (fun mq wr=>∃ p l C1,T.length+1≤mq+p∧p≤T.length∧A.at_≤p∧l≤1+p∧skipN T mq p l=skipN T (T.length+1) A.at_ A.line∧Step w B g T A C wr { A with at_:=p,line:=l } C1)
 case atStart=>
  refine ⟨A.at_,A.line,C,by omega,?_,Nat.le_refl _,HL.out,rfl,Step.refl HH.out⟩
  have:=HH.out.at_
  have:=HH.out.inT
  have:=HH.out.le1
  have:=HH.out.le01
  omega
 case round=>
  obtain ⟨p,l,C1,h1,h2,h3,h4,h5,st⟩:=hrel
  cases gk with
  | zero=>omega
  | succ k=>
  have one:=skipOne_le T p h2
  have ST:=Lib.hid st
  have hat:=st.rep.at_
  have hle:=st.rep.le1
  have h01:=st.rep.le01
  have hbl:=st.rep.bl_le
  have hin:=st.rep.inT
  have hbig:=st.rep.big
  have c2:=st.rep.c2
  have c3:=st.rep.c3
  dsimp only at hat hin
  have b1:(C1.r1:Int)≤5000:=by omega
  have b2:(C1.r0:Int)≤5000:=by omega
  have hd:(C1.r1:Int)-(C1.r0:Int)=(p:Int)-(A.from_:Int):=by omega
  have b3:(p:Int)≤5000:=by omega
  have b4:(A.from_:Int)≤(p:Int):=by omega
  have b5:A.from_≤p:=by omega
  have b7:l+2≤5000:=by omega
  have HD:=Lib.hid hd
  have H1:=Lib.hid h1
  have H2:=Lib.hid h2
  have H3:=Lib.hid h3
  have H4:=Lib.hid h4
  have H5:=Lib.hid h5
  have ONE:=Lib.hid one
  have HQ2:=Lib.hid (past_le 0 T p h2)
  clear st hat hle h01 hbl hin hd h1 h2 h3 h4 h5 one hbig
  go_wp2
  go_quiet (fail)
  rw [HD.out]
  clear c2 c3 b1 b2
  have S0:=Lib.hid (ST.out.drewN nq)
  revert S0
  generalize wr.drewN nq=w0
  intro S0
  go_wp2_with fail
  refine (mk_53 _).mono ?_
  rintro e w1 ⟨a,rfl,hs,hbl⟩
  have S1:=Lib.hid (S0.out.trans (S0.out.rep.below hbl))
  have HS:=Lib.hid hs
  clear hs hbl
  go_wp2_with fail
  refine (take_spec (inSet 0) S1.out.rep (HE.out.pas HH.out S1.out) HS.out).mono ?_
  rintro e w2 ⟨v,C2,rfl,s2,_,hav⟩
  have S2:=Lib.hid (S1.out.trans s2)
  clear s2
  change Hid (Step w B g T A C w2 { A with at_:=past 0 T p,line:=l } C2) at S2
  change past 0 T p<T.length→C2.r1<C2.bl at hav
  go_wp2_with fail
  refine (at_spec 0 (by omega) S2.out.rep (fun hh=>by have:=hav hh;omega)).mono ?_
  rintro e w3 ⟨rfl,k3,rfl⟩
  rw [Nat.add_zero]
  dsimp only
  generalize hx:T.getD (past 0 T p) 0=x
  have HX:=Lib.hid hx
  clear hx
  have S3:=Lib.hid (S2.out.drewN k3)
  revert S3
  generalize w2.drewN k3=w3
  intro S3
  by_cases c1:x=35
  ·have d1:(x.toNat:Int)=35:=by rw [c1];rfl
   rw [d1]
   have HC:=Lib.hid c1
   clear c1 d1 hav
   go_wp2_with fail
   refine (mk_102 _).mono ?_
   rintro e w4 ⟨a2,rfl,hs,hbl⟩
   have S4:=Lib.hid (S3.out.trans (S3.out.rep.below hbl))
   have HS2:=Lib.hid hs
   clear hs hbl
   go_wp2_with fail
   refine (take_spec (inSet 11) S4.out.rep (HE.out.pas HH.out S4.out) HS2.out).mono ?_
   rintro e w5 ⟨v2,C5,rfl,s5,_,_⟩
   have S5:=Lib.hid (S4.out.trans s5)
   clear s5
   change Hid (Step w B g T A C w5 { A with at_:=past 11 T (past 0 T p),line:=l } C5) at S5
   go_wp2_with fail
   refine (takeEOL_spec S5.out.rep (HE.out.pas HH.out S5.out) (by have:=H4.out;have:=past_ge 0 T p;have:=past_ge 11 T (past 0 T p);show l≤1+past 11 T (past 0 T p);omega)).mono ?_
   rintro e w6 ⟨rfl,C6,s6⟩
   have S6:=Lib.hid (S5.out.trans s6)
   clear s6
   dsimp only
   change Hid (Step w B g T A C w6 { A with at_:=(eol T (past 11 T (past 0 T p))).2.1,line:=l+(eol T (past 11 T (past 0 T p))).2.2 } C6) at S6
   cases hr:(eol T (past 11 T (past 0 T p))).1
   ·have e1:skipOne T p=(false,p,0):=by unfold skipOne;rw [HX.out,if_pos HC.out,hr];rfl
    have e2:=eol_false T _ hr
    have E1:=Lib.hid e1
    rw [e2] at S6
    clear e1 e2 hr
    have c2:=S6.out.rep.c2
    have f3:=S6.out.rep.fz 3
    have c3:=S6.out.rep.c3
    have b8:(C6.r0:Int)≤5000:=by
     have:=S6.out.rep.le01
     have:=S6.out.rep.le1
     have:=S6.out.rep.bl_le
     omega
    go_wp2
    go_end0
    refine ⟨rfl,{ C6 with r1:=C6.r0+(p-A.from_) },?_⟩
    have e3:skipN T (k+1) p l=(p,l):=by unfold skipN;rw [E1.out];rfl
    rw [←H5.out,e3]
    exact S6.out.trans (back_step p S6.out.rep b5 (by have:=past_ge 0 T p;have:=past_ge 11 T (past 0 T p);show p≤past 11 T (past 0 T p);omega))
   ·have e1:skipOne T p=(true,(eol T (past 11 T (past 0 T p))).2):=by unfold skipOne;rw [HX.out,if_pos HC.out,hr];rfl
    have E1:=Lib.hid e1
    clear e1 hr
    go_wp2
    go_roundg k
    case measure=>omega
    case rel=>
     have o:=ONE.out
     rw [E1.out] at o
     dsimp only at o
     have o1:=H1.out
     have o3:=H3.out
     have o4:=H4.out
     have o5:=o.2.2.2 rfl
     refine ⟨(eol T (past 11 T (past 0 T p))).2.1,l+(eol T (past 11 T (past 0 T p))).2.2,C6,by omega,o.2.1,by omega,by omega,?_,S6.out⟩
     rw [←H5.out]
     conv=>rhs;unfold skipN
     rw [E1.out]
     rfl
  ·have d1:¬(x.toNat:Int)=35:=fun e=>u8_ne c1 (by show x.toNat=35;omega)
   by_cases c2:x=10
   ·have d2:(x.toNat:Int)=10:=by rw [c2];rfl
    rw [d2]
    have hlt:=hav (getD_ten_lt (x:=10) (by decide) (HX.out.trans c2))
    have HC:=Lib.hid c1
    have HD2:=Lib.hid c2
    clear c1 c2 d1 d2 hav
    have c8:=S3.out.rep.c8
    have f8:=S3.out.rep.fz 8
    dsimp only at c8
    have b8:(l:Int)≤5000:=by omega
    go_wp2_with fail
    have S4:=Lib.hid (S3.out.trans (line_step S3.out.rep (by show l+1≤_;omega)))
    refine (advance_spec 1 S4.out.rep (by omega)).mono ?_
    rintro e w5 ⟨rfl,s5⟩
    have S5:=Lib.hid (S4.out.trans s5)
    clear s5
    have e1:skipOne T p=(true,past 0 T p+1,1):=by unfold skipOne;rw [HX.out,if_neg HC.out,if_pos HD2.out]
    have E1:=Lib.hid e1
    clear e1 c8 f8
    go_wp2
    go_roundg k
    case measure=>omega
    case rel=>
     have o:=ONE.out
     rw [E1.out] at o
     dsimp only at o
     have o1:=H1.out
     have o3:=H3.out
     have o4:=H4.out
     have o5:=o.2.2.2 rfl
     refine ⟨past 0 T p+1,l+1,{ C2 with r1:=C2.r1+1 },by omega,o.2.1,by omega,by omega,?_,S5.out⟩
     rw [←H5.out]
     conv=>rhs;unfold skipN
     rw [E1.out]
     rfl
   ·have d2:¬(x.toNat:Int)=10:=fun e=>u8_ne c2 (by show x.toNat=10;omega)
    by_cases c3:x=13
    ·have d3:(x.toNat:Int)=13:=by rw [c3];rfl
     rw [d3]
     have HC:=Lib.hid c1
     have HD2:=Lib.hid c2
     have HD3:=Lib.hid c3
     clear c1 c2 c3 d1 d2 d3 hav
     go_wp2_with fail
     refine (takeEOL_spec S3.out.rep (HE.out.pas HH.out S3.out) (by have:=H4.out;have:=past_ge 0 T p;show l≤1+past 0 T p;omega)).mono ?_
     rintro e w6 ⟨rfl,C6,s6⟩
     have S6:=Lib.hid (S3.out.trans s6)
     clear s6
     dsimp only
     change Hid (Step w B g T A C w6 { A with at_:=(eol T (past 0 T p)).2.1,line:=l+(eol T (past 0 T p)).2.2 } C6) at S6
     have e1:skipOne T p=eol T (past 0 T p):=by unfold skipOne;rw [HX.out,if_neg HC.out,if_neg HD2.out,if_pos HD3.out]
     have E1:=Lib.hid e1
     clear e1
     cases hr:(eol T (past 0 T p)).1
     ·have HR:=Lib.hid hr
      clear hr
      go_wp2
      go_end0
      refine ⟨rfl,C6,?_⟩
      have e3:skipN T (k+1) p l=((eol T (past 0 T p)).2.1,l+(eol T (past 0 T p)).2.2):=by unfold skipN;rw [E1.out,HR.out];rfl
      rw [←H5.out,e3]
      exact S6.out
     ·have HR:=Lib.hid hr
      clear hr
      go_wp2
      go_roundg k
      case measure=>omega
      case rel=>
       have o:=ONE.out
       rw [E1.out] at o
       have o1:=H1.out
       have o3:=H3.out
       have o4:=H4.out
       have o5:=o.2.2.2 HR.out
       refine ⟨(eol T (past 0 T p)).2.1,l+(eol T (past 0 T p)).2.2,C6,by omega,o.2.1,by omega,by omega,?_,S6.out⟩
       rw [←H5.out]
       conv=>rhs;unfold skipN
       rw [E1.out,HR.out]
       rfl
    ·have d3:¬(x.toNat:Int)=13:=fun e=>u8_ne c3 (by show x.toNat=13;omega)
     have e1:skipOne T p=(false,past 0 T p,0):=by unfold skipOne;rw [HX.out,if_neg c1,if_neg c2,if_neg c3]
     have E1:=Lib.hid e1
     clear c1 c2 c3 e1 hav
     go_wp2
     go_end0
     refine ⟨rfl,C2,?_⟩
     have e3:skipN T (k+1) p l=(past 0 T p,l):=by unfold skipN;rw [E1.out];rfl
     rw [←H5.out,e3]
     exact S3.out
end Go.Proofs.YtkfggfjdplnkpaaGreatDoor
end
