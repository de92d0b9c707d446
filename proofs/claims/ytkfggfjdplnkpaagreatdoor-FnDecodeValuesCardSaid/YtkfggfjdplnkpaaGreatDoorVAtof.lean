/- A part of the proof that the law FnDecodeValues returns true; its conditions are those of the last part. -/
import Derived.Test.YtkfggfjdplnkpaaGreatDoorVHex
import Derived.Test.YtkfggfjdplnkpaaGreatDoorVRf
import Derived.Test.YtkfggfjdplnkpaaGreatDoorVScale
set_option maxRecDepth 100000
set_option linter.unusedVariables false
set_option linter.unusedSimpArgs false
section
namespace Go.Proofs.YtkfggfjdplnkpaaGreatDoor
open Go Go.RowKit
structure Tabs (w:World) (B:Nat):Prop where
 f:FTab w B
 e:ETab w B
 p:PTab w
 opt:w.cell? ⟨10,0,none⟩=some (.bool true)
 h11:∃ ca ta,w.heap[11]?=some (.cells ca ta (0,0))
 h9:∃ ca ta,w.heap[9]?=some (.cells ca ta (0,0))
 le:B≤w.heap.size
theorem Tabs.keep {w w':World} {B:Nat} (h:Tabs w B) (hl:∀ k,k<B→w'.heap[k]?=w.heap[k]?) (hs:w.heap.size≤w'.heap.size):Tabs w' B:=by
 have h25:=h.f.low
 obtain ⟨ca,ta,h11⟩:=h.h11
 obtain ⟨cb,tb,h9⟩:=h.h9
 exact ⟨h.f.keep hl,h.e.keep hl,h.p.keep (hl 20 (by omega)),(World.cell?_of_block (hl 10 (by omega))).trans h.opt,⟨ca,ta,(hl 11 (by omega)).trans h11⟩,⟨cb,tb,(hl 9 (by omega)).trans h9⟩,Nat.le_trans h.le hs⟩
theorem Tabs.below {w w':World} {B:Nat} (h:Tabs w B) (hb:Below w.heap.size w w'):Tabs w' B:=
 h.keep (fun k hk=>hb.block k (Nat.lt_of_lt_of_le hk h.le)) hb.size
def errN (e:Nat):Value:=match e with
 | 0=>.nilIface
 | n+1=>.iface 215 (.int .i64 ((n+1:Nat):Int))
def AfPost (w:World) (b:Nat) (n:Int) (e:Nat) (en:Ending) (w':World):Prop:=
 en=.returned (.tuple #[.float .f64 b,.int .i64 n,errN e])∧Below w.heap.size w w'
def sgnU (ng:Bool):Int:=IntKind.u64.wrap (b2 ng*9223372036854775808)
theorem bel_drewN (w:World) (n:Nat):Below w.heap.size w (w.drewN n):=((Only.refl (fun _=>False) w).drewN n).below (fun _ h=>h.elim)
def eN (b:Bool):Nat:=match b with
 | true=>1
 | false=>0
theorem sp_none {s:ByteArray} (hs:s.size≤800) (h:spR s=none) (w:World):Calls Tryz.prog 172 #[.string s] w fun e w'=>e=.returned (.tuple #[.float .f64 0,.int .i64 0,.bool false])∧w'=w:=by
 have:=special_spec hs w
 rw [h] at this
 exact this
theorem sp_some {s:ByteArray} (hs:s.size≤800) {r:Nat × Int} (h:spR s=some r) (w:World):Calls Tryz.prog 172 #[.string s] w fun e w'=>e=.returned (.tuple #[.float .f64 r.1,.int .i64 r.2,.bool true])∧w'=w:=by
 have:=special_spec hs w
 rw [h] at this
 exact this
theorem ex_none {w:World} {B:Nat} (hE:ETab w B) {m x:Int} {ng:Bool} (hm:0≤m∧m≤18446744073709551615) (hx:-300000≤x∧x≤300000) (h:exactR m x ng=none) :
  Calls Tryz.prog 183 #[.int .u64 m,.int .i64 x,.bool ng] w fun e w'=>∃ f,e=.returned (.tuple #[.float .f64 f,.bool false])∧w'=w:=by
 have:=exact_spec hE m x ng hm hx
 rw [h] at this
 exact this
theorem ex_some {w:World} {B:Nat} (hE:ETab w B) {m x:Int} {ng:Bool} {f:Nat} (hm:0≤m∧m≤18446744073709551615) (hx:-300000≤x∧x≤300000) (h:exactR m x ng=some f) :
  Calls Tryz.prog 183 #[.int .u64 m,.int .i64 x,.bool ng] w fun e w'=>e=.returned (.tuple #[.float .f64 f,.bool true])∧w'=w:=by
 have:=exact_spec hE m x ng hm hx
 rw [h] at this
 exact this
set_option maxHeartbeats 8000000 in
theorem af_sp {s:ByteArray} (hs:s.size≤800) {r:Nat × Int} (h:spR s=some r) (w:World):Calls Tryz.prog 167 #[.string s] w (AfPost w r.1 r.2 0):=by
 have H:=Lib.hid (sp_some hs h)
 clear h
 go_enter Tryz.func167,Tryz.ntmps167
 go_wp2_with fail
 refine (H.out _).mono ?_
 rintro ex w2 ⟨rfl,rfl⟩
 go_wp2_with fail
 refine bodyPost_ret (results_tmp3 rfl _ _ _) rfl ?_
 exact ⟨rfl,Below.refl _ _⟩
set_option maxHeartbeats 8000000 in
theorem af_bad {s:ByteArray} (hs:s.size≤800) (hsp:spR s=none) {m x:Int} {ng tr hx:Bool} {i:Nat} (hr:rfR s=⟨m,x,ng,tr,hx,i,false⟩) (w:World):Calls Tryz.prog 167 #[.string s] w (AfPost w 0 (i:Int) 2):=by
 have HS:=Lib.hid (sp_none hs hsp)
 have HG:=rfR_good hs
 rw [hr] at HG
 obtain ⟨g1,g2,g3,g4,g5⟩:=HG
 dsimp only at g1 g2 g3 g4 g5
 have HR:Hid (∀ w:World,Calls Tryz.prog 173 #[.string s] w fun e w'=>e=.returned (.tuple #[.int .u64 m,.int .i64 x,.bool ng,.bool tr,.bool hx,.int .i64 (i:Int),.bool false])∧w'=w):=Lib.hid (fun w=>by
  have:=rf_spec hs w
  rw [hr] at this
  exact this)
 clear hr hsp
 go_enter Tryz.func167,Tryz.ntmps167
 go_wp2_with fail
 refine (HS.out _).mono ?_
 rintro ex w2 ⟨rfl,rfl⟩
 go_wp2_with fail
 refine (HR.out _).mono ?_
 rintro ex w2 ⟨rfl,rfl⟩
 go_wp2_with fail
 refine bodyPost_ret (results_tmp3 rfl _ _ _) rfl ?_
 exact ⟨rfl,Below.refl _ _⟩
set_option maxHeartbeats 8000000 in
theorem af_hex {s:ByteArray} (hs:s.size≤800) (hsp:spR s=none) {m x:Int} {ng tr:Bool} {i:Nat} (hr:rfR s=⟨m,x,ng,tr,true,i,true⟩) {w:World} {B:Nat} (hT:Tabs w B):Calls Tryz.prog 167 #[.string s] w (AfPost w (hexR m x ng tr).1 (i:Int) (eN (hexR m x ng tr).2)):=by
 have HS:=Lib.hid (sp_none hs hsp)
 have HG:=rfR_good hs
 rw [hr] at HG
 obtain ⟨g1,g2,g3,g4,g5⟩:=HG
 dsimp only at g1 g2 g3 g4 g5
 have HR:Hid (∀ w:World,Calls Tryz.prog 173 #[.string s] w fun e w'=>e=.returned (.tuple #[.int .u64 m,.int .i64 x,.bool ng,.bool tr,.bool true,.int .i64 (i:Int),.bool true])∧w'=w):=Lib.hid (fun w=>by
  have:=rf_spec hs w
  rw [hr] at this
  exact this)
 clear hr hsp
 obtain ⟨ca,ta,h11⟩:=hT.h11
 obtain ⟨cb,tb,h9⟩:=hT.h9
 have HX:=Lib.hid (hex_spec hT.f.m hT.f.e hT.f.b h11 h9 (s.extract 0 i) m x ng tr ⟨g2,g3⟩)
 obtain ⟨⟨r1,r2⟩,hrr⟩:∃ r,hexR m x ng tr=r:=⟨_,rfl⟩
 rw [hrr] at HX ⊢
 obtain ⟨ee,hee⟩:∃ e,eN (r1,r2).2=e:=⟨_,rfl⟩
 rw [hee]
 have HEE:=Lib.hid hee
 have p1:((i:Int)≤(s.size:Int))=True:=eq_true (by omega)
 have p1n:(i≤s.size)=True:=eq_true g1
 clear h11 h9 hT hrr hee g2 g3 g4 g5 g1
 go_enter Tryz.func167,Tryz.ntmps167
 go_wp2_with fail
 refine (HS.out _).mono ?_
 rintro ex w2 ⟨rfl,rfl⟩
 go_wp2_with fail
 refine (HR.out _).mono ?_
 rintro ex w2 ⟨rfl,rfl⟩
 go_wp2_with fail
 refine HX.out.mono ?_
 rintro ex w2 ⟨rfl,mm,rfl⟩
 unfold fpair
 cases r2 with
 | true=>
  dsimp only [errR]
  go_wp2_with fail
  refine bodyPost_ret (results_tmp3 rfl _ _ _) rfl ?_
  exact ⟨by rw [←HEE.out];rfl,bel_drewN _ _⟩
 | false=>
  dsimp only [errR]
  go_wp2_with fail
  refine bodyPost_ret (results_tmp3 rfl _ _ _) rfl ?_
  exact ⟨by rw [←HEE.out];rfl,bel_drewN _ _⟩
set_option maxHeartbeats 8000000 in
theorem af_zero {s:ByteArray} (hs:s.size≤800) (hsp:spR s=none) {m x:Int} {ng tr:Bool} {i:Nat} (hr:rfR s=⟨m,x,ng,tr,false,i,true⟩) (h0:m=0) {w:World} {B:Nat} (hT:Tabs w B):Calls Tryz.prog 167 #[.string s] w (AfPost w (bits .or .u64 (sgnU ng) 0).toNat (i:Int) 0):=by
 have HS:=Lib.hid (sp_none hs hsp)
 have HG:=rfR_good hs
 rw [hr] at HG
 obtain ⟨g1,g2,g3,g4,g5⟩:=HG
 dsimp only at g1 g2 g3 g4 g5
 have HR:Hid (∀ w:World,Calls Tryz.prog 173 #[.string s] w fun e w'=>e=.returned (.tuple #[.int .u64 m,.int .i64 x,.bool ng,.bool tr,.bool false,.int .i64 (i:Int),.bool true])∧w'=w):=Lib.hid (fun w=>by
  have:=rf_spec hs w
  rw [hr] at this
  exact this)
 clear hr hsp
 have ho:=hT.opt
 have hf:=run_frombits
 subst h0
 obtain ⟨sg,hsg⟩:∃ v,IntKind.u64.wrap (b2 ng*9223372036854775808)=v:=⟨_,rfl⟩
 rw [show sgnU ng=sg from hsg]
 clear hT g1 g2 g3 g4 g5
 go_enter Tryz.func167,Tryz.ntmps167
 go_wp2_with fail
 refine (HS.out _).mono ?_
 rintro ex w2 ⟨rfl,rfl⟩
 go_wp2_with fail
 refine (HR.out _).mono ?_
 rintro ex w2 ⟨rfl,rfl⟩
 go_wp2_with fail
 refine (b2u_spec _ _).mono ?_
 rintro ex w3 ⟨rfl,rfl⟩
 go_wp2_with fail
 refine bodyPost_ret (results_tmp3 rfl _ _ _) rfl ?_
 exact ⟨rfl,Below.refl _ _⟩
set_option maxHeartbeats 8000000 in
theorem af_big {s:ByteArray} (hs:s.size≤800) (hsp:spR s=none) {m x:Int} {ng tr:Bool} {i:Nat} (hr:rfR s=⟨m,x,ng,tr,false,i,true⟩) (h0:¬m=0) (h1:310<x) {w:World} {B:Nat} (hT:Tabs w B):Calls Tryz.prog 167 #[.string s] w (AfPost w (bits .or .u64 (sgnU ng) 9218868437227405312).toNat (i:Int) 1):=by
 have HS:=Lib.hid (sp_none hs hsp)
 have HG:=rfR_good hs
 rw [hr] at HG
 obtain ⟨g1,g2,g3,g4,g5⟩:=HG
 dsimp only at g1 g2 g3 g4 g5
 have HR:Hid (∀ w:World,Calls Tryz.prog 173 #[.string s] w fun e w'=>e=.returned (.tuple #[.int .u64 m,.int .i64 x,.bool ng,.bool tr,.bool false,.int .i64 (i:Int),.bool true])∧w'=w):=Lib.hid (fun w=>by
  have:=rf_spec hs w
  rw [hr] at this
  exact this)
 clear hr hsp
 have ho:=hT.opt
 have hf:=run_frombits
 have h0b:(m==0)=false:=beq_eq_false_iff_ne.2 h0
 obtain ⟨sg,hsg⟩:∃ v,IntKind.u64.wrap (b2 ng*9223372036854775808)=v:=⟨_,rfl⟩
 rw [show sgnU ng=sg from hsg]
 clear hT g1 g2 g3 g4 g5
 go_enter Tryz.func167,Tryz.ntmps167
 go_wp2_with fail
 refine (HS.out _).mono ?_
 rintro ex w2 ⟨rfl,rfl⟩
 go_wp2_with fail
 refine (HR.out _).mono ?_
 rintro ex w2 ⟨rfl,rfl⟩
 go_wp2_with fail
 refine (b2u_spec _ _).mono ?_
 rintro ex w3 ⟨rfl,rfl⟩
 go_wp2_with fail
 refine bodyPost_ret (results_tmp3 rfl _ _ _) rfl ?_
 exact ⟨rfl,Below.refl _ _⟩
set_option maxHeartbeats 8000000 in
theorem af_small {s:ByteArray} (hs:s.size≤800) (hsp:spR s=none) {m x:Int} {ng tr:Bool} {i:Nat} (hr:rfR s=⟨m,x,ng,tr,false,i,true⟩) (h0:¬m=0) (h2:x < -345) {w:World} {B:Nat} (hT:Tabs w B):Calls Tryz.prog 167 #[.string s] w (AfPost w (bits .or .u64 (sgnU ng) 0).toNat (i:Int) 0):=by
 have HS:=Lib.hid (sp_none hs hsp)
 have HG:=rfR_good hs
 rw [hr] at HG
 obtain ⟨g1,g2,g3,g4,g5⟩:=HG
 dsimp only at g1 g2 g3 g4 g5
 have HR:Hid (∀ w:World,Calls Tryz.prog 173 #[.string s] w fun e w'=>e=.returned (.tuple #[.int .u64 m,.int .i64 x,.bool ng,.bool tr,.bool false,.int .i64 (i:Int),.bool true])∧w'=w):=Lib.hid (fun w=>by
  have:=rf_spec hs w
  rw [hr] at this
  exact this)
 clear hr hsp
 have ho:=hT.opt
 have hf:=run_frombits
 have h0b:(m==0)=false:=beq_eq_false_iff_ne.2 h0
 have h1:¬310<x:=by omega
 obtain ⟨sg,hsg⟩:∃ v,IntKind.u64.wrap (b2 ng*9223372036854775808)=v:=⟨_,rfl⟩
 rw [show sgnU ng=sg from hsg]
 clear hT g1 g2 g3 g4 g5
 go_enter Tryz.func167,Tryz.ntmps167
 go_wp2_with fail
 refine (HS.out _).mono ?_
 rintro ex w2 ⟨rfl,rfl⟩
 go_wp2_with fail
 refine (HR.out _).mono ?_
 rintro ex w2 ⟨rfl,rfl⟩
 go_wp2_with fail
 refine (b2u_spec _ _).mono ?_
 rintro ex w3 ⟨rfl,rfl⟩
 go_wp2_with fail
 refine bodyPost_ret (results_tmp3 rfl _ _ _) rfl ?_
 exact ⟨rfl,Below.refl _ _⟩
set_option maxHeartbeats 8000000 in
theorem af_exact {s:ByteArray} (hs:s.size≤800) (hsp:spR s=none) {m x:Int} {ng:Bool} {i:Nat} (hr:rfR s=⟨m,x,ng,false,false,i,true⟩) (h0:¬m=0) (h1:-345≤x∧x≤310) {f:Nat} (he:exactR m x ng=some f) {w:World} {B:Nat} (hT:Tabs w B):Calls Tryz.prog 167 #[.string s] w (AfPost w f (i:Int) 0):=by
 have HS:=Lib.hid (sp_none hs hsp)
 have HG:=rfR_good hs
 rw [hr] at HG
 obtain ⟨g1,g2,g3,g4,g5⟩:=HG
 dsimp only at g1 g2 g3 g4 g5
 have HR:Hid (∀ w:World,Calls Tryz.prog 173 #[.string s] w fun e w'=>e=.returned (.tuple #[.int .u64 m,.int .i64 x,.bool ng,.bool false,.bool false,.int .i64 (i:Int),.bool true])∧w'=w):=Lib.hid (fun w=>by
  have:=rf_spec hs w
  rw [hr] at this
  exact this)
 clear hr hsp
 have ho:=hT.opt
 have hf:=run_frombits
 have h0b:(m==0)=false:=beq_eq_false_iff_ne.2 h0
 have h1a:¬310<x:=by omega
 have h1b:¬x < -345:=by omega
 obtain ⟨sg,hsg⟩:∃ v,IntKind.u64.wrap (b2 ng*9223372036854775808)=v:=⟨_,rfl⟩
 have HEX:=Lib.hid (ex_some hT.e ⟨g2,g3⟩ ⟨g4,g5⟩ he)
 clear hT g1 g2 g3 g4 g5 he h1
 go_enter Tryz.func167,Tryz.ntmps167
 go_wp2_with fail
 refine (HS.out _).mono ?_
 rintro ex w2 ⟨rfl,rfl⟩
 go_wp2_with fail
 refine (HR.out _).mono ?_
 rintro ex w2 ⟨rfl,rfl⟩
 go_wp2_with fail
 refine (b2u_spec _ _).mono ?_
 rintro ex w3 ⟨rfl,rfl⟩
 go_wp2_with fail
 refine HEX.out.mono ?_
 rintro ex w4 ⟨rfl,rfl⟩
 go_wp2_with fail
 refine bodyPost_ret (results_tmp3 rfl _ _ _) rfl ?_
 exact ⟨rfl,Below.refl _ _⟩
set_option maxHeartbeats 8000000 in
theorem af_fast {s:ByteArray} (hs:s.size≤800) (hsp:spR s=none) {m x:Int} {ng:Bool} {i:Nat} (hr:rfR s=⟨m,x,ng,false,false,i,true⟩) (h0:¬m=0) (h1:-345≤x∧x≤310) (he:exactR m x ng=none) {w:World} {B:Nat} (hT:Tabs w B):Calls Tryz.prog 167 #[.string s] w (AfPost w (pfR m x (sgnU ng)).1 (i:Int) (eN (pfR m x (sgnU ng)).2)):=by
 have HS:=Lib.hid (sp_none hs hsp)
 have HG:=rfR_good hs
 rw [hr] at HG
 obtain ⟨g1,g2,g3,g4,g5⟩:=HG
 dsimp only at g1 g2 g3 g4 g5
 have HR:Hid (∀ w:World,Calls Tryz.prog 173 #[.string s] w fun e w'=>e=.returned (.tuple #[.int .u64 m,.int .i64 x,.bool ng,.bool false,.bool false,.int .i64 (i:Int),.bool true])∧w'=w):=Lib.hid (fun w=>by
  have:=rf_spec hs w
  rw [hr] at this
  exact this)
 clear hr hsp
 have ho:=hT.opt
 have hf:=run_frombits
 have h0b:(m==0)=false:=beq_eq_false_iff_ne.2 h0
 have h1a:¬310<x:=by omega
 have h1b:¬x < -345:=by omega
 obtain ⟨sg,hsg⟩:∃ v,IntKind.u64.wrap (b2 ng*9223372036854775808)=v:=⟨_,rfl⟩
 rw [show sgnU ng=sg from hsg]
 have HEX:=Lib.hid (ex_none hT.e ⟨g2,g3⟩ ⟨g4,g5⟩ he)
 have HPF:=Lib.hid (pf_spec hT.p (by have:=hT.f.low;have:=hT.le;omega) m x sg ⟨g2,g3⟩ h1)
 obtain ⟨⟨r1,r2⟩,hrr⟩:∃ r,pfR m x sg=r:=⟨_,rfl⟩
 rw [hrr] at HPF ⊢
 obtain ⟨ee,hee⟩:∃ e,eN (r1,r2).2=e:=⟨_,rfl⟩
 rw [hee]
 have HEE:=Lib.hid hee
 clear hT g1 g2 g3 g4 g5 he h1 hrr hee
 go_enter Tryz.func167,Tryz.ntmps167
 go_wp2_with fail
 refine (HS.out _).mono ?_
 rintro ex w2 ⟨rfl,rfl⟩
 go_wp2_with fail
 refine (HR.out _).mono ?_
 rintro ex w2 ⟨rfl,rfl⟩
 go_wp2_with fail
 refine (b2u_spec _ _).mono ?_
 rintro ex w3 ⟨rfl,rfl⟩
 go_wp2_with fail
 refine HEX.out.mono ?_
 rintro ex w4 ⟨f0,rfl,rfl⟩
 go_wp2_with fail
 refine HPF.out.mono ?_
 rintro ex w5 ⟨rfl,hb5⟩
 have HB5:=Lib.hid hb5
 clear hb5
 unfold fpair
 cases r2 with
 | true=>
  dsimp only [errR]
  go_wp2_with fail
  refine bodyPost_ret (results_tmp3 rfl _ _ _) rfl ?_
  exact ⟨by rw [←HEE.out];rfl,HB5.out⟩
 | false=>
  dsimp only [errR]
  go_wp2_with fail
  refine bodyPost_ret (results_tmp3 rfl _ _ _) rfl ?_
  exact ⟨by rw [←HEE.out];rfl,HB5.out⟩
set_option maxHeartbeats 8000000 in
theorem af_near {s:ByteArray} (hs:s.size≤800) (hsp:spR s=none) {m x:Int} {ng:Bool} {i:Nat} (hr:rfR s=⟨m,x,ng,true,false,i,true⟩) (h0:¬m=0) (h1:-345≤x∧x≤310) {w:World} {B:Nat} (hT:Tabs w B)
  (hc:(FloatKind.f64.format.order (pfR m x (sgnU ng)).1 (pfR (IntKind.u64.wrap (m+1)) x (sgnU ng)).1==some .eq)=true) :
  Calls Tryz.prog 167 #[.string s] w (AfPost w (pfR m x (sgnU ng)).1 (i:Int) (eN (pfR m x (sgnU ng)).2)):=by
 have HS:=Lib.hid (sp_none hs hsp)
 have HG:=rfR_good hs
 rw [hr] at HG
 obtain ⟨g1,g2,g3,g4,g5⟩:=HG
 dsimp only at g1 g2 g3 g4 g5
 have HR:Hid (∀ w:World,Calls Tryz.prog 173 #[.string s] w fun e w'=>e=.returned (.tuple #[.int .u64 m,.int .i64 x,.bool ng,.bool true,.bool false,.int .i64 (i:Int),.bool true])∧w'=w):=Lib.hid (fun w=>by
  have:=rf_spec hs w
  rw [hr] at this
  exact this)
 clear hr hsp
 have ho:=hT.opt
 have hf:=run_frombits
 have h0b:(m==0)=false:=beq_eq_false_iff_ne.2 h0
 have h1a:¬310<x:=by omega
 have h1b:¬x < -345:=by omega
 obtain ⟨sg,hsg⟩:∃ v,IntKind.u64.wrap (b2 ng*9223372036854775808)=v:=⟨_,rfl⟩
 have HT:=Lib.hid hT
 have HM:=Lib.hid (And.intro g2 g3)
 have HX1:=Lib.hid h1
 have p1:((i:Int)≤(s.size:Int))=True:=eq_true (by omega)
 have p1n:(i≤s.size)=True:=eq_true g1
 have hsl:(s.extract 0 i).size≤800:=by rw [ByteArray.size_extract];omega
 have HSL:=Lib.hid hsl
 have HPF:=Lib.hid (pf_spec hT.p (by have:=hT.f.low;have:=hT.le;omega) m x sg ⟨g2,g3⟩ h1)
 obtain ⟨⟨r1,r2⟩,hrr⟩:∃ r,pfR m x sg=r:=⟨_,rfl⟩
 obtain ⟨m1,hm1⟩:∃ v,IntKind.u64.wrap (m+1)=v:=⟨_,rfl⟩
 have hm1b:0≤m1∧m1≤18446744073709551615:=by
  rw [←hm1,IntKind.wrap_u64]
  omega
 have HM1:=Lib.hid hm1b
 obtain ⟨⟨q1,q2⟩,hqq⟩:∃ r,pfR m1 x sg=r:=⟨_,rfl⟩
 have HQQ:=Lib.hid hqq
 rw [show sgnU ng=sg from hsg] at hc ⊢
 rw [hm1,hqq,hrr] at hc
 rw [hrr]
 obtain ⟨ee,hee⟩:∃ e,eN (r1,r2).2=e:=⟨_,rfl⟩
 rw [hee]
 have HEE:=Lib.hid hee
 clear hee
 dsimp only at hc
 rw [hrr] at HPF
 clear g1 g2 g3 g4 g5 h1 hrr hqq hm1b hsl hT
 go_enter Tryz.func167,Tryz.ntmps167
 go_wp2_with fail
 refine (HS.out _).mono ?_
 rintro ex w2 ⟨rfl,rfl⟩
 go_wp2_with fail
 refine (HR.out _).mono ?_
 rintro ex w2 ⟨rfl,rfl⟩
 go_wp2_with fail
 refine (b2u_spec _ _).mono ?_
 rintro ex w3 ⟨rfl,rfl⟩
 go_wp2_with fail
 refine HPF.out.mono ?_
 clear HPF
 rintro ex w5 ⟨rfl,hb5⟩
 have HB5:=Lib.hid hb5
 have HT5:=Lib.hid (HT.out.below hb5)
 clear hb5
 have HPF2:=Lib.hid (pf_spec HT5.out.p (by have:=HT5.out.f.low;have:=HT5.out.le;omega) m1 x sg HM1.out HX1.out)
 rw [HQQ.out] at HPF2
 unfold fpair
 have hcase:∀ b:Bool,errR b=.nilIface∨∃ n,errR b=.iface 215 (.int .i64 n):=fun b=>by cases b <;> first | exact .inl rfl | exact .inr ⟨_,rfl⟩
 obtain ⟨e1,he1⟩:∃ v,errR r2=v:=⟨_,rfl⟩
 have HE1:=Lib.hid he1
 dsimp only
 rw [he1]
 clear hcase he1
 go_wp2_with fail
 refine HPF2.out.mono ?_
 clear HPF2
 rintro ex w6 ⟨rfl,hb6⟩
 have HB6:=Lib.hid (HB5.out.trans (hb6.mono HB5.out.size))
 have HT6:=Lib.hid (HT5.out.below hb6)
 clear hb6
 obtain ⟨e2,he2⟩:∃ v,errR q2=v:=⟨_,rfl⟩
 unfold fpair
 dsimp only
 rw [he2]
 clear he2
 go_wp2_with fail
 refine bodyPost_ret (results_tmp3 rfl _ _ _) rfl ?_
 exact ⟨by rw [←HEE.out,←HE1.out]; cases r2 <;> rfl,HB6.out⟩
theorem DecB.fresh (w:World):DecB (w.alloc (.cells Tryz.zeroCells244 244)) w.heap.size (fun _=>0) 0 0 false false:=by
 have e:Tryz.zeroCells244=Array.replicate 800 (.int .u8 0)++#[.int .i64 0,.int .i64 0,.bool false,.bool false]:=by kernel_rfl
 refine ⟨Tryz.zeroCells244,heap_alloc_new _ _,by kernel_rfl,fun i hi=>?_,by kernel_rfl,by kernel_rfl,by kernel_rfl,by kernel_rfl⟩
 rw [e,Array.getElem?_append_left (by simpa using hi)]
 simp [hi]
set_option maxHeartbeats 8000000 in
theorem af_slow_no {s:ByteArray} (hs:s.size≤800) (hsp:spR s=none) {m x:Int} {ng:Bool} {i:Nat} (hr:rfR s=⟨m,x,ng,true,false,i,true⟩) (h0:¬m=0) (h1:-345≤x∧x≤310) {w:World} {B:Nat} (hT:Tabs w B)
  (hc:(FloatKind.f64.format.order (pfR m x (sgnU ng)).1 (pfR (IntKind.u64.wrap (m+1)) x (sgnU ng)).1==some .eq)=false) (hset:setR (s.extract 0 i)=none) :
  Calls Tryz.prog 167 #[.string s] w (AfPost w 0 (i:Int) 2):=by
 have HS:=Lib.hid (sp_none hs hsp)
 have HG:=rfR_good hs
 rw [hr] at HG
 obtain ⟨g1,g2,g3,g4,g5⟩:=HG
 dsimp only at g1 g2 g3 g4 g5
 have HR:Hid (∀ w:World,Calls Tryz.prog 173 #[.string s] w fun e w'=>e=.returned (.tuple #[.int .u64 m,.int .i64 x,.bool ng,.bool true,.bool false,.int .i64 (i:Int),.bool true])∧w'=w):=Lib.hid (fun w=>by
  have:=rf_spec hs w
  rw [hr] at this
  exact this)
 clear hr hsp
 have ho:=hT.opt
 have hf:=run_frombits
 have h0b:(m==0)=false:=beq_eq_false_iff_ne.2 h0
 have h1a:¬310<x:=by omega
 have h1b:¬x < -345:=by omega
 obtain ⟨sg,hsg⟩:∃ v,IntKind.u64.wrap (b2 ng*9223372036854775808)=v:=⟨_,rfl⟩
 have HT:=Lib.hid hT
 have HM:=Lib.hid (And.intro g2 g3)
 have HX1:=Lib.hid h1
 have p1:((i:Int)≤(s.size:Int))=True:=eq_true (by omega)
 have p1n:(i≤s.size)=True:=eq_true g1
 have hsl:(s.extract 0 i).size≤800:=by rw [ByteArray.size_extract];omega
 have HSL:=Lib.hid hsl
 have HPF:=Lib.hid (pf_spec hT.p (by have:=hT.f.low;have:=hT.le;omega) m x sg ⟨g2,g3⟩ h1)
 obtain ⟨⟨r1,r2⟩,hrr⟩:∃ r,pfR m x sg=r:=⟨_,rfl⟩
 obtain ⟨m1,hm1⟩:∃ v,IntKind.u64.wrap (m+1)=v:=⟨_,rfl⟩
 have hm1b:0≤m1∧m1≤18446744073709551615:=by
  rw [←hm1,IntKind.wrap_u64]
  omega
 have HM1:=Lib.hid hm1b
 obtain ⟨⟨q1,q2⟩,hqq⟩:∃ r,pfR m1 x sg=r:=⟨_,rfl⟩
 have HQQ:=Lib.hid hqq
 rw [show sgnU ng=sg from hsg] at hc
 rw [hm1,hqq,hrr] at hc
 dsimp only at hc
 have HSET:=Lib.hid hset
 clear hset
 rw [hrr] at HPF
 clear g1 g2 g3 g4 g5 h1 hrr hqq hm1b hsl hT
 go_enter Tryz.func167,Tryz.ntmps167
 go_wp2_with fail
 refine (HS.out _).mono ?_
 rintro ex w2 ⟨rfl,rfl⟩
 go_wp2_with fail
 refine (HR.out _).mono ?_
 rintro ex w2 ⟨rfl,rfl⟩
 go_wp2_with fail
 refine (b2u_spec _ _).mono ?_
 rintro ex w3 ⟨rfl,rfl⟩
 go_wp2_with fail
 refine HPF.out.mono ?_
 clear HPF
 rintro ex w5 ⟨rfl,hb5⟩
 have HB5:=Lib.hid hb5
 have HT5:=Lib.hid (HT.out.below hb5)
 clear hb5
 have HPF2:=Lib.hid (pf_spec HT5.out.p (by have:=HT5.out.f.low;have:=HT5.out.le;omega) m1 x sg HM1.out HX1.out)
 rw [HQQ.out] at HPF2
 unfold fpair
 have hcase:∀ b:Bool,errR b=.nilIface∨∃ n,errR b=.iface 215 (.int .i64 n):=fun b=>by cases b <;> first | exact .inl rfl | exact .inr ⟨_,rfl⟩
 obtain ⟨e1,he1⟩:∃ v,errR r2=v:=⟨_,rfl⟩
 have HE1:=Lib.hid he1
 dsimp only
 rw [he1]
 clear hcase he1
 go_wp2_with fail
 refine HPF2.out.mono ?_
 clear HPF2
 rintro ex w6 ⟨rfl,hb6⟩
 have HB6:=Lib.hid (HB5.out.trans (hb6.mono HB5.out.size))
 have HT6:=Lib.hid (HT5.out.below hb6)
 clear hb6
 obtain ⟨e2,he2⟩:∃ v,errR q2=v:=⟨_,rfl⟩
 unfold fpair
 dsimp only
 rw [he2]
 clear he2
 obtain ⟨t,ht⟩:∃ t,s.extract 0 i=t:=⟨_,rfl⟩
 rw [ht] at HSL HSET
 have HSS:=Lib.hid (set_spec HSL.out (DecB.fresh w6))
 rw [HSET.out] at HSS
 go_wp2_with fail
 refine HSS.out.mono ?_
 clear HSS
 rintro ex w7 ⟨rfl,hd7,ho7⟩
 have HO7:=Lib.hid (Only.trans (Only.alloc (Only.of_below HB6.out (fun _=>False)) (.cells Tryz.zeroCells244 244)) ho7 (fun k hk=>.inr (by rw [hk];exact HB6.out.size)))
 clear hd7 ho7
 go_wp2_with fail
 refine bodyPost_ret (results_tmp3 rfl _ _ _) rfl ?_
 exact ⟨rfl,HO7.out.below (fun _ h=>h.elim)⟩
set_option maxHeartbeats 8000000 in
theorem af_slow {s:ByteArray} (hs:s.size≤800) (hsp:spR s=none) {m x:Int} {ng:Bool} {i:Nat} (hr:rfR s=⟨m,x,ng,true,false,i,true⟩) (h0:¬m=0) (h1:-345≤x∧x≤310) {w:World} {B:Nat} (hT:Tabs w B)
  (hc:(FloatKind.f64.format.order (pfR m x (sgnU ng)).1 (pfR (IntKind.u64.wrap (m+1)) x (sgnU ng)).1==some .eq)=false) {D:DS} (hset:setR (s.extract 0 i)=some D) {v:Int} {ov:Bool}
  (hfb:∀ w B g,FTab w B→B≤g→DecS w g D (sgN (s.extract 0 i) 0)→Calls Tryz.prog 180 #[.pointer (some ⟨g,0,none⟩),.pointer (some ⟨11,0,none⟩)] w (BitsPost w g (.tuple #[.int .u64 v,.bool ov]))) :
  Calls Tryz.prog 167 #[.string s] w (AfPost w v.toNat (i:Int) (eN ov)):=by
 have HS:=Lib.hid (sp_none hs hsp)
 have HG:=rfR_good hs
 rw [hr] at HG
 obtain ⟨g1,g2,g3,g4,g5⟩:=HG
 dsimp only at g1 g2 g3 g4 g5
 have HR:Hid (∀ w:World,Calls Tryz.prog 173 #[.string s] w fun e w'=>e=.returned (.tuple #[.int .u64 m,.int .i64 x,.bool ng,.bool true,.bool false,.int .i64 (i:Int),.bool true])∧w'=w):=Lib.hid (fun w=>by
  have:=rf_spec hs w
  rw [hr] at this
  exact this)
 clear hr hsp
 have ho:=hT.opt
 have hf:=run_frombits
 have h0b:(m==0)=false:=beq_eq_false_iff_ne.2 h0
 have h1a:¬310<x:=by omega
 have h1b:¬x < -345:=by omega
 obtain ⟨sg,hsg⟩:∃ v,IntKind.u64.wrap (b2 ng*9223372036854775808)=v:=⟨_,rfl⟩
 have HT:=Lib.hid hT
 have HM:=Lib.hid (And.intro g2 g3)
 have HX1:=Lib.hid h1
 have p1:((i:Int)≤(s.size:Int))=True:=eq_true (by omega)
 have p1n:(i≤s.size)=True:=eq_true g1
 have hsl:(s.extract 0 i).size≤800:=by rw [ByteArray.size_extract];omega
 have HSL:=Lib.hid hsl
 have HPF:=Lib.hid (pf_spec hT.p (by have:=hT.f.low;have:=hT.le;omega) m x sg ⟨g2,g3⟩ h1)
 obtain ⟨⟨r1,r2⟩,hrr⟩:∃ r,pfR m x sg=r:=⟨_,rfl⟩
 obtain ⟨m1,hm1⟩:∃ v,IntKind.u64.wrap (m+1)=v:=⟨_,rfl⟩
 have hm1b:0≤m1∧m1≤18446744073709551615:=by
  rw [←hm1,IntKind.wrap_u64]
  omega
 have HM1:=Lib.hid hm1b
 obtain ⟨⟨q1,q2⟩,hqq⟩:∃ r,pfR m1 x sg=r:=⟨_,rfl⟩
 have HQQ:=Lib.hid hqq
 rw [show sgnU ng=sg from hsg] at hc
 rw [hm1,hqq,hrr] at hc
 dsimp only at hc
 have HSET:=Lib.hid hset
 have HFB:=Lib.hid hfb
 obtain ⟨ee,hee⟩:∃ e,eN ov=e:=⟨_,rfl⟩
 rw [hee]
 have HEE:=Lib.hid hee
 clear hset hfb hee
 rw [hrr] at HPF
 clear g1 g2 g3 g4 g5 h1 hrr hqq hm1b hsl hT
 go_enter Tryz.func167,Tryz.ntmps167
 go_wp2_with fail
 refine (HS.out _).mono ?_
 rintro ex w2 ⟨rfl,rfl⟩
 go_wp2_with fail
 refine (HR.out _).mono ?_
 rintro ex w2 ⟨rfl,rfl⟩
 go_wp2_with fail
 refine (b2u_spec _ _).mono ?_
 rintro ex w3 ⟨rfl,rfl⟩
 go_wp2_with fail
 refine HPF.out.mono ?_
 clear HPF
 rintro ex w5 ⟨rfl,hb5⟩
 have HB5:=Lib.hid hb5
 have HT5:=Lib.hid (HT.out.below hb5)
 clear hb5
 have HPF2:=Lib.hid (pf_spec HT5.out.p (by have:=HT5.out.f.low;have:=HT5.out.le;omega) m1 x sg HM1.out HX1.out)
 rw [HQQ.out] at HPF2
 unfold fpair
 have hcase:∀ b:Bool,errR b=.nilIface∨∃ n,errR b=.iface 215 (.int .i64 n):=fun b=>by cases b <;> first | exact .inl rfl | exact .inr ⟨_,rfl⟩
 obtain ⟨e1,he1⟩:∃ v,errR r2=v:=⟨_,rfl⟩
 have HE1:=Lib.hid he1
 dsimp only
 rw [he1]
 clear hcase he1
 go_wp2_with fail
 refine HPF2.out.mono ?_
 clear HPF2
 rintro ex w6 ⟨rfl,hb6⟩
 have HB6:=Lib.hid (HB5.out.trans (hb6.mono HB5.out.size))
 have HT6:=Lib.hid (HT5.out.below hb6)
 clear hb6
 obtain ⟨e2,he2⟩:∃ v,errR q2=v:=⟨_,rfl⟩
 unfold fpair
 dsimp only
 rw [he2]
 clear he2
 obtain ⟨t,ht⟩:∃ t,s.extract 0 i=t:=⟨_,rfl⟩
 rw [ht] at HSL HSET HFB
 have HSS:=Lib.hid (set_spec HSL.out (DecB.fresh w6))
 rw [HSET.out] at HSS
 go_wp2_with fail
 refine HSS.out.mono ?_
 clear HSS
 rintro ex w7 ⟨rfl,hd7,ho7⟩
 have HO7:=Lib.hid (Only.trans (Only.alloc (Only.of_below HB6.out (fun _=>False)) (.cells Tryz.zeroCells244 244)) ho7 (fun k hk=>.inr (by rw [hk];exact HB6.out.size)))
 have HD7:=Lib.hid (hd7 D rfl)
 have HFT:=Lib.hid ((HT6.out.f.keep (w':=w6.alloc (.cells Tryz.zeroCells244 244)) (fun k hk=>heap_alloc_old _ _ (Nat.lt_of_lt_of_le hk HT6.out.le))).only ho7 HT6.out.le (by simp))
 clear hd7 ho7
 go_wp2_with fail
 refine (HFB.out _ _ _ HFT.out HT6.out.le HD7.out).mono ?_
 rintro ex w8 ⟨rfl,ho8⟩
 have HO8:=Lib.hid (HO7.out.trans ho8 (fun k hk=>.inr (by rw [hk];exact HB6.out.size)))
 clear ho8
 cases ov with
 | true=>
  go_wp2_with fail
  refine bodyPost_ret (results_tmp3 rfl _ _ _) rfl ?_
  exact ⟨by rw [←HEE.out];rfl,HO8.out.below (fun _ h=>h.elim)⟩
 | false=>
  go_wp2_with fail
  refine bodyPost_ret (results_tmp3 rfl _ _ _) rfl ?_
  exact ⟨by rw [←HEE.out];rfl,HO8.out.below (fun _ h=>h.elim)⟩
theorem atof_det (s:ByteArray) (hs:s.size≤800):∃ (b:Nat) (n:Int) (e:Nat),e≤2∧∀ w B,Tabs w B→Calls Tryz.prog 167 #[.string s] w (AfPost w b n e):=by
 have heN:∀ b,eN b≤2:=fun b=>by cases b <;> decide
 cases hsp:spR s with
 | some r=>exact ⟨_,_,0,by decide,fun w B hT=>af_sp hs hsp w⟩
 | none=>
  obtain ⟨⟨m,x,ng,tr,hx,i,ok⟩,hr⟩:∃ R,rfR s=R:=⟨_,rfl⟩
  cases ok with
  | false=>exact ⟨_,_,2,by decide,fun w B hT=>af_bad hs hsp hr w⟩
  | true=>
   cases hx with
   | true=>exact ⟨_,_,_,heN _,fun w B hT=>af_hex hs hsp hr hT⟩
   | false=>
    by_cases h0:m=0
    ·exact ⟨_,_,0,by decide,fun w B hT=>af_zero hs hsp hr h0 hT⟩
    ·by_cases h1:310<x
     ·exact ⟨_,_,1,by decide,fun w B hT=>af_big hs hsp hr h0 h1 hT⟩
     ·by_cases h2:x < -345
      ·exact ⟨_,_,0,by decide,fun w B hT=>af_small hs hsp hr h0 h2 hT⟩
      ·have h12:-345≤x∧x≤310:=by omega
       cases tr with
       | false=>
        cases he:exactR m x ng with
        | some f=>exact ⟨_,_,0,by decide,fun w B hT=>af_exact hs hsp hr h0 h12 he hT⟩
        | none=>exact ⟨_,_,_,heN _,fun w B hT=>af_fast hs hsp hr h0 h12 he hT⟩
       | true=>
        cases hc:(FloatKind.f64.format.order (pfR m x (sgnU ng)).1 (pfR (IntKind.u64.wrap (m+1)) x (sgnU ng)).1==some .eq) with
        | true=>exact ⟨_,_,_,heN _,fun w B hT=>af_near hs hsp hr h0 h12 hT hc⟩
        | false=>
         have hsl:(s.extract 0 i).size≤800:=by rw [ByteArray.size_extract];omega
         cases hset:setR (s.extract 0 i) with
         | none=>exact ⟨_,_,2,by decide,fun w B hT=>af_slow_no hs hsp hr h0 h12 hT hc hset⟩
         | some D=>
          obtain ⟨v,ov,hfb⟩:=floatBits_det D (sgN (s.extract 0 i) 0) (setR_ok hsl hset)
          exact ⟨_,_,_,heN _,fun w B hT=>af_slow hs hsp hr h0 h12 hT hc hset hfb⟩
end Go.Proofs.YtkfggfjdplnkpaaGreatDoor
end
