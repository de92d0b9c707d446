/- A part of the proof that the law FnDecodeValues returns true; its conditions are those of the last part. -/
import Derived.Test.YtkfggfjdplnkpaaGreatDoorVClk
import Derived.Test.YtkfggfjdplnkpaaGreatDoorVNv
import Derived.Test.YtkfggfjdplnkpaaGreatDoorVWLast
import Derived.Test.YtkfggfjdplnkpaaGreatDoorVNvb
set_option maxRecDepth 100000
set_option linter.unusedVariables false
set_option linter.unusedSimpArgs false
section
namespace Go.Proofs.YtkfggfjdplnkpaaGreatDoor
open Go Go.RowKit Go.Proofs.YtkfggfjdplnkpaaGreatDoorW.PrintLast
inductive TN where
 | ok (n:Int)
 | bad (out:Bool)
def tmN (k:Nat) (L:List UInt8):TN:=match Lib.parseIntB 64 L with
 | .ok x=>if (asN k x).2=true then .ok (asN k x).1 else .bad true
 | .range=>.bad true
 | _=>.bad false
theorem pib_range {L:List UInt8} {x:Int} (h:Lib.parseIntB 64 L=.ok x):-9223372036854775808≤x∧x≤9223372036854775807:=by
 unfold Lib.parseIntB at h
 split at h
 ·cases h
 ·dsimp only at h
  split at h
  ·cases h
  ·cases h
  ·next u hu=>
   split at h
   ·cases h
   ·next h1=>
    split at h
    ·cases h
    ·next h2=>
     injection h with h
     have e:2 ^ (64-1)=9223372036854775808:=by decide
     rw [e] at h1 h2
     split at h
     ·next hn=>have:=fun q=>h2 ⟨hn,q⟩;omega
     ·next hn=>have:=fun q=>h1 ⟨hn,q⟩;omega
theorem asN_range {k:Nat} {x:Int} (h1:-9223372036854775808≤x) (h2:x≤9223372036854775807):-9223372036854775808≤(asN k x).1∧(asN k x).1≤9223372036854775807:=by
 unfold asN
 split
 ·exact ⟨h1,h2⟩
 ·split
  ·show -9223372036854775808≤wrap64 _∧wrap64 _≤9223372036854775807
   unfold wrap64
   omega
  ·show (-9223372036854775808:Int)≤0∧(0:Int)≤9223372036854775807
   omega
def ErrB (w:World) (B:Nat) (aO:Addr) (out:Bool) (ev:Value):Prop:=∃ q:Addr,ev=.iface 167 (.pointer (some q))∧(out=true→q=aO)∧(out=false→Fre w B q.block)
def TmR (w:World) (B:Nat) (aO:Addr) (k:Nat) (s0:Int) (n0:Nat) (s:Int) (n:Nat) (ev:Value):Res (List UInt8)→Prop
 | .flt f=>s=0∧n=0∧Flted w B f ev
 | .non=>ev=.nilIface∧s=s0∧n=n0-n0 % tkN9 k
 | .got L=>match tmN k L with
  | .ok x=>ev=.nilIface∧s=unS x∧n=unN x
  | .bad out=>s=0∧n=0∧ErrB w B aO out ev
def TmPost (w:World) (B:Nat) (aO:Addr) (g:Nat) (T:List UInt8) (C:Cn) (k:Nat) (s0:Int) (n0:Nat) (r:PS × Res (List UInt8)) (e:Ending) (w':World):Prop:=
 ∃ A' C' s n ev,e=.returned (.tuple #[tmV s n,ev])∧Rep w' B g T A' C'∧Pas g w C w' C'∧Is T A' r.1 false∧TmR w' B aO k s0 n0 s n ev r.2
structure Tq (W:World) (q:Nat) (s:Int) (n:Nat):Prop where
 d:TmB W q s n
 r:W.heap[q+1]?=some (.cells #[.int .u64 0,.int .i64 0,.pointer none] 132 (0,0))
theorem timeP_got {T:List UInt8} {s s2:PS} {L:List UInt8} (h:timeP T s=(s2,.got L)):L.length≤T.length:=by
 unfold timeP at h
 dsimp only at h
 have hr:=run_len_le (inSet 10) (T.drop s.at_)
 have hd:(T.drop s.at_).length≤T.length:=by rw [List.length_drop];omega
 have fin:∀ {v:List UInt8},v.length≤T.length→(if v=[] then (Res.non:Res (List UInt8)) else .got v)=.got L→L.length≤T.length:=by
  intro v hv hx
  split at hx
  ·cases hx
  ·injection hx with hx;rw [←hx];exact hv
 split at h
 ·split at h
  ·split at h
   ·split at h
    ·injection h with _ h;exact fin (by omega) h
    ·injection h with _ h;cases h
   ·injection h with _ h;cases h
  ·injection h with _ h;exact fin (by omega) h
 ·injection h with _ h;cases h
theorem timeF_len {T:List UInt8} {s s2:PS} {L:List UInt8} (h:timeF T s=(s2,.got L)):L.length≤T.length:=by
 unfold timeF at h
 cases hf:(advP T 3 s).2 with
 | some f=>rw [hf] at h;injection h with _ h;cases h
 | none=>rw [hf] at h;exact timeP_got h
theorem Tq.start (w:World) {s:Int} {n:Nat} (hn:n<1000000000) (h1:-4611686018427387904≤s) (h2:s≤4611686018427387904):Tq (addW w s n) w.heap.size s n:=⟨(Two.start w hn h1 h2).t,(Two.start w hn h1 h2).r⟩
theorem Tq.below {W W2:World} {q:Nat} {s:Int} {n:Nat} (h:Tq W q s n) (hb:Below W.heap.size W W2):Tq W2 q s n:=
 ⟨⟨(hb.block _ (blk_lt h.d.blk)).trans h.d.blk,h.d.n9,h.d.s1,h.d.s2⟩,(hb.block _ (blk_lt h.r)).trans h.r⟩
theorem Tq.step {w w':World} {B g q:Nat} {T:List UInt8} {A:Ab} {C C':Cn} {s:Int} {n:Nat} (h:Tq w q s n) (hr:Rep w B g T A C) (hp:Pas g w C w' C'):Tq w' q s n:=
 ⟨⟨(hp.only.block q (blk_lt h.d.blk) (hr.not_own h.d.blk (by decide))).trans h.d.blk,h.d.n9,h.d.s1,h.d.s2⟩,(hp.only.block (q+1) (blk_lt h.r) (hr.not_own h.r (by decide))).trans h.r⟩
theorem Tq.facts {W:World} {q:Nat} {s:Int} {n:Nat} (h:Tq W q s n):W.cell? ⟨q,0,none⟩=some (.int .u64 (n:Int))∧W.cell? ⟨q,1,none⟩=some (.int .i64 s)∧W.cell? ⟨q,2,none⟩=some (.pointer none)∧
  W.cell? ⟨q+1,0,none⟩=some (.int .u64 0)∧W.cell? ⟨q+1,1,none⟩=some (.int .i64 0)∧W.cell? ⟨q+1,2,none⟩=some (.pointer none)∧
  W.frozen? ⟨q+1,0,none⟩=false∧W.frozen? ⟨q+1,1,none⟩=false∧W.frozen? ⟨q+1,2,none⟩=false:=
 ⟨blk_cell h.d.blk 0,blk_cell h.d.blk 1,blk_cell h.d.blk 2,blk_cell h.r 0,blk_cell h.r 1,blk_cell h.r 2,blk_frozen h.r 0,blk_frozen h.r 1,blk_frozen h.r 2⟩
def put3 (W:World) (q:Nat) (a b c:Value):World:=((W.setCell ⟨q,0,none⟩ a).setCell ⟨q,1,none⟩ b).setCell ⟨q,2,none⟩ c
theorem put3_only (W:World) (q:Nat) (a b c:Value):Only (fun k=>k=q) W (put3 W q a b c):=
 (((Only.refl (fun k=>k=q) W).setCell (p:=⟨q,0,none⟩) (.inl rfl) a).setCell (p:=⟨q,1,none⟩) (.inl rfl) b).setCell (p:=⟨q,2,none⟩) (.inl rfl) c
theorem put3_blk {W:World} {q:Nat} (h:W.heap[q]?=some (.cells #[.int .u64 0,.int .i64 0,.pointer none] 132 (0,0))) (a b c:Value):(put3 W q a b c).heap[q]?=some (.cells #[a,b,c] 132 (0,0)):=
 blk_set (blk_set (blk_set h 0 a) 1 b) 2 c
theorem At.aside {wI w0 w w':World} {C0 C:Cn} {B g q:Nat} {T:List UInt8} {sk:Bool} {p f k:Nat} {A:Ab} (h:At wI w0 C0 B g T sk w p f k A C) (hq:¬Own g C q) (hB:w0.heap.size≤q) (hBB:B≤q) (ho:Only (fun k=>k=q) w w'):At wI w0 C0 B g T sk w' p f k A C:=
 ⟨h.rep.aside hq hBB ho,⟨h.pas.only.trans ho (fun k hk=>.inr (by rw [hk];exact hB)),h.pas.own⟩,h.is,h.low.trans (fun k hk=>ho.block k (by have:=h.base;omega) (fun e=>by omega))⟩
theorem Flted.aside {w w':World} {B q:Nat} {f:Flt} {ev:Value} {cs:Array Value} (h:Flted w B f ev) (hq:w.heap[q]?=some (.cells cs 132 (0,0))) (ho:Only (fun k=>k=q) w w'):Flted w' B f ev:=by
 obtain ⟨z,z2,h1,h2,h3,c,h4⟩:=h
 exact ⟨z,z2,h1,(ho.block z (blk_lt h2) (blk_type h2 hq (by decide))).trans h2,h3,c,(ho.block z2 (blk_lt h4) (blk_type h4 hq (by decide))).trans h4⟩
theorem ErrB.aside {w w':World} {B:Nat} {aO:Addr} {q:Nat} {out:Bool} {ev:Value} {cs:Array Value} (h:ErrB w B aO out ev) (hq:w.heap[q]?=some (.cells cs 132 (0,0))) (ho:Only (fun k=>k=q) w w'):ErrB w' B aO out ev:=by
 obtain ⟨z,h1,h2,h3⟩:=h
 refine ⟨z,h1,h2,fun e=>?_⟩
 obtain ⟨h4,c,h5⟩:=h3 e
 exact ⟨h4,c,(ho.block z.block (blk_lt h5) (blk_type h5 hq (by decide))).trans h5⟩
theorem TmR.aside {w w':World} {B:Nat} {aO:Addr} {k q:Nat} {s0 s:Int} {n0 n:Nat} {ev:Value} {cs:Array Value} {r:Res (List UInt8)} (h:TmR w B aO k s0 n0 s n ev r) (hq:w.heap[q]?=some (.cells cs 132 (0,0))) (ho:Only (fun k=>k=q) w w'):TmR w' B aO k s0 n0 s n ev r:=by
 cases r with
 | flt f=>exact ⟨h.1,h.2.1,h.2.2.aside hq ho⟩
 | non=>exact h
 | got L=>
  show (match tmN k L with | .ok x=>ev=.nilIface∧s=unS x∧n=unN x | .bad out=>s=0∧n=0∧ErrB w' B aO out ev)
  have h':(match tmN k L with | .ok x=>ev=.nilIface∧s=unS x∧n=unN x | .bad out=>s=0∧n=0∧ErrB w B aO out ev):=h
  revert h'
  cases tmN k L with
  | ok x=>exact id
  | bad out=>exact fun h=>⟨h.1,h.2.1,h.2.2.aside hq ho⟩
theorem tm_end {wI w0 w:World} {C0 C:Cn} {B:Nat} {aO:Addr} {g q:Nat} {T:List UInt8} {p f k kk:Nat} {A:Ab} {s0 s d:Int} {n0 n m:Nat} {ev:Value} {r:Res (List UInt8)} (h:At wI w0 C0 B g T false w p f k A C) (hq:Tq w q d m) (hB:w0.heap.size≤q) (hBB:B≤q)
  (hr:TmR w B aO kk s0 n0 s n ev r):TmPost w0 B aO g T C0 kk s0 n0 (⟨p,f,k⟩,r) (.returned (.tuple #[.agg #[.int .u64 (n:Int),.int .i64 s,.pointer none],ev])) (put3 w (q+1) (.int .u64 (n:Int)) (.int .i64 s) (.pointer none)):=by
 have h2:=h.aside (h.rep.not_own hq.r (by decide)) (by omega) (by omega) (put3_only w (q+1) (.int .u64 (n:Int)) (.int .i64 s) (.pointer none))
 exact ⟨A,C,s,n,ev,rfl,h2.rep,h2.pas,h2.is,hr.aside hq.r (put3_only _ _ _ _ _)⟩
set_option maxHeartbeats 4000000 in
theorem time_spec {wI w:World} {C:Cn} {B g:Nat} {aR aS aO:Addr} {T:List UInt8} {p f k:Nat} {A:Ab} (kk:Nat) (hk:kk≤3) {s0:Int} {n0:Nat} (hn:n0<1000000000) (h1:0≤s0) (h2:s0≤400000000000) (hI:Init wI B) (hV:EV wI B aR aS aO) (hT8:T.length≤800) (h:At wI w C B g T false w p f k A C) :
  Calls Tryz.prog 72 #[.pointer (some ⟨g,0,none⟩),.int .u8 (kk:Int),tmV s0 n0] w (TmPost w B aO g T C kk s0 n0 (timeF T ⟨p,f,k⟩)):=by
 have HI:=Lib.hid hI
 have HV:=Lib.hid hV
 have hb:Below w.heap.size w (addW w s0 n0):=(Two.start w hn (s:=s0) (by omega) (by omega)).b
 have hx:=h.below hb
 have hq:=Tq.start w hn (s:=s0) (by omega) (by omega)
 have hfresh:At wI (addW w s0 n0) C B g T false (addW w s0 n0) p f k A C:=⟨hx.to_.rep,Pas.refl _ _ _,hx.to_.is,hx.to_.low⟩
 have HTM:=Lib.hid (time_full hI hfresh)
 have H1:=Lib.hid hx.to_
 obtain ⟨q,hqq⟩:∃ q,w.heap.size=q:=⟨_,rfl⟩
 have HW:=Lib.hid (show w.heap.size≤q by omega)
 have HB:=Lib.hid (show B≤q by have:=h.base;omega)
 rw [hqq] at hq
 have Q0:=Lib.hid hq
 obtain ⟨⟨⟨p1,f1,k1⟩,r⟩,hr⟩:∃ r,timeF T ⟨p,f,k⟩=r:=⟨_,rfl⟩
 rw [hr] at HTM ⊢
 have HL:Hid (∀ L,r=.got L→L.length≤800):=Lib.hid (fun L hL=>by
  rw [hL] at hr
  exact Nat.le_trans (timeF_len hr) hT8)
 have HTR:=Lib.hid (fun W=>trunc_spec (w:=W) kk hk hn h1 h2)
 have HDU:=Lib.hid (fun W=>dur_spec (w:=W) kk hk)
 have HKK:=Lib.hid hk
 clear hI hV hb hx hfresh hq hr h h1 h2 hn hk hT8
 unfold tmV
 go_enter Tryz.func72,Tryz.ntmps72
 go_wp2_with fail
 refine HTM.out.mono ?_
 clear HTM
 rintro ex w2 ⟨A1,C1,v,ev,rfl,hr1,hpa1,his1,hres⟩
 have AT:=Lib.hid (H1.out.call hr1 hpa1 his1)
 have Q:=Lib.hid (Q0.out.step H1.out.rep hpa1)
 clear hr1 hpa1 his1 H1 Q0
 cases r with
 | flt fl=>
  obtain ⟨rfl,hf⟩:=hres
  have HF:=Lib.hid hf
  obtain ⟨qe,q2e,rfl,hf2,hf3⟩:=hf
  clear hf2 hf3
  obtain ⟨k0,k1',k2,r0,r1,r2,g0,g1,g2⟩:=Q.out.facts
  go_wp2_with fail
  refine bodyPost_ret (res_ct rfl _ _ (q+1) 132 #[.int .u64 0,.int .i64 0,.pointer none] (0,0) rfl (put3_blk Q.out.r _ _ _) Tryz.underlying132 (by kernel_rfl)) rfl ?_
  exact tm_end (n:=0) (s:=0) AT.out Q.out HW.out HB.out ⟨rfl,rfl,HF.out⟩
 | non=>
  obtain ⟨rfl,rfl⟩:=hres
  have hnil:=Lib.run_eql_slice_nil (P:=Tryz.prog) w2 54 5 none 0 0 0 0 Tryz.underlying54
  have HQL:=blk_lt Q.out.d.blk
  obtain ⟨u,hu⟩:∃ u,tkN9 kk=u:=⟨_,rfl⟩
  have hu2:10 ^ (3*kk)=u:=hu
  rw [hu] at HTR
  rw [hu2] at HDU
  obtain ⟨m,hm⟩:∃ m,n0-n0 % u=m:=⟨_,rfl⟩
  rw [hm] at HTR
  have HM:=Lib.hid (show m=n0-n0 % tkN9 kk by rw [hu,hm])
  unfold tmV at HTR
  clear hu hu2 hm
  obtain ⟨k0,k1',k2,r0,r1,r2,g0,g1,g2⟩:=Q.out.facts
  go_wp2_with fail
  refine start_ (n:=6) (S:=fun w'=>Below (w2).heap.size (w2) w') (ds:=[4]) (bA 6 0) (by kernel_rfl) rfl rfl (Below.refl _ _).drew (fun _=>?_)
  refine take_ (i:=0) (N:=some 24) (v:=?_) (a':=?_) (bA 6 1) rfl rfl (by kernel_rfl) (fun _ _ _ h=>h) (Or.inl ⟨by rfl,?_⟩) (Below.refl _ _).drew ?_ ?_
  rotate_left
  ·intro w' hS;have d0:=(hS.cell (p:=⟨q,0,none⟩) HQL).trans k0;have d1:=(hS.cell (p:=⟨q,1,none⟩) HQL).trans k1';have d2:=(hS.cell (p:=⟨q,2,none⟩) HQL).trans k2;go_simp;with_reducible rfl
  rotate_left
  ·simp only [Act.put,aA,aB,aC];rfl
  refine pure_ (i:=1) (N:=some 25) (v:=?_) (a':=?_) (bA 6 3) rfl rfl (by kernel_rfl) (fun _ _ _ h=>h) (Or.inl ⟨by rfl,?_⟩) ?_ ?_
  rotate_left
  ·intro w';go_simp;with_reducible rfl
  rotate_left
  ·simp only [Act.put,aA,aB,aC];rfl
  refine one_ (i:=2) (N:=some 26) (bA 6 7) rfl rfl (by kernel_rfl) (by decide) (fun K hK=>?_)
  refine call_ 114 #[.int .u8 (kk:Int)] (by rfl) rfl (by go_simp) ?_
  refine (HDU.out _).mono ?_
  rintro e wn ⟨rfl,rfl⟩
  refine ⟨_,rfl,hK.out _ _ (Below.refl _ _).drew (fun _=>?_)⟩
  clear hK K
  refine one_ (i:=3) (N:=some 27) (bA 6 15) rfl rfl (by kernel_rfl) (by decide) (fun K hK=>?_)
  refine call_ 113 #[.agg #[.int .u64 (n0:Int),.int .i64 s0,.pointer none],.int .i64 (u:Int)] (by rfl) rfl (by go_simp) ?_
  refine (HTR.out _).mono ?_
  rintro e w3 ⟨he,hb⟩
  unfold tmV at he
  subst he
  have hb3:Below (w2).heap.size (w2) w3:=(Below.refl _ _).drew.trans hb
  refine ⟨_,rfl,hK.out _ _ hb3 (fun _=>?_)⟩
  clear hK K k0 k1' k2 r0 r1 r2 g0 g1 g2
  have Q3:=Lib.hid (Q.out.below hb3)
  have AT3:=Lib.hid (AT.out.below hb3).to_
  obtain ⟨k0,k1',k2,r0,r1,r2,g0,g1,g2⟩:=Q3.out.facts
  refine last_ (i:=4) (N:=none) (bA 6 31) rfl rfl (by kernel_rfl) (by decide) (fun K hK=>?_)
  refine skip_ (w1:=?_) (by rfl) rfl ?_ ?_
  rotate_left
  ·go_simp
   rfl
  refine hK.out _ _ ?_
  clear hK K
  refine pure_ (i:=5) (N:=some 7) (v:=?_) (a':=?_) (bA 6 63) rfl rfl (by kernel_rfl) (fun _ _ _ h=>h) (Or.inl ⟨by rfl,?_⟩) ?_ ?_
  rotate_left
  ·intro w';go_simp;with_reducible rfl
  rotate_left
  ·simp only [Act.put,aA,aB,aC];rfl
  refine done_ (by kernel_rfl) ?_
  go_wp2_with fail
  refine bodyPost_ret (res_ct rfl _ _ (q+1) 132 #[.int .u64 (m:Int),.int .i64 s0,.pointer none] (0,0) rfl (put3_blk Q3.out.r _ _ _) Tryz.underlying132 (by kernel_rfl)) rfl ?_
  exact tm_end (n:=m) (s:=s0) AT3.out Q3.out HW.out HB.out ⟨rfl,rfl,HM.out⟩
 | got L=>
  obtain ⟨htk,hne,rfl⟩:=hres
  have hlen:=HL.out L rfl
  have htk':=htk
  obtain ⟨kb,ko,kcap,hkv,_,_⟩:=htk'.cells hne
  subst hkv
  have hnil:=Lib.run_eql_slice_nil (P:=Tryz.prog) w2 54 5 (some ⟨kb,ko,none⟩) L.length kcap 0 0 Tryz.underlying54
  have V2:=Lib.hid (HV.out.low AT.out.low AT.out.base)
  have HP:=Lib.hid (pib_spec hlen V2.out htk.tb)
  obtain ⟨pr,hpr⟩:∃ r,Lib.parseIntB 64 L=r:=⟨_,rfl⟩
  have HPR:=Lib.hid hpr
  rw [hpr] at HP
  clear hlen htk htk' hne hpr
  go_wp2_with fail
  refine HP.out.mono ?_
  clear HP hnil
  cases pr with
  | ok x=>
   obtain ⟨hx1,hx2⟩:=pib_range HPR.out
   obtain ⟨hy1,hy2⟩:=asN_range (k:=kk) hx1 hx2
   have HA:=Lib.hid (fun W=>asNano_spec (w:=W) kk HKK.out x hx1 hx2)
   obtain ⟨⟨y,b⟩,hyb⟩:∃ r,asN kk x=r:=⟨_,rfl⟩
   have HT:Hid (tmN kk L=if b=true then .ok y else .bad true):=Lib.hid (by unfold tmN;rw [HPR.out];show (if (asN kk x).2=true then _ else _)=_;rw [hyb])
   rw [hyb] at HA hy1 hy2
   have HU:=Lib.hid (fun W=>unix_spec (w:=W) (ns:=y) hy1 hy2)
   unfold tmV at HU
   clear hx1 hx2 hy1 hy2 hyb
   rintro ex w3 ⟨v3,⟨ev,rfl,hb3,(⟨he,rfl⟩ | ⟨he,_⟩ | ⟨he,_⟩)⟩,hv3⟩
   ·obtain rfl:=hv3 rfl
    have Q3:=Lib.hid (Q.out.below hb3)
    have AT3:=Lib.hid (AT.out.below hb3).to_
    clear he hv3
    cases b with
    | true=>
     have HT2:=Lib.hid (HT.out.trans (if_pos rfl))
     go_wp2_with fail
     refine (HA.out _).mono ?_
     rintro ex w4 ⟨rfl,rfl⟩
     go_wp2_with fail
     refine (HU.out _).mono ?_
     rintro ex w5 ⟨he,hb⟩
     unfold tmV at he
     subst he
     have Q5:=Lib.hid (Q3.out.below hb)
     have AT5:=Lib.hid (AT3.out.below hb).to_
     clear hb HA HU HT
     obtain ⟨k0,k1',k2,r0,r1,r2,g0,g1,g2⟩:=Q5.out.facts
     go_wp2_with fail
     refine bodyPost_ret (res_ct rfl _ _ (q+1) 132 #[.int .u64 (unN y:Int),.int .i64 (unS y),.pointer none] (0,0) rfl (put3_blk Q5.out.r _ _ _) Tryz.underlying132 (by kernel_rfl)) rfl ?_
     exact tm_end (n:=unN y) (s:=unS y) AT5.out Q5.out HW.out HB.out (by show (match tmN kk L with | .ok x=>_ | .bad out=>_);rw [HT2.out];exact ⟨rfl,rfl,rfl⟩)
    | false=>
     have HT2:=Lib.hid (HT.out.trans (if_neg (by decide)))
     have hV3:=V2.out.below hb3
     have c0:=hV3.out
     have HBL:=block_lt_of_cell c0
     clear hV3 hb3
     go_wp2_with fail
     refine (HA.out _).mono ?_
     rintro ex w4 ⟨rfl,rfl⟩
     clear HA HU HT
     obtain ⟨k0,k1',k2,r0,r1,r2,g0,g1,g2⟩:=Q3.out.facts
     go_wp2_with fail
     refine start_ (n:=4) (S:=fun w'=>w'.cell? ⟨0,0,none⟩=some (.iface 167 (.pointer (some aO)))) (ds:=[]) (bA 4 0) (by kernel_rfl) rfl rfl c0 (fun _=>?_)
     refine take_ (i:=0) (N:=some 46) (v:=?_) (a':=?_) (bA 4 1) rfl rfl (by kernel_rfl) (fun _ _ _ h=>h) (Or.inl ⟨by rfl,?_⟩) c0 ?_ ?_
     rotate_left
     ·intro w' hS;go_simp;with_reducible rfl
     rotate_left
     ·simp only [Act.put,aA,aB,aC];rfl
     refine take_ (i:=1) (N:=some 47) (v:=?_) (a':=?_) (bA 4 3) rfl rfl (by kernel_rfl) (fun _ _ _ h=>h) (Or.inl ⟨by rfl,?_⟩) c0 ?_ ?_
     rotate_left
     ·intro w' hS;go_simp;with_reducible rfl
     rotate_left
     ·simp only [Act.put,aA,aB,aC];rfl
     refine one_ (i:=2) (N:=none) (bA 4 7) rfl rfl (by kernel_rfl) (by decide) (fun K hK=>?_)
     refine skip_ (w1:=?_) (by rfl) rfl ?_ ?_
     rotate_left
     ·go_simp
      rfl
     refine hK.out _ _ ((cell_set_ne (q:=0) ⟨q+1,2,none⟩ _ 0 (by show (0:Nat)≠q+1;omega)).trans ((cell_set_ne (q:=0) ⟨q+1,1,none⟩ _ 0 (by show (0:Nat)≠q+1;omega)).trans ((cell_set_ne (q:=0) ⟨q+1,0,none⟩ _ 0 (by show (0:Nat)≠q+1;omega)).trans c0))) (fun _=>?_)
     clear hK K
     refine pure_ (i:=3) (N:=some 7) (v:=?_) (a':=?_) (bA 4 15) rfl rfl (by kernel_rfl) (fun _ _ _ h=>h) (Or.inl ⟨by rfl,?_⟩) ?_ ?_
     rotate_left
     ·intro w';go_simp;with_reducible rfl
     rotate_left
     ·simp only [Act.put,aA,aB,aC];rfl
     refine done_ (by kernel_rfl) ?_
     go_wp2_with fail
     have Q5:=Lib.hid (Q3.out.below (Below.refl _ _).drew)
     have AT5:=Lib.hid (AT3.out.drew).to_
     show bodyPost Tryz.prog Tryz.f72 _ _ _ (put3 w4.drew (q+1) (.int .u64 0) (.int .i64 0) (.pointer none))
     refine bodyPost_ret (res_ct rfl _ _ (q+1) 132 #[.int .u64 0,.int .i64 0,.pointer none] (0,0) rfl (put3_blk Q5.out.r _ _ _) Tryz.underlying132 (by kernel_rfl)) rfl ?_
     exact tm_end (n:=0) (s:=0) AT5.out Q5.out HW.out HB.out (by show (match tmN kk L with | .ok x=>_ | .bad out=>_);rw [HT2.out];exact ⟨rfl,rfl,aO,rfl,fun _=>rfl,fun h=>by cases h⟩)
   ·cases he
   ·cases he
  | range=>
   have HT2:Hid (tmN kk L=.bad true):=Lib.hid (by unfold tmN;rw [HPR.out])
   rintro ex w3 ⟨v3,⟨ev,rfl,hb3,(⟨he,rfl⟩ | ⟨he,hN⟩ | ⟨he,hN⟩)⟩,hv3⟩
   ·cases he
   ·obtain ⟨N,fn,sx,rfl,h2,h3⟩:=hN
    have V3:=Lib.hid (V2.out.below hb3)
    have Q3:=Lib.hid (Q.out.below hb3)
    have AT3:=Lib.hid (AT.out.below hb3).to_
    have HN:=Lib.hid h3
    clear hb3 he hv3 h2 h3
    go_wp2_with fail
    refine (mor_range V3.out (fn:=_) (s:=_) HN.out).mono ?_
    rintro ex w4 ⟨ev2,rfl,g1,qq,rfl,g3,g4,g5⟩
    have Q4:=Lib.hid (Q3.out.below g1)
    have AT4:=Lib.hid (AT3.out.below g1).to_
    have HE:Hid (ErrB w4 B aO true (.iface 167 (.pointer (some qq)))):=Lib.hid ⟨qq,rfl,g3,fun e=>⟨Nat.le_trans AT3.out.base (g4 e).1,(g4 e).2.2⟩⟩
    clear g1 g3 g4 g5 HN
    obtain ⟨k0,k1',k2,r0,r1,r2,g0,g1,g2⟩:=Q4.out.facts
    go_wp2_with fail
    refine bodyPost_ret (res_ct rfl _ _ (q+1) 132 #[.int .u64 0,.int .i64 0,.pointer none] (0,0) rfl (put3_blk Q4.out.r _ _ _) Tryz.underlying132 (by kernel_rfl)) rfl ?_
    exact tm_end (n:=0) (s:=0) AT4.out Q4.out HW.out HB.out (by show (match tmN kk L with | .ok x=>_ | .bad out=>_);rw [HT2.out];exact ⟨rfl,rfl,HE.out⟩)
   ·cases he
  | _=>
   have HT2:Hid (tmN kk L=.bad false):=Lib.hid (by unfold tmN;rw [HPR.out])
   rintro ex w3 ⟨v3,⟨ev,rfl,hb3,(⟨he,rfl⟩ | ⟨he,hN⟩ | ⟨he,hN⟩)⟩,hv3⟩
   ·cases he
   ·cases he
   ·obtain ⟨N,fn,sx,rfl,h2,h3⟩:=hN
    have V3:=Lib.hid (V2.out.below hb3)
    have Q3:=Lib.hid (Q.out.below hb3)
    have AT3:=Lib.hid (AT.out.below hb3).to_
    have HN:=Lib.hid h3
    clear hb3 he hv3 h2 h3
    go_wp2_with fail
    refine (mor_syntax V3.out (fn:=_) (s:=_) HN.out).mono ?_
    rintro ex w4 ⟨ev2,rfl,g1,qq,rfl,g3,g4,g5⟩
    have Q4:=Lib.hid (Q3.out.below g1)
    have AT4:=Lib.hid (AT3.out.below g1).to_
    have HE:Hid (ErrB w4 B aO false (.iface 167 (.pointer (some qq)))):=Lib.hid ⟨qq,rfl,g3,fun e=>⟨Nat.le_trans AT3.out.base (g4 e).1,(g4 e).2.2⟩⟩
    clear g1 g3 g4 g5 HN
    obtain ⟨k0,k1',k2,r0,r1,r2,g0,g1,g2⟩:=Q4.out.facts
    go_wp2_with fail
    refine bodyPost_ret (res_ct rfl _ _ (q+1) 132 #[.int .u64 0,.int .i64 0,.pointer none] (0,0) rfl (put3_blk Q4.out.r _ _ _) Tryz.underlying132 (by kernel_rfl)) rfl ?_
    exact tm_end (n:=0) (s:=0) AT4.out Q4.out HW.out HB.out (by show (match tmN kk L with | .ok x=>_ | .bad out=>_);rw [HT2.out];exact ⟨rfl,rfl,HE.out⟩)
def DtR (w:World) (B:Nat) (aO:Addr) (k:Nat) (d n:Int) (ev:Value):Res (List UInt8)→Prop
 | .flt f=>n=0∧Flted w B f ev
 | .non=>ev=.nilIface∧n=wrap64 (d-d % (tkN9 k:Int))
 | .got L=>match tmN k L with
  | .ok x=>ev=.nilIface∧n=x
  | .bad out=>n=0∧ErrB w B aO out ev
def DtPost (w:World) (B:Nat) (aO:Addr) (g:Nat) (T:List UInt8) (C:Cn) (k:Nat) (d:Int) (r:PS × Res (List UInt8)) (e:Ending) (w':World):Prop:=
 ∃ A' C' n ev,e=.returned (.tuple #[.int .i64 n,ev])∧Rep w' B g T A' C'∧Pas g w C w' C'∧Is T A' r.1 false∧DtR w' B aO k d n ev r.2
theorem Flted.below {w w':World} {B:Nat} {f:Flt} {ev:Value} (h:Flted w B f ev) (hb:Below w.heap.size w w'):Flted w' B f ev:=by
 obtain ⟨z,z2,h1,h2,h3⟩:=h
 exact ⟨z,z2,h1,(hb.block z (blk_lt h2)).trans h2,h3.below hb⟩
theorem ErrB.below {w w':World} {B:Nat} {aO:Addr} {out:Bool} {ev:Value} (h:ErrB w B aO out ev) (hb:Below w.heap.size w w'):ErrB w' B aO out ev:=by
 obtain ⟨z,h1,h2,h3⟩:=h
 exact ⟨z,h1,h2,fun e=>(h3 e).below hb⟩
theorem un_id {x:Int} (h1:-9223372036854775808≤x) (h2:x≤9223372036854775807):wrap64 (wrap64 ((unS x+-62135596800)*1000000000)+(unN x:Int))=x:=by
 unfold wrap64 unS unN
 omega
theorem un_trunc {d:Int} (k:Nat) (hk:k≤3):wrap64 (wrap64 ((unS d+-62135596800)*1000000000)+((unN d-unN d % tkN9 k:Nat):Int))=wrap64 (d-d % (tkN9 k:Int)):=by
 match k,hk with
 | 0,_=>rw [show tkN9 0=1 from rfl];unfold wrap64 unS unN;omega
 | 1,_=>rw [show tkN9 1=1000 from rfl];unfold wrap64 unS unN;omega
 | 2,_=>rw [show tkN9 2=1000000 from rfl];unfold wrap64 unS unN;omega
 | 3,_=>rw [show tkN9 3=1000000000 from rfl];unfold wrap64 unS unN;omega
theorem un_range {x:Int} (h1:-9223372036854775808≤x) (h2:x≤9223372036854775807):unN x<1000000000∧0≤unS x∧unS x≤400000000000:=by
 unfold unS unN
 omega
theorem tmN_range {k:Nat} {L:List UInt8} {x:Int} (h:tmN k L=.ok x):-9223372036854775808≤x∧x≤9223372036854775807:=by
 unfold tmN at h
 cases hp:Lib.parseIntB 64 L with
 | ok y=>
  obtain ⟨h1,h2⟩:=pib_range hp
  rw [hp] at h
  dsimp only at h
  split at h
  ·injection h with h;rw [←h];exact asN_range h1 h2
  ·cases h
 | range=>rw [hp] at h;cases h
 | _=>rw [hp] at h;cases h
theorem tm_range {w:World} {B:Nat} {aO:Addr} {k:Nat} {s0 s:Int} {n0 n:Nat} {ev:Value} {r:Res (List UInt8)} (h:TmR w B aO k s0 n0 s n ev r) (h0:n0<1000000000∧0≤s0∧s0≤400000000000):n<1000000000∧0≤s∧s≤400000000000:=by
 cases r with
 | flt f=>obtain ⟨rfl,rfl,_⟩:=h;omega
 | non=>obtain ⟨_,rfl,rfl⟩:=h;exact ⟨by omega,h0.2⟩
 | got L=>
  have h':(match tmN k L with | .ok x=>ev=.nilIface∧s=unS x∧n=unN x | .bad out=>s=0∧n=0∧ErrB w B aO out ev):=h
  cases ht:tmN k L with
  | ok x=>
   rw [ht] at h'
   obtain ⟨_,rfl,rfl⟩:=h'
   exact un_range (tmN_range ht).1 (tmN_range ht).2
  | bad out=>
   rw [ht] at h'
   obtain ⟨rfl,rfl,_⟩:=h'
   omega
theorem tm_ends {w:World} {B:Nat} {aO:Addr} {k:Nat} {d s:Int} {n:Nat} {ev:Value} {r:Res (List UInt8)} (hk:k≤3) (h:TmR w B aO k (unS d) (unN d) s n ev r) :
  (ev=.nilIface∧DtR w B aO k d (wrap64 (wrap64 ((s+-62135596800)*1000000000)+(n:Int))) ev r)∨(∃ t v,(t=121∨t=167)∧ev=.iface t v)∧DtR w B aO k d 0 ev r:=by
 cases r with
 | flt f=>
  obtain ⟨_,_,h⟩:=h
  have h2:=h
  obtain ⟨z,z2,rfl,_⟩:=h2
  exact .inr ⟨⟨_,_,.inl rfl,rfl⟩,rfl,h⟩
 | non=>obtain ⟨rfl,rfl,rfl⟩:=h;exact .inl ⟨rfl,rfl,un_trunc k hk⟩
 | got L=>
  have h':(match tmN k L with | .ok x=>ev=.nilIface∧s=unS x∧n=unN x | .bad out=>s=0∧n=0∧ErrB w B aO out ev):=h
  cases ht:tmN k L with
  | ok x=>
   rw [ht] at h'
   obtain ⟨rfl,rfl,rfl⟩:=h'
   obtain ⟨h1,h2⟩:=tmN_range ht
   refine .inl ⟨rfl,?_⟩
   show (match tmN k L with | .ok x=>_ | .bad out=>_)
   rw [ht]
   exact ⟨rfl,un_id h1 h2⟩
  | bad out=>
   rw [ht] at h'
   obtain ⟨_,_,h3⟩:=h'
   have h4:=h3
   obtain ⟨z,rfl,_⟩:=h4
   refine .inr ⟨⟨_,_,.inr rfl,rfl⟩,?_⟩
   show (match tmN k L with | .ok x=>_ | .bad out=>_)
   rw [ht]
   exact ⟨rfl,h3⟩
theorem DtR.below {w w':World} {B:Nat} {aO:Addr} {k:Nat} {d n:Int} {ev:Value} {r:Res (List UInt8)} (h:DtR w B aO k d n ev r) (hb:Below w.heap.size w w'):DtR w' B aO k d n ev r:=by
 cases r with
 | flt f=>exact ⟨h.1,h.2.below hb⟩
 | non=>exact h
 | got L=>
  have h':(match tmN k L with | .ok x=>ev=.nilIface∧n=x | .bad out=>n=0∧ErrB w B aO out ev):=h
  show (match tmN k L with | .ok x=>ev=.nilIface∧n=x | .bad out=>n=0∧ErrB w' B aO out ev)
  revert h'
  cases tmN k L with
  | ok x=>exact id
  | bad out=>exact fun h=>⟨h.1,h.2.below hb⟩
theorem dt_end {wI w0 w:World} {C0 C:Cn} {B:Nat} {aO:Addr} {g:Nat} {T:List UInt8} {p f k kk:Nat} {A:Ab} {d n m:Int} {ev:Value} {r:Res (List UInt8)} (h:At wI w0 C0 B g T false w p f k A C) (hr:DtR w B aO kk d n ev r) (e:m=n) :
  DtPost w0 B aO g T C0 kk d (⟨p,f,k⟩,r) (.returned (.tuple #[.int .i64 m,ev])) w:=by
 subst e
 exact ⟨A,C,_,ev,rfl,h.rep,h.pas,h.is,hr⟩
set_option maxHeartbeats 4000000 in
theorem door_spec {wI w:World} {C:Cn} {B g:Nat} {aR aS aO:Addr} {T:List UInt8} {p f k:Nat} {A:Ab} (kk:Nat) (hk:kk≤3) {d:Int} (hd1:-9223372036854775808≤d) (hd2:d≤9223372036854775807) (hI:Init wI B) (hV:EV wI B aR aS aO) (hT8:T.length≤800) (h:At wI w C B g T false w p f k A C) :
  Calls Tryz.prog 31 #[.pointer (some ⟨g,0,none⟩),.int .u8 (kk:Int),.int .i64 d] w (DtPost w B aO g T C kk d (timeF T ⟨p,f,k⟩)):=by
 have HUX:=Lib.hid (unix_spec (w:=w) (ns:=d) hd1 hd2)
 have hur:=un_range hd1 hd2
 have HTS:=Lib.hid (fun W A1 C1 (hat:At wI W C1 B g T false W p f k A1 C1)=>time_spec kk hk (s0:=unS d) (n0:=unN d) hur.1 hur.2.1 hur.2.2 hI hV hT8 hat)
 obtain ⟨⟨⟨p1,f1,k1⟩,r⟩,hr⟩:∃ r,timeF T ⟨p,f,k⟩=r:=⟨_,rfl⟩
 rw [hr] at HTS ⊢
 have H0:=Lib.hid h
 have HUR:=Lib.hid hur
 have HK:=Lib.hid hk
 unfold tmV at HTS
 clear hur hr h hI hV hT8 hd1 hd2 hk
 go_enter Tryz.func31,Tryz.ntmps31
 go_wp2_with fail
 refine HUX.out.mono ?_
 rintro e w1 ⟨he,hb⟩
 unfold tmV at he
 subst he
 have x1:=H0.out.below hb
 have HC:=Lib.hid (HTS.out w1 A C ⟨x1.to_.rep,Pas.refl _ _ _,x1.to_.is,x1.to_.low⟩)
 have AT1:=Lib.hid x1.to_
 clear x1 hb HUX HTS H0
 go_wp2_with fail
 refine HC.out.mono ?_
 clear HC
 rintro e w2 ⟨A1,C1,s,n,ev,he,hr1,hpa1,his1,hres⟩
 unfold tmV at he
 subst he
 have AT2:=Lib.hid (AT1.out.call hr1 hpa1 his1)
 obtain ⟨hn9,hs0,hs4⟩:=tm_range hres HUR.out
 have HUN:=Lib.hid (fun W=>unixNano_spec (w:=W) (n:=n) (s:=s) hn9 hs0 hs4)
 have TB:=TmB.alloc w2 hn9 (s:=s) (by omega) (by omega)
 have hbb:=(Below.refl w2.heap.size w2).alloc (Nat.le_refl _) (.cells #[.int .u64 (n:Int),.int .i64 s,.pointer none] 132)
 have AT3:=Lib.hid (AT2.out.below hbb).to_
 have HBB:=Lib.hid hbb
 have hends:=tm_ends HK.out hres
 clear hr1 hpa1 his1 hres hn9 hs0 hs4 TB hbb AT1
 unfold tmV at HUN
 rcases hends with ⟨rfl,hd⟩ | ⟨⟨t,v,ht,rfl⟩,hd⟩
 ·have HD:=Lib.hid hd
  clear hd
  go_wp2_with fail
  refine (HUN.out _).mono ?_
  rintro e w3 ⟨rfl,hb⟩
  have AT4:=Lib.hid (AT3.out.below hb).to_
  have HD4:=Lib.hid ((HD.out.below HBB.out).below hb)
  clear hb HD HUN
  go_wp2_with fail
  go_ret2
  exact dt_end AT4.out HD4.out rfl
 ·have HD:=Lib.hid (hd.below HBB.out)
  clear hd
  rcases ht with rfl | rfl
  ·go_wp2_with fail
   go_ret2
   exact dt_end AT3.out HD.out rfl
  ·go_wp2_with fail
   go_ret2
   exact dt_end AT3.out HD.out rfl
end Go.Proofs.YtkfggfjdplnkpaaGreatDoor
end
section
namespace Go.Proofs.YtkfggfjdplnkpaaGreatDoor
open Go Go.RowKit Go.Proofs.YtkfggfjdplnkpaaGreatDoorW.PrintLast
structure TD where
 some:Bool
 a:ByteArray
 b:ByteArray
 kind:Nat
 val:Vl
 n:Int
 is:Bool
 l:Int
 c:Int
 out:Bool
def tdC (sm:Bool) (a b:ByteArray) (k:Int) (vk:Int) (vs:ByteArray) (vn vu:Int) (vf:Nat) (vb:Bool) (n:Int) (is:Bool) (l c:Int) (out:Bool):Array Value:=
 #[.bool sm,.string a,.string b,.int .i64 k,.int .i64 vk,.string vs,.int .i64 vn,.int .u64 vu,.float .f64 vf,.bool vb,.int .i64 n,.bool is,.int .i64 l,.int .i64 c,.bool out]
def TD.cells (t:TD):Array Value:=tdC t.some t.a t.b (t.kind:Int) (t.val.kind:Int) t.val.s t.val.n t.val.u t.val.f t.val.b t.n t.is t.l t.c t.out
def zTD:TD:=⟨false,⟨#[]⟩,⟨#[]⟩,0,zVl,0,false,0,0,false⟩
structure Ask where
 op:Nat
 prec:Int
 d:Int
def tdFlt (f:Flt) (out:Bool):TD:={ zTD with is:=true,l:=(f.1:Int),c:=(f.2:Int),out:=out }
def tdN:Res (List UInt8)→TD
 | .flt f=>tdFlt f false
 | .non=>zTD
 | .got L=>{ zTD with some:=true,a:=sOf L }
def tdT:Res (List UInt8 × List UInt8)→TD
 | .flt f=>tdFlt f false
 | .non=>zTD
 | .got x=>{ zTD with some:=true,a:=sOf x.1,b:=sOf x.2 }
def tdF:Res (List UInt8 × Nat × List UInt8)→TD
 | .flt f=>tdFlt f false
 | .non=>zTD
 | .got x=>{ zTD with some:=true,a:=sOf x.1,b:=sOf x.2.2,kind:=x.2.1 }
def tdV:VRes→TD
 | .flt f=>tdFlt f false
 | .non=>zTD
 | .got a n b num st kd=>{ zTD with some:=true,a:=sOf a,val:=plOf num kd b }
 | .bad f out=>tdFlt f out
def tdD (k:Nat) (d:Int):Res (List UInt8)→TD
 | .flt f=>tdFlt f false
 | .non=>{ zTD with some:=true,n:=wrap64 (d-d % (tkN9 k:Int)) }
 | .got L=>match tmN k L with
  | .ok x=>{ zTD with some:=true,n:=x }
  | .bad out=>{ zTD with is:=true,out:=out }
noncomputable def ansP (T:List UInt8) (s:PS) (a:Ask):PS × TD:=
 if a.op=0 then ((nextP T s).1,{ zTD with some:=(nextP T s).2 })
 else if a.op=1 then ((nameP false T s).1,tdN (nameP false T s).2)
 else if a.op=2 then ((tagF T s).1,tdT (tagF T s).2)
 else if a.op=3 then ((valF T s).1,tdV (valF T s).2)
 else if a.op=4 then ((fieldF T s).1,tdF (fieldF T s).2)
 else if a.op=5 then ((timeF T s).1,tdN (timeF T s).2)
 else ((timeF T s).1,tdD a.prec.toNat a.d (timeF T s).2)
structure Fq (w:World) (ev:Value) (is:Bool) (l c:Int) (out:Bool):Prop where
 call:∀ W,Below w.heap.size w W→Calls Tryz.prog 26 #[ev] W (FltP W is l c out)
 eq:∀ W,(binOp .eql 48 ev .nilIface).run Tryz.prog W=.ok (.bool (!is)) W
theorem fq_nil (w:World):Fq w .nilIface false 0 0 false:=⟨fun W _=>fault_nil W,fun W=>by kernel_rfl⟩
theorem eq_nil (t:TypeId) (v:Value) (ht:t=121∨t=167) (W:World):(binOp .eql 48 (.iface t v) .nilIface).run Tryz.prog W=.ok (.bool false) W:=by
 rcases ht with rfl | rfl
 ·kernel_rfl
 ·kernel_rfl
theorem fq_de {w:World} {q:Nat} {q2 aO:Addr} {l c:Int} {out:Bool} (hV:OutV w aO) (hE:ErrAt w q l c (.iface 167 (.pointer (some q2)))) (hO:OutQ w aO q2 out):Fq w (.iface 121 (.pointer (some ⟨q,0,none⟩))) true l c out:=
 ⟨fun W hb=>fault_de (hV.below hb) ((hb.block q (blk_lt hE)).trans hE) (hO.below hb),fun W=>eq_nil 121 _ (.inl rfl) W⟩
theorem fq_flt {w:World} {B:Nat} {aO:Addr} {f:Flt} {ev:Value} (hV:OutV w aO) (hlt:aO.block<B) (h:Flted w B f ev):Fq w ev true (f.1:Int) (f.2:Int) false:=by
 obtain ⟨q,q2,rfl,h2,h3⟩:=h
 exact fq_de hV h2 ⟨fun h=>(by cases h),fun _=>⟨B,hlt,h3⟩⟩
theorem fq_fltO {w:World} {B:Nat} {aO:Addr} {f:Flt} {ev:Value} {out:Bool} (hV:OutV w aO) (hlt:aO.block<B) (h:FltO w B aO f out ev):Fq w ev true (f.1:Int) (f.2:Int) out:=by
 obtain ⟨q,q2,rfl,h2,h3,h4⟩:=h
 exact fq_de hV h2 ⟨h3,fun h=>⟨B,hlt,h4 h⟩⟩
theorem fq_bare {w:World} {B:Nat} {aO:Addr} {ev:Value} {out:Bool} (hV:OutV w aO) (hlt:aO.block<B) (h:ErrB w B aO out ev):Fq w ev true 0 0 out:=by
 obtain ⟨q,rfl,h3,h4⟩:=h
 have hO:OutQ w aO q out:=⟨h3,fun h=>⟨B,hlt,h4 h⟩⟩
 exact ⟨fun W hb=>fault_bare (hV.below hb) (hO.below hb),fun W=>eq_nil 167 _ (.inr rfl) W⟩
structure Sq (w:World) (v:Value) (sm:Bool) (L:List UInt8):Prop where
 tb:TB w v L
 ne:∀ W,(binOp .neq 54 v (.slice none 0 0)).run Tryz.prog W=.ok (.bool sm) W
theorem sq_nil (w:World):Sq w (.slice none 0 0) false []:=⟨⟨⟨none,0,rfl⟩,fun h=>absurd rfl h⟩,fun W=>run_neq_slice_nil_any W 54 5 none 0 0 0 0 Tryz.underlying54⟩
theorem sq_told {w:World} {g:Nat} {A:Ab} {C:Cn} {v:Value} {L:List UInt8} (h:Told w g A C v L) (hne:L≠[]):Sq w v true L:=by
 obtain ⟨kb,ko,kcap,hkv,_,_⟩:=h.cells hne
 exact ⟨h.tb,fun W=>by rw [hkv];exact run_neq_slice_nil_any W 54 5 (some ⟨kb,ko,none⟩) L.length kcap 0 0 Tryz.underlying54⟩
theorem OutV.low {w w':World} {B:Nat} {aO:Addr} (h:OutV w aO) (hlt:aO.block<B) (hl:LowEq B w w'):OutV w' aO:=by
 obtain ⟨cs,t,h2⟩:=h.blk
 exact ⟨(World.cell?_of_block (hl 0 (by omega))).trans h.cell,cs,t,(hl aO.block hlt).trans h2⟩
def ResQ (w:World) (v ev:Value) (t:TD):Prop:=∃ sm L is l c out,Sq w v sm L∧Fq w ev is l c out∧t=⟨sm,sOf L,⟨#[]⟩,0,zVl,0,is,l,c,out⟩
theorem resv_q {w:World} {B g:Nat} {aO:Addr} {A:Ab} {C:Cn} {v ev:Value} {r:Res (List UInt8)} (hV:OutV w aO) (hlt:aO.block<B) (h:ResV w B g A C v ev r):ResQ w v ev (tdN r):=by
 cases r with
 | flt f=>
  obtain ⟨rfl,h2⟩:=h
  exact ⟨_,_,_,_,_,_,sq_nil w,fq_flt hV hlt h2,rfl⟩
 | non=>
  obtain ⟨rfl,rfl⟩:=h
  exact ⟨_,_,_,_,_,_,sq_nil w,fq_nil w,rfl⟩
 | got L=>
  obtain ⟨h1,h2,rfl⟩:=h
  exact ⟨_,_,_,_,_,_,sq_told h1 h2,fq_nil w,rfl⟩
def askC (op prec d:Int):Array Value:=#[.int .i64 op,.int .i64 prec,.int .i64 d]
def kW (w:World) (op prec d:Int):World:=(w.alloc (.cells (askC op prec d) 31)).alloc (.cells zTD.cells 39)
abbrev Kq (W:World) (q:Nat):Prop:=W.heap[q+1]?=some (.cells zTD.cells 39 (0,0))
theorem kq_start (w:World) (op prec d:Int):Kq (kW w op prec d) w.heap.size:=heap_alloc2_new w _ _
theorem kW_below (w:World) (op prec d:Int):Below w.heap.size w (kW w op prec d):=by
 have e3:(w.alloc (.cells (askC op prec d) 31)).heap.size=w.heap.size+1:=Array.size_push _
 exact ((Below.refl w.heap.size w).alloc (Nat.le_refl _) _).alloc (by rw [e3];omega) _
theorem Kq.below {W W2:World} {q:Nat} (h:Kq W q) (hb:Below W.heap.size W W2):Kq W2 q:=(hb.block _ (blk_lt h)).trans h
theorem Kq.step {w w':World} {B g q:Nat} {T:List UInt8} {A:Ab} {C C':Cn} (h:Kq w q) (hr:Rep w B g T A C) (hp:Pas g w C w' C'):Kq w' q:=
 (hp.only.block (q+1) (blk_lt h) (hr.not_own h (by decide))).trans h
def ToldPost (w:World) (B g:Nat) (T:List UInt8) (C:Cn) (r:PS × TD) (e:Ending) (w':World):Prop:=
 ∃ A' C',e=.returned (.agg r.2.cells)∧Rep w' B g T A' C'∧Pas g w C w' C'∧Is T A' r.1 false
theorem setRow_only (W:World) (q:Nat) (cs:Array Value):Only (fun k=>k=q) W (W.setRow q cs):=
 ⟨rfl,rfl,rfl,by simp [World.setRow],fun k _ hk=>setRow_other W q k cs hk⟩
theorem told_end {wI w0 w:World} {C0 C:Cn} {B g q:Nat} {T:List UInt8} {p f k:Nat} {A:Ab} {cs:Array Value} {t:TD} (h:At wI w0 C0 B g T false w p f k A C) (hq:Kq w q) (hB:w0.heap.size≤q) (hBB:B≤q) (ht:t.cells=cs) :
  ToldPost w0 B g T C0 (⟨p,f,k⟩,t) (.returned (.agg cs)) (w.setRow (q+1) cs):=by
 have h2:=h.aside (h.rep.not_own hq (by decide)) (by omega) (by omega) (setRow_only w (q+1) cs)
 exact ⟨A,C,by rw [←ht],h2.rep,h2.pas,h2.is⟩
def TagQ (w:World) (k v ev:Value) (t:TD):Prop:=∃ sm L L2 is l c out,Sq w k sm L∧TB w v L2∧Fq w ev is l c out∧t=⟨sm,sOf L,sOf L2,0,zVl,0,is,l,c,out⟩
theorem tb_nil (w:World):TB w (.slice none 0 0) []:=⟨⟨none,0,rfl⟩,fun h=>absurd rfl h⟩
theorem tag_q {w:World} {B g:Nat} {aO:Addr} {A:Ab} {C:Cn} {k v ev:Value} {r:Res (List UInt8 × List UInt8)} (hV:OutV w aO) (hlt:aO.block<B) (h:ResTag w B g A C k v ev r):TagQ w k v ev (tdT r):=by
 cases r with
 | flt f=>
  obtain ⟨rfl,rfl,h2⟩:=h
  exact ⟨_,_,_,_,_,_,_,sq_nil w,tb_nil w,fq_flt hV hlt h2,rfl⟩
 | non=>
  obtain ⟨rfl,rfl,rfl⟩:=h
  exact ⟨_,_,_,_,_,_,_,sq_nil w,tb_nil w,fq_nil w,rfl⟩
 | got x=>
  obtain ⟨a,b⟩:=x
  obtain ⟨h1,h2,h3,rfl⟩:=h
  exact ⟨_,_,_,_,_,_,_,sq_told h1 h2,h3.tb,fq_nil w,rfl⟩
def FldQ (w:World) (k kd v ev:Value) (t:TD):Prop:=∃ sm L n L2 is l c out,Sq w k sm L∧(kd=.int .u8 ((n:Nat):Int)∧n≤5)∧TB w v L2∧Fq w ev is l c out∧t=⟨sm,sOf L,sOf L2,n,zVl,0,is,l,c,out⟩
theorem fldF_got {T:List UInt8} {s:PS} {a b:List UInt8} {n:Nat} (h:(fieldF T s).2=.got (a,n,b)):(1≤n∧n≤5)∧b.length≤T.length∧(n=1→Lib.validD b=true):=by
 unfold fieldF at h
 cases hf:(advP T 2 s).2 with
 | some f=>rw [hf] at h;cases h
 | none=>
  rw [hf] at h
  have h2:(fieldP false T (advP T 2 s).1).2=.got (a,n,b):=h
  have h3:fieldP false T ⟨(advP T 2 s).1.at_,(advP T 2 s).1.from_,(advP T 2 s).1.part⟩=((fieldP false T (advP T 2 s).1).1,.got (a,n,b)):=by rw [←h2]
  obtain ⟨_,_,h4,h5,h6,_⟩:=field_got h3
  exact ⟨h4,h5,h6⟩
theorem fld_q {w:World} {B g:Nat} {aO:Addr} {A:Ab} {C:Cn} {k kd v ev:Value} {r:Res (List UInt8 × Nat × List UInt8)} (hV:OutV w aO) (hlt:aO.block<B) (hn:∀ a n b,r=.got (a,n,b)→n≤5) (h:ResFld w B g A C k kd v ev r):FldQ w k kd v ev (tdF r):=by
 cases r with
 | flt f=>
  obtain ⟨rfl,rfl,rfl,h2⟩:=h
  exact ⟨_,_,0,_,_,_,_,_,sq_nil w,⟨rfl,by omega⟩,tb_nil w,fq_flt hV hlt h2,rfl⟩
 | non=>
  obtain ⟨rfl,rfl,rfl,rfl⟩:=h
  exact ⟨_,_,0,_,_,_,_,_,sq_nil w,⟨rfl,by omega⟩,tb_nil w,fq_nil w,rfl⟩
 | got x=>
  obtain ⟨a,n,b⟩:=x
  obtain ⟨h1,h2,rfl,h3,rfl⟩:=h
  exact ⟨_,_,n,_,_,_,_,_,sq_told h1 h2,⟨rfl,hn _ _ _ rfl⟩,h3.tb,fq_nil w,rfl⟩
def ValQ (w:World) (k v ev:Value) (t:TD):Prop:=∃ sm L num a l c kd L2 is ln cn out,Sq w k sm L∧v=.agg #[.int .u64 num,.slice a l c,.int .u8 ((kd:Nat):Int)]∧
 (sm=true→(kd=0∨2≤kd∧kd≤5)∧(kd=0→TB w (.slice a l c) L2))∧Fq w ev is ln cn out∧t=⟨sm,sOf L,⟨#[]⟩,0,if sm=true then plOf num kd L2 else zVl,0,is,ln,cn,out⟩
theorem val_q {w:World} {B g:Nat} {aO:Addr} {A:Ab} {C:Cn} {k v ev:Value} {r:VRes} (hV:OutV w aO) (hlt:aO.block<B) (h:ValR w B aO g A C k v ev r):ValQ w k v ev (tdV r):=by
 cases r with
 | flt f=>
  obtain ⟨rfl,rfl,h2⟩:=h
  exact ⟨false,_,0,none,0,0,0,[],_,_,_,_,sq_nil w,rfl,(fun h=>by cases h),fq_flt hV hlt h2,rfl⟩
 | non=>
  obtain ⟨rfl,rfl,rfl⟩:=h
  exact ⟨false,_,0,none,0,0,0,[],_,_,_,_,sq_nil w,rfl,(fun h=>by cases h),fq_nil w,rfl⟩
 | bad f out=>
  obtain ⟨rfl,rfl,h2⟩:=h
  exact ⟨false,_,0,none,0,0,0,[],_,_,_,_,sq_nil w,rfl,(fun h=>by cases h),fq_fltO hV hlt h2,rfl⟩
 | got a n b num st kd=>
  obtain ⟨h1,h2,rfl,h3,bv,h4,rfl⟩:=h
  have hs:∃ xa xl xc,stV st bv=.slice xa xl xc∧(kd=0→TB w (.slice xa xl xc) b):=by
   rcases h3.1 with ⟨h5,h6⟩ | ⟨h5,h6,h7⟩
   ·obtain ⟨xa,xc,hx⟩:=(h4 h5).len
    exact ⟨xa,_,xc,by unfold stV;rw [if_pos h5];exact hx,fun _=>by rw [←hx];exact (h4 h5).tb⟩
   ·exact ⟨none,0,0,by unfold stV;rw [if_neg (by rw [h5];decide)],fun e=>by omega⟩
  obtain ⟨xa,xl,xc,hx,ht⟩:=hs
  refine ⟨true,a,num,xa,xl,xc,kd,b,false,0,0,false,sq_told h1 h2,by rw [hx];rfl,fun _=>⟨?_,ht⟩,fq_nil w,rfl⟩
  rcases h3.1 with ⟨h5,h6⟩ | ⟨h5,h6,h7⟩
  ·exact .inl h6
  ·exact .inr ⟨h6,h7⟩
end Go.Proofs.YtkfggfjdplnkpaaGreatDoor
end
