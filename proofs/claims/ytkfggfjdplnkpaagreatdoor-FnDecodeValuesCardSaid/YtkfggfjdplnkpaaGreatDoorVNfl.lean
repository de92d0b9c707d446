/- A part of the proof that the law FnDecodeValues returns true; its conditions are those of the last part. -/
import Derived.Test.YtkfggfjdplnkpaaGreatDoorVNvb
import Derived.Test.YtkfggfjdplnkpaaGreatDoorVEsc0
import Derived.Test.YtkfggfjdplnkpaaGreatDoorVTime
import Derived.Test.YtkfggfjdplnkpaaGreatDoorVField
import Derived.Test.YtkfggfjdplnkpaaGreatDoorVWLast
import Derived.Lib.SliceRun
set_option maxRecDepth 100000
set_option linter.unusedVariables false
set_option linter.unusedSimpArgs false
section
namespace Go.Proofs.YtkfggfjdplnkpaaGreatDoor
open Go Go.RowKit
theorem Rep.aside {w w':World} {B g q:Nat} {T:List UInt8} {A:Ab} {C:Cn} (h:Rep w B g T A C) (hq:¬Own g C q) (hB:B≤q) (ho:Only (fun k=>k=q) w w'):Rep w' B g T A C:=by
 have n1:g≠q:=fun e=>hq (.inl e.symm)
 have hb:∀ k,k<w.heap.size→k≠q→w'.heap[k]?=w.heap[k]?:=fun k hk hn=>ho.block k hk hn
 refine ⟨blk_only h.blk ho n1,h.base,ownsF_only h.own ho (fun b hb e=>hq (by rw [←e];exact .inr (.inl hb))),ownsRow_only h.esc ho (fun b hb e=>hq (by rw [←e];exact .inr (.inr (.inl hb)))),h.escB,h.ne,h.le01,h.le1,h.at_,h.dat,h.inT,h.le0,h.big,h.bigl,h.prt,h.escL,h.all,fun hc=>?_,fun k hk=>?_⟩
 ·obtain ⟨m,rb,a,cap,n,sizes,h1,h2,h3,h4,h5,h6,h7,h8,h9⟩:=h.src hc
  refine ⟨m,rb,a,cap,n,sizes,h1,h2,blk_only h3 ho (fun e=>hq (by rw [←e];exact .inr (.inr (.inr (cn_rb h1))))),h4,fun j hj=>?_,h6,h7,h8,h9⟩
  obtain ⟨ad,q1,q2,q3⟩:=h5 j hj
  have hblk:(ad.add j).block=ad.block:=by unfold Addr.add; split <;> rfl
  have h7:=h4 ad q1
  exact ⟨ad,q1,(World.cell?_of_block (w:=w) (ho.block (ad.add j).block (block_lt_of_cell q2) (by omega))).trans q2,q3⟩
 ·obtain ⟨a,cs,b⟩:=h.rbB k hk
  exact ⟨a,cs,blk_only b ho (fun e=>hq (by rw [←e];exact .inr (.inr (.inr hk))))⟩
theorem Told.put {w:World} {g q:Nat} {A:Ab} {C:Cn} {v:Value} {bs:List UInt8} (h:Told w g A C v bs) (hq:w.heap[q]?=some (.cells #[.int .u64 0,.slice none 0 0,.int .u8 0] 57 (0,0))) (n b:Value) (k:Nat) (hk:k=0∨(0:UInt8)∉bs) :
  Told (((w.setCell ⟨q,0,none⟩ n).setCell ⟨q,1,none⟩ b).setCell ⟨q,2,none⟩ (.int .u8 (k:Int))) g A C v bs:=by
 refine ⟨h.len,fun hb=>?_⟩
 obtain ⟨bb,o,cap,hv,hlt,hc⟩:=h.cells hb
 refine ⟨bb,o,cap,hv,by rw [put_size];exact hlt,fun j hj=>?_⟩
 obtain ⟨h1,h2⟩:=hc j hj
 refine ⟨?_,h2⟩
 by_cases e:bb=q
 ·subst e
  rw [blk_cell hq] at h1
  rw [List.getElem?_eq_getElem hj] at h1 ⊢
  have h3:o+j=2∧bs[j]=0:=by
   match hoj:o+j,h1 with
   | 0,h1=>cases h1
   | 1,h1=>cases h1
   | 2,h1=>
    refine ⟨rfl,?_⟩
    injection h1 with h1
    injection h1 with _ h1
    have h0:(bs[j]).toNat=0:=by omega
    exact UInt8.toNat_inj.1 h0
   | n+3,h1=>cases h1
  rw [h3.1]
  have hk0:k=0:=by
   rcases hk with hk | hk
   ·exact hk
   ·exact absurd (by rw [←h3.2];exact List.getElem_mem hj) hk
  rw [blk_cell (blk_set (blk_set (blk_set hq 0 n) 1 b) 2 (.int .u8 (k:Int))),hk0,h3.2]
  rfl
 ·exact (World.cell?_of_block (put_other _ _ _ e)).trans h1
def ct (c:UInt8):List UInt8→Nat
 | []=>0
 | x::r=>if x=c then ct c r+1 else ct c r
theorem zc_ct (L:List UInt8) (c:UInt8):∀ m i,L.length≤i+m→zc (sOf L) c m i=ct c (L.drop i)
 | 0,i,h=>by rw [List.drop_eq_nil_of_le (by omega)];rfl
 | m+1,i,h=>by
  by_cases hi:i<L.length
  ·rw [zc_succ (sOf L) c m i hi,List.drop_eq_getElem_cons hi,zc_ct L c m (i+1) (by omega)]
   rfl
  ·rw [zc_end (s:=sOf L) hi,List.drop_eq_nil_of_le (by omega)]
   rfl
theorem eslN_ct (L:List UInt8):eslN (sOf L)=L.length+ct 44 L+ct 61 L+ct 32 L:=by
 unfold eslN
 rw [sOf_size,zc_ct L 44 _ 0 (by omega),zc_ct L 61 _ 0 (by omega),zc_ct L 32 _ 0 (by omega),List.drop_zero]
def keyB (c:UInt8):Nat:=1+ct 44 [c]+ct 61 [c]+ct 32 [c]
theorem key_plain:∀ c:UInt8,inSet 7 c.toNat=true→keyB c=1∧c≠0:=by
 have h:∀ n:Fin 256,inSet 7 n.val=true→n.val≠44∧n.val≠61∧n.val≠32∧n.val≠0:=by decide
 intro c hc
 obtain ⟨h1,h2,h3,h4⟩:=h ⟨c.toNat,c.toNat_lt⟩ hc
 have e1:c≠44:=fun e=>h1 (by rw [e];rfl)
 have e2:c≠61:=fun e=>h2 (by rw [e];rfl)
 have e3:c≠32:=fun e=>h3 (by rw [e];rfl)
 have e4:c≠0:=fun e=>h4 (by rw [e];rfl)
 refine ⟨?_,e4⟩
 unfold keyB ct ct
 rw [if_neg e1,if_neg e2,if_neg e3]
theorem key_esc (d:UInt8) (h:revK 3 d.toNat≠0):keyB (UInt8.ofNat (revK 3 d.toNat))=2∧UInt8.ofNat (revK 3 d.toNat)≠0:=by
 have e:revK 3 d.toNat=44∨revK 3 d.toNat=61∨revK 3 d.toNat=32:=by
  have e0:revK 3 d.toNat=if d.toNat=44∨d.toNat=61∨d.toNat=32 then d.toNat else 0:=rfl
  rw [e0] at h ⊢
  split at h
  ·next h2=>rw [if_pos h2];exact h2
  ·exact absurd rfl h
 rcases e with e | e | e <;> rw [e] <;> decide
theorem ct_cons (c x:UInt8) (r:List UInt8):ct c (x::r)=ct c [x]+ct c r:=by
 show (if x=c then ct c r+1 else ct c r)=(if x=c then 0+1 else 0)+ct c r
 split <;> omega
def lenK (l:List UInt8):Nat:=l.length+ct 44 l+ct 61 l+ct 32 l
theorem lenK_cons (c:UInt8) (r:List UInt8):lenK (c::r)=keyB c+lenK r:=by
 unfold lenK keyB
 rw [ct_cons 44 c r,ct_cons 61 c r,ct_cons 32 c r,List.length_cons]
 omega
theorem key92:keyB 92=1∧(92:UInt8)≠0:=by decide
theorem tok_key:∀ l:List UInt8,lenK (tok (inSet 7) (revK 3) l).2=(tok (inSet 7) (revK 3) l).1∧(0:UInt8)∉(tok (inSet 7) (revK 3) l).2
 | []=>⟨rfl,fun h=>by cases h⟩
 | [c]=>by
  unfold tok
  split
  ·next h=>rw [h];exact ⟨by decide,by decide⟩
  ·split
   ·next h=>
    obtain ⟨h1,h2⟩:=key_plain c h
    refine ⟨?_,fun h3=>h2 (List.mem_singleton.1 h3).symm⟩
    show lenK [c]=1
    rw [lenK_cons,h1]
    rfl
   ·exact ⟨rfl,fun h=>by cases h⟩
 | c::d::rest=>by
  have i1:=tok_key (d::rest)
  have i2:=tok_key rest
  unfold tok
  split
  ·next h=>
   subst h
   split
   ·refine ⟨?_,?_⟩
    ·show lenK (92::_)=1+_
     rw [lenK_cons,key92.1,i1.1]
    ·intro h3
     rcases List.mem_cons.1 h3 with h3 | h3
     ·exact key92.2 h3.symm
     ·exact i1.2 h3
   ·next h2=>
    obtain ⟨k1,k2⟩:=key_esc d h2
    refine ⟨?_,?_⟩
    ·show lenK (_::_)=2+_
     rw [lenK_cons,k1,i2.1]
    ·intro h3
     rcases List.mem_cons.1 h3 with h3 | h3
     ·exact k2 h3.symm
     ·exact i2.2 h3
  ·split
   ·next h=>
    obtain ⟨h1,h2⟩:=key_plain c h
    refine ⟨?_,?_⟩
    ·show lenK (c::_)=1+_
     rw [lenK_cons,h1,i1.1]
    ·intro h3
     rcases List.mem_cons.1 h3 with h3 | h3
     ·exact h2 h3.symm
     ·exact i1.2 h3
   ·exact ⟨rfl,fun h=>by cases h⟩
theorem key_len (T:List UInt8) (p:Nat):eslN (sOf (tkV false 3 T p))=tkN 3 T p∧(0:UInt8)∉tkV false 3 T p:=by
 have h:=tok_key (T.drop p)
 have e:tkV false 3 T p=(tok (inSet 7) (revK 3) (T.drop p)).2:=rfl
 rw [e,eslN_ct]
 exact ⟨h.1,h.2⟩
open Classical in
noncomputable def nvR (k:Nat) (L:List UInt8):NV:=
 if h:(1≤k∧k≤5)∧L.length≤800∧(k=1→Lib.validD L=true) then Classical.choose (nv_det k h.1 L h.2.1 h.2.2) else .bad false
theorem nvR_spec {k:Nat} (hk:1≤k∧k≤5) {L:List UInt8} (hL:L.length≤800) (hval:k=1→Lib.validD L=true) {w:World} {B:Nat} {aR aS aO:Addr} {a:Option Addr} {cap:Nat} {chk:Bool}
  (hT:Tabs w B) (hV:EV w B aR aS aO) (hc:chk=true→L.length≤cap) (hU:∀ w',Below w.heap.size w w'→Lib.Utf8Tabs 4 5 w') (hB:TB w (.slice a L.length cap) L) :
  Calls Tryz.prog 40 #[.int .u8 (k:Int),.slice a L.length cap,.bool chk] w (NvPost w aO (.slice a L.length cap) (nvR k L)):=by
 have e:nvR k L=Classical.choose (nv_det k hk L hL hval):=by
  unfold nvR
  rw [dif_pos ⟨hk,hL,hval⟩]
 rw [e]
 exact (Classical.choose_spec (nv_det k hk L hL hval)).2 w B aR aS aO a cap chk hT hV hc hU hB
theorem nvR_ok (k:Nat) (L:List UInt8):NvOk (nvR k L):=by
 unfold nvR
 split
 ·next h=>exact (Classical.choose_spec (nv_det k h.1 L h.2.1 h.2.2)).1
 ·trivial
theorem tokV_le (S:Nat→Bool) (R:Nat→Nat):∀ l:List UInt8,(tok S R l).2.length≤l.length
 | []=>Nat.le_refl _
 | [c]=>by
  unfold tok
  split
  ·exact Nat.le_refl _
  ·split
   ·exact Nat.le_refl _
   ·exact Nat.zero_le _
 | c::d::rest=>by
  have i1:=tokV_le S R (d::rest)
  have i2:=tokV_le S R rest
  rw [List.length_cons] at i1
  unfold tok
  split
  ·split
   ·show (_::_).length≤_
    rw [List.length_cons,List.length_cons,List.length_cons];omega
   ·show (_::_).length≤_
    rw [List.length_cons,List.length_cons,List.length_cons];omega
  ·split
   ·show (_::_).length≤_
    rw [List.length_cons,List.length_cons,List.length_cons];omega
   ·exact Nat.zero_le _
theorem valP_got {T:List UInt8} {p q kd:Nat} {v:List UInt8} (h:valP false T p=(q,.inr (kd,v))):p≤q∧(1≤kd∧kd≤5)∧v.length≤T.length∧(kd=1→Lib.validD v=true):=by
 have hd:(T.drop p).length≤T.length:=by rw [List.length_drop];omega
 have hd1:(T.drop (p+1)).length≤T.length:=by rw [List.length_drop];omega
 have hr:=run_len_le (inSet 9) (T.drop p)
 unfold valP at h
 dsimp only at h
 split at h
 ·split at h
  ·split at h
   ·next hv=>
    split at h
    ·injection h with h1 h2
     injection h2 with h2
     injection h2 with h2 h3
     subst h1 h2 h3
     exact ⟨by omega,by omega,Nat.le_trans (tokV_le _ _ _) hd1,fun _=>hv⟩
    ·injection h with _ h2;cases h2
   ·injection h with _ h2;cases h2
  ·split at h
   ·injection h with h1 h2
    injection h2 with h2
    injection h2 with h2 h3
    subst h1 h2 h3
    exact ⟨past_ge 9 T p,by omega,by omega,fun h=>by omega⟩
   ·split at h
    ·injection h with h1 h2
     injection h2 with h2
     subst h1
     have hdl:(run (inSet 9) (T.drop p)).dropLast.length≤T.length:=by rw [List.length_dropLast];omega
     split at h2
     ·injection h2 with h2 h3
      subst h2 h3
      exact ⟨past_ge 9 T p,by omega,hdl,fun h=>by omega⟩
     ·split at h2
      ·injection h2 with h2 h3
       subst h2 h3
       exact ⟨past_ge 9 T p,by omega,hdl,fun h=>by omega⟩
      ·injection h2 with h2 h3
       subst h2 h3
       exact ⟨past_ge 9 T p,by omega,by omega,fun h=>by omega⟩
    ·injection h with _ h2;cases h2
 ·injection h with _ h2;cases h2
theorem behind_up {T:List UInt8} {q q2 k:Nat} (h:behindP T q=some (q2,k)):q≤q2:=by
 unfold behindP at h
 dsimp only at h
 split at h
 ·split at h
  ·injection h with h;injection h with h1 h2;omega
  ·split at h
   ·injection h with h;injection h with h1 h2
    rw [←h1]
    exact Nat.le_trans (past_ge 0 T q) (eol_ge T _)
   ·cases h
 ·injection h with h;injection h with h1 h2;omega
theorem field_got {T:List UInt8} {p f k:Nat} {s2:PS} {a b:List UInt8} {n:Nat} (h:fieldP false T ⟨p,f,k⟩=(s2,.got (a,n,b))) :
  k=2∧a=tkV false 3 T p∧(1≤n∧n≤5)∧b.length≤T.length∧(n=1→Lib.validD b=true)∧s2.from_=f∧p+tkN 3 T p+1≤s2.at_:=by
 unfold fieldP at h
 dsimp only at h
 split at h
 ·next hk=>
  split at h
  ·split at h
   ·split at h
    ·injection h with _ h;cases h
    ·next q kd v hv=>
     have hg:=valP_got hv
     split at h
     ·injection h with _ h;cases h
     ·next q2 part hb=>
      have hu:=behind_up hb
      injection h with h1 h2
      injection h2 with h2
      injection h2 with h2 h3
      injection h3 with h3 h4
      subst h1 h2 h3 h4
      exact ⟨hk,rfl,hg.2.1,hg.2.2.1,hg.2.2.2,rfl,by show _≤q2;omega⟩
   ·injection h with _ h;cases h
  ·injection h with _ h;cases h
 ·injection h with _ h;cases h
inductive VRes where
 | flt (f:Flt)
 | non
 | got (a:List UInt8) (n:Nat) (b:List UInt8) (num:Int) (st:Bool) (kd:Nat)
 | bad (f:Flt) (out:Bool)
noncomputable def vMap (T:List UInt8) (p:Nat):PS × Res (List UInt8 × Nat × List UInt8)→PS × VRes
 | (s2,.flt f)=>(s2,.flt f)
 | (s2,.non)=>(s2,.non)
 | (s2,.got (a,n,b))=>match nvR n b with
  | .good num st kd=>(s2,.got a n b num st kd)
  | .bad out=>(⟨s2.at_,s2.from_,fpart s2.part⟩,.bad (fltAt T s2.from_ (p+tkN 3 T p+1)) out)
noncomputable def valF (T:List UInt8) (s:PS):PS × VRes:=vMap T (advP T 2 s).1.at_ (fieldF T s)
def FltO (w:World) (B:Nat) (aO:Addr) (f:Flt) (out:Bool) (ev:Value):Prop:=
 ∃ (q:Nat) (q2:Addr),ev=.iface 121 (.pointer (some ⟨q,0,none⟩))∧ErrAt w q (f.1:Int) (f.2:Int) (.iface 167 (.pointer (some q2)))∧(out=true→q2=aO)∧(out=false→Fre w B q2.block)
def stV (st:Bool) (v:Value):Value:=if st=true then v else .slice none 0 0
def ValR (w:World) (B:Nat) (aO:Addr) (g:Nat) (A:Ab) (C:Cn) (kv vv ev:Value):VRes→Prop
 | .flt f=>kv=.slice none 0 0∧vv=valV 0 (.slice none 0 0) 0∧Flted w B f ev
 | .non=>kv=.slice none 0 0∧vv=valV 0 (.slice none 0 0) 0∧ev=.nilIface
 | .got a n b num st kd=>Told w g A C kv a∧a≠[]∧ev=.nilIface∧NvOk (.good num st kd)∧∃ bv,(st=true→Told w g A C bv b)∧vv=valV num (stV st bv) kd
 | .bad f out=>kv=.slice none 0 0∧vv=valV 0 (.slice none 0 0) 0∧FltO w B aO f out ev
def NfPost (w:World) (B:Nat) (aO:Addr) (g:Nat) (T:List UInt8) (C:Cn) (r:PS × VRes) (e:Ending) (w':World):Prop:=
 ∃ A' C' kv vv ev,e=.returned (.tuple #[kv,vv,ev])∧Rep w' B g T A' C'∧Pas g w C w' C'∧Is T A' r.1 false∧ValR w' B aO g A' C' kv vv ev r.2
theorem res_tct {fn:Func} {x p u:Tmp} {ty:TypeId} (h:fn.results=#[.tmp x,.cell p ty,.tmp u]) (tmps:Array Value) (w:World) (g:Nat) (t:TypeId) (cs:Array Value) (fr:Nat × Nat) {fs:Array Field}
  (hp:tmps.getD p undef=.pointer (some ⟨g,0,none⟩)) (hg:w.heap[g]?=some (.cells cs t fr))
  (hu:Tryz.prog.underlying ty=some (.struct fs)) (hi:(Tryz.prog.info? ty).map (·.size)=some cs.size) :
  (results fn tmps).run Tryz.prog w=.ok (.tuple #[tmps.getD x undef,.agg cs,tmps.getD u undef]) w:=by
 have hp':tmps[p]?.getD undef=.pointer (some ⟨g,0,none⟩):=by simpa using hp
 simp only [results,h]
 simp [Sem.run_bind,hp',asAddr,run_loadVar_row w g t ty cs fr (.struct fs) hg hu rfl hi,Result.andThen]
structure Vq (w:World) (q:Nat):Prop where
 blk:w.heap[q]?=some (.cells #[.int .u64 0,.slice none 0 0,.int .u8 0] 57 (0,0))
theorem Vq.step {w w':World} {B g q:Nat} {T:List UInt8} {A:Ab} {C C':Cn} (h:Vq w q) (hr:Rep w B g T A C) (hp:Pas g w C w' C'):Vq w' q:=
 ⟨(hp.only.block q (blk_lt h.blk) (hr.not_own h.blk (by decide))).trans h.blk⟩
theorem Vq.below {w w':World} {q:Nat} (h:Vq w q) (hb:Below w.heap.size w w'):Vq w' q:=⟨(hb.block q (blk_lt h.blk)).trans h.blk⟩
theorem advP_two (T:List UInt8) (p f:Nat):advP T 2 ⟨p,f,2⟩=(⟨p,f,2⟩,none):=by unfold advP advN;rw [if_neg (by show ¬2<2;omega)]
theorem nf_end {wI w0 w:World} {C0 C:Cn} {B:Nat} {aO:Addr} {g q:Nat} {T:List UInt8} {p f k:Nat} {A:Ab} (h:At wI w0 C0 B g T false w p f k A C) (hq:Vq w q) (hB:w0.heap.size≤q) (hBB:B≤q) (n b kk:Value) :
  Rep (((w.setCell ⟨q,0,none⟩ n).setCell ⟨q,1,none⟩ b).setCell ⟨q,2,none⟩ kk) B g T A C∧Pas g w0 C0 (((w.setCell ⟨q,0,none⟩ n).setCell ⟨q,1,none⟩ b).setCell ⟨q,2,none⟩ kk) C:=by
 have ho:Only (fun k=>k=q) w (((w.setCell ⟨q,0,none⟩ n).setCell ⟨q,1,none⟩ b).setCell ⟨q,2,none⟩ kk):=
  (((Only.refl (fun k=>k=q) w).setCell (p:=⟨q,0,none⟩) (.inl rfl) n).setCell (p:=⟨q,1,none⟩) (.inl rfl) b).setCell (p:=⟨q,2,none⟩) (.inl rfl) kk
 exact ⟨h.rep.aside (h.rep.not_own hq.blk (by decide)) hBB ho,⟨h.pas.only.trans ho (fun k hk=>.inr (by rw [hk];exact hB)),h.pas.own⟩⟩
theorem errAt_put {w:World} {q z:Nat} {l c:Int} {ev:Value} (h:ErrAt w z l c ev) (hq:Vq w q) (n b kk:Value):ErrAt (((w.setCell ⟨q,0,none⟩ n).setCell ⟨q,1,none⟩ b).setCell ⟨q,2,none⟩ kk) z l c ev:=
 (put_other _ _ _ (blk_type h hq.blk (by decide))).trans h
theorem Tabs.low {w w':World} {B:Nat} (h:Tabs w B) (k:LowEq B w w') (hb:B≤w'.heap.size):Tabs w' B:=by
 have h25:=h.f.low
 obtain ⟨ca,ta,h11⟩:=h.h11
 obtain ⟨cb,tb,h9⟩:=h.h9
 exact ⟨h.f.keep k,h.e.keep k,h.p.keep (k 20 (by omega)),(World.cell?_of_block (k 10 (by omega))).trans h.opt,⟨ca,ta,(k 11 (by omega)).trans h11⟩,⟨cb,tb,(k 9 (by omega)).trans h9⟩,hb⟩
theorem EV.low {w w':World} {B:Nat} {aR aS aO:Addr} (h:EV w B aR aS aO) (hl:LowEq B w w') (hb:B≤w'.heap.size):EV w' B aR aS aO:=by
 obtain ⟨l1,l2,l3,l4⟩:=h.lt
 have hv:∀ n g,Tryz.prog.globalNamed n=some g→g<B→w'.var? Tryz.prog n=w.var? Tryz.prog n:=fun n g hg hgB=>by
  unfold World.var?
  rw [hg]
  dsimp only [Option.bind]
  rw [hl g hgB]
 obtain ⟨t,p,hb3⟩:=h.bad
 obtain ⟨c1,t1,b1⟩:=h.bR
 obtain ⟨c2,t2,b2⟩:=h.bS
 obtain ⟨c3,t3,b3⟩:=h.bO
 exact ⟨(hv _ 1 (by kernel_rfl) (by omega)).trans h.rng,(hv _ 8 (by kernel_rfl) (by omega)).trans h.syn,(World.cell?_of_block (hl 0 (by omega))).trans h.out,
  ⟨t,p,(World.cell?_of_block (hl 3 (by omega))).trans hb3⟩,⟨c1,t1,(hl aR.block l1).trans b1⟩,⟨c2,t2,(hl aS.block l2).trans b2⟩,⟨c3,t3,(hl aO.block l3).trans b3⟩,h.ne,h.lt,hb⟩
end Go.Proofs.YtkfggfjdplnkpaaGreatDoor
end
section
namespace Go.Proofs.YtkfggfjdplnkpaaGreatDoor
open Go Go.RowKit Go.Proofs.YtkfggfjdplnkpaaGreatDoorW.PrintLast
theorem Vq.put {w:World} {q:Nat} (h:Vq w q) (n b k:Value):(((w.setCell ⟨q,0,none⟩ n).setCell ⟨q,1,none⟩ b).setCell ⟨q,2,none⟩ k).heap[q]?=some (.cells #[n,b,k] 57 (0,0)):=
 blk_set (blk_set (blk_set h.blk 0 n) 1 b) 2 k
theorem Vq.facts {w:World} {q:Nat} (h:Vq w q):w.cell? ⟨q,0,none⟩=some (.int .u64 0)∧w.cell? ⟨q,1,none⟩=some (.slice none 0 0)∧w.cell? ⟨q,2,none⟩=some (.int .u8 0)∧
  w.frozen? ⟨q,0,none⟩=false∧w.frozen? ⟨q,1,none⟩=false∧w.frozen? ⟨q,2,none⟩=false:=
 ⟨blk_cell h.blk 0,blk_cell h.blk 1,blk_cell h.blk 2,blk_frozen h.blk 0,blk_frozen h.blk 1,blk_frozen h.blk 2⟩
theorem nf_bad {wI w0 w:World} {C0 C:Cn} {B:Nat} {aO:Addr} {g q:Nat} {T:List UInt8} {p f k:Nat} {A:Ab} {ev:Value} {r:VRes} (h:At wI w0 C0 B g T false w p f k A C) (hq:Vq w q) (hB:w0.heap.size≤q) (hBB:B≤q)
  (hr:∀ w',w'=(((w.setCell ⟨q,0,none⟩ (.int .u64 0)).setCell ⟨q,1,none⟩ (.slice none 0 0)).setCell ⟨q,2,none⟩ (.int .u8 0))→ValR w' B aO g A C (.slice none 0 0) (valV 0 (.slice none 0 0) 0) ev r) :
  NfPost w0 B aO g T C0 (⟨p,f,k⟩,r) (.returned (.tuple #[.slice none 0 0,.agg #[.int .u64 0,.slice none 0 0,.int .u8 0],ev])) (((w.setCell ⟨q,0,none⟩ (.int .u64 0)).setCell ⟨q,1,none⟩ (.slice none 0 0)).setCell ⟨q,2,none⟩ (.int .u8 0)):=by
 obtain ⟨h1,h2⟩:=nf_end (aO:=aO) h hq hB hBB (.int .u64 0) (.slice none 0 0) (.int .u8 0)
 exact ⟨A,C,_,_,_,rfl,h1,h2,h.is,hr _ rfl⟩
theorem Fre.below {w w':World} {B q:Nat} (h:Fre w B q) (hb:Below w.heap.size w w'):Fre w' B q:=by
 obtain ⟨h1,cs,h2⟩:=h
 exact ⟨h1,cs,(hb.block q (blk_lt h2)).trans h2⟩
theorem Fre.put {w:World} {B z q:Nat} (h:Fre w B z) (hq:Vq w q) (n b kk:Value):Fre (((w.setCell ⟨q,0,none⟩ n).setCell ⟨q,1,none⟩ b).setCell ⟨q,2,none⟩ kk) B z:=by
 obtain ⟨h1,cs,h2⟩:=h
 exact ⟨h1,cs,(put_other _ _ _ (blk_type h2 hq.blk (by decide))).trans h2⟩
theorem Told.tb {w:World} {g:Nat} {A:Ab} {C:Cn} {v:Value} {bs:List UInt8} (h:Told w g A C v bs):TB w v bs:=
 ⟨h.len,fun hn=>by
  obtain ⟨b,o,cap,h1,h2,h3⟩:=h.cells hn
  exact ⟨b,o,cap,h1,h2,fun j hj=>(h3 j hj).1⟩⟩
theorem Told.up {w w':World} {B g:Nat} {T:List UInt8} {A:Ab} {C:Cn} {v:Value} {bs:List UInt8} (h:Told w g A C v bs) (hr:Rep w B g T A C) (hb:Below w.heap.size w w'):Told w' g A C v bs:=
 h.stay (hr.below hb).stay hb.size
theorem at_synO {wI w0 w:World} {C0 C:Cn} {B g p f k off:Nat} {q:Addr} {T:List UInt8} {sk:Bool} {A:Ab} (h:At wI w0 C0 B g T sk w p f k A C) (at_:Nat) (hp:f+off=at_) (ho:at_≤p) :
  Calls Tryz.prog 50 #[.pointer (some ⟨g,0,none⟩),.int .i64 (off:Int),.iface 167 (.pointer (some q))] w fun e w'=>∃ qe A',e=.returned (.iface 121 (.pointer (some ⟨qe,0,none⟩)))∧
   ErrAt w' qe ((fltAt T f at_).1:Int) ((fltAt T f at_).2:Int) (.iface 167 (.pointer (some q)))∧Nx wI w0 C0 B g T sk w A C w' p f (fpart k) A' C:=by
 have e1:=h.at_
 have e2:=h.from_
 have hoff:A.from_+off≤A.at_:=by omega
 refine (syntax_spec off 167 (.pointer (some q)) h.rep hoff).mono ?_
 rintro e w' ⟨qe,rfl,_,h2,h3⟩
 refine ⟨qe,_,rfl,?_,h.step h3 ⟨h.is.at_,h.is.from_,?_,h.is.skip,h.is.line,h.is.esc⟩⟩
 ·rw [errLine_is h.is.line hoff] at h2
  have:errCol T A off=(((fltAt T A.from_ (A.from_+off)).2:Nat):Int):=by
   unfold errCol fltAt
   rw [Nat.add_sub_cancel_left]
   rfl
  rw [this] at h2
  rw [e2,hp] at h2
  exact h2
 ·show errPart A=fpart k
  unfold errPart fpart
  rw [h.part]
theorem vMap_good {T:List UInt8} {p n kd:Nat} {s2:PS} {a b:List UInt8} {num:Int} {st:Bool} (h:nvR n b=.good num st kd):vMap T p (s2,.got (a,n,b))=(s2,.got a n b num st kd):=by
 unfold vMap
 dsimp only
 rw [h]
theorem vMap_bad {T:List UInt8} {p n:Nat} {s2:PS} {a b:List UInt8} {out:Bool} (h:nvR n b=.bad out):vMap T p (s2,.got (a,n,b))=(⟨s2.at_,s2.from_,fpart s2.part⟩,.bad (fltAt T s2.from_ (p+tkN 3 T p+1)) out):=by
 unfold vMap
 dsimp only
 rw [h]
def laid (w:World) (n b k:Value):World:=w.alloc (.cells #[n,b,k] 57)
theorem laid_below {w w5:World} (h:Below w.heap.size w w5) (n b k:Value):Below w.heap.size w (laid w5 n b k):=h.alloc h.size _
theorem laid_blk (w:World) (n b k:Value):(laid w n b k).heap[w.heap.size]?=some (.cells #[n,b,k] 57 (0,0)):=heap_alloc_new _ _
theorem NvPost.good_ {w w':World} {aO:Addr} {k l c:Nat} {a:Option Addr} {n:Int} {st:Bool} {e:Ending} (h:NvPost w aO (.slice a l c) (.good n st k) e w'):∃ xa xl xc,stV st (.slice a l c)=.slice xa xl xc∧e=.returned (.tuple #[.agg #[.int .u64 n,.slice xa xl xc,.int .u8 (k:Int)],.nilIface])∧Below w.heap.size w w':=by
 cases st with
 | true=>exact ⟨a,l,c,rfl,h⟩
 | false=>exact ⟨none,0,0,rfl,h⟩
theorem laid_facts {w6:World} {q:Nat} {n b k:Value} (h:w6.heap[q]?=some (.cells #[n,b,k] 57 (0,0))):w6.cell? ⟨q,0,none⟩=some n∧w6.cell? ⟨q,1,none⟩=some b∧w6.cell? ⟨q,2,none⟩=some k:=
 ⟨blk_cell h 0,blk_cell h 1,blk_cell h 2⟩
theorem Vq.drew {w:World} {q:Nat} (h:Vq w q):Vq w.drew q:=⟨h.blk⟩
set_option maxHeartbeats 8000000 in
theorem nf_spec {wI w:World} {B g p f k:Nat} {aR aS aO:Addr} {T:List UInt8} {A:Ab} {C:Cn} (hI:Init wI B) (hT:Tabs wI B) (hV:EV wI B aR aS aO) (hT8:T.length≤800) (h:At wI w C B g T false w p f k A C) :
  Calls Tryz.prog 28 #[.pointer (some ⟨g,0,none⟩)] w (NfPost w B aO g T C (valF T ⟨p,f,k⟩)):=by
 have hba:=h.base
 have hlt:=h.rep.lt
 have HI:=Lib.hid hI
 have HT:=Lib.hid hT
 have HV:=Lib.hid hV
 have hx:=h.below ((Below.refl w.heap.size w).alloc (Nat.le_refl _) (.cells #[.int .u64 0,.slice none 0 0,.int .u8 0] 57))
 have hq:Vq (w.alloc (.cells #[.int .u64 0,.slice none 0 0,.int .u8 0] 57)) w.heap.size:=⟨heap_alloc_new _ _⟩
 have H1:=Lib.hid hx.to_
 have HQ:=Lib.hid hq
 have hfresh:At wI (w.alloc (.cells #[.int .u64 0,.slice none 0 0,.int .u8 0] 57)) C B g T false (w.alloc (.cells #[.int .u64 0,.slice none 0 0,.int .u8 0] 57)) p f k A C:=
  ⟨hx.to_.rep,Pas.refl _ _ _,hx.to_.is,hx.to_.low⟩
 have HADV:=Lib.hid (adv_spec 2 (by omega) hI hfresh)
 obtain ⟨⟨p1,f1,k1⟩,hs1⟩:∃ s,(advP T 2 ⟨p,f,k⟩).1=s:=⟨_,rfl⟩
 obtain ⟨fo,hfo⟩:∃ s,(advP T 2 ⟨p,f,k⟩).2=s:=⟨_,rfl⟩
 obtain ⟨R,hR⟩:∃ R,valF T ⟨p,f,k⟩=R:=⟨_,rfl⟩
 have hR2:vMap T p1 (ResMap ⟨p1,f1,k1⟩ fo (fieldP false T ⟨p1,f1,k1⟩))=R:=by
  rw [←hR]
  unfold valF fieldF
  rw [hs1,hfo]
 rw [hs1,hfo] at HADV
 rw [hR]
 have HR:=Lib.hid hR2
 obtain ⟨q,hqq⟩:∃ q,w.heap.size=q:=⟨_,rfl⟩
 have HB:=Lib.hid (show B≤q by omega)
 have HW:=Lib.hid (show w.heap.size≤q by omega)
 rw [hqq] at HQ
 clear hI hT hV h hx hq hfresh hs1 hfo hR hR2
 go_enter Tryz.func28,Tryz.ntmps28
 go_wp2_with fail
 refine HADV.out.mono ?_
 clear HADV
 rintro ex w2 ⟨A1,C1,ev,rfl,hr1,hpa1,his1,hfl⟩
 have AT:=Lib.hid (H1.out.call hr1 hpa1 his1)
 have Q2:=Lib.hid (HQ.out.step H1.out.rep hpa1)
 clear hr1 hpa1 his1 H1 HQ
 cases fo with
 | some fl=>
  have hR3:(⟨p1,f1,k1⟩,VRes.flt fl)=R:=HR.out
  subst hR3
  clear HR
  obtain ⟨qe,q2e,rfl,hf2,hf3⟩:=hfl
  have HF:=Lib.hid hf2
  have HF3:=Lib.hid hf3
  clear hf2 hf3
  rw [show decide ((some fl:Option Flt)=none∧k1=2)=false from decide_eq_false (fun h=>by cases h.1)]
  obtain ⟨v1,v2,v3,v4,v5,v6⟩:=Q2.out.facts
  go_wp2_with fail
  refine bodyPost_ret (res_tct rfl _ _ q 57 #[.int .u64 0,.slice none 0 0,.int .u8 0] (0,0) rfl (Q2.out.put _ _ _) Tryz.underlying57 (by kernel_rfl)) rfl ?_
  exact nf_bad AT.out Q2.out HW.out HB.out fun w' hw=>⟨rfl,rfl,qe,q2e,rfl,by rw [hw];exact errAt_put HF.out Q2.out _ _ _,by rw [hw];exact HF3.out.put Q2.out _ _ _⟩
 | none=>
  have hev:ev=.nilIface:=hfl
  subst hev
  clear hfl
  by_cases hp:k1=2
  ·subst hp
   rw [show decide ((none:Option Flt)=none∧(⟨p1,f1,2⟩:PS).part=2)=true from decide_eq_true ⟨rfl,rfl⟩]
   have c2:=AT.out.rep.c2
   have c3:=AT.out.rep.c3
   have hbl:=AT.out.rep.bl_le
   have hr1:=AT.out.rep.le1
   have hr0:=AT.out.rep.le01
   have hat:=AT.out.rep.at_
   have e0:=AT.out.at_
   have e5:=AT.out.from_
   have b1:(C1.r1:Int)≤5000:=by omega
   have b2:(C1.r0:Int)≤5000:=by omega
   have b3:(0:Int)≤C1.r0:=by omega
   have b4:(0:Int)≤C1.r1:=by omega
   have HD:Hid ((C1.r1:Int)-(C1.r0:Int)=((p1-f1:Nat):Int)):=Lib.hid (by omega)
   clear hbl hr1 hr0 hat e0 e5
   have ATN:=Lib.hid (fun n=>(AT.out.drewN n).to_)
   have QN:=Lib.hid (fun n=>Q2.out.below (w':=w2.drewN n) (below_drewN (Below.refl _ _) n))
   go_wp2_with fail
   go_quiet (fail)
   rw [HD.out]
   clear b1 b2 b3 b4 c2 c3 HD
   go_wp2_with fail
   obtain ⟨w3,hw3⟩:∃ w3,w2.drewN nq=w3:=⟨_,rfl⟩
   have AT3:=ATN.out nq
   have Q3:=Lib.hid (QN.out nq)
   rw [hw3] at AT3 Q3
   rw [hw3]
   clear hw3 ATN QN AT Q2 nq w2
   have HFLD:=Lib.hid (field_full HI.out (⟨AT3.rep,Pas.refl _ _ _,AT3.is,AT3.low⟩:At wI w3 C1 B g T false w3 p1 f1 2 A1 C1))
   have H3:=Lib.hid AT3
   clear AT3
   have hFF:fieldF T ⟨p1,f1,2⟩=fieldP false T ⟨p1,f1,2⟩:=by unfold fieldF;rw [advP_two];rfl
   rw [hFF] at HFLD
   clear hFF
   obtain ⟨⟨⟨p4,f4,k4⟩,res⟩,hres⟩:∃ r,fieldP false T ⟨p1,f1,2⟩=r:=⟨_,rfl⟩
   rw [hres] at HFLD
   have hR4:=HR.out
   rw [hres] at hR4
   clear HR
   have HO0:Hid (f1+(p1-f1)=p1):=Lib.hid (by have:=H3.out.le;omega)
   generalize p1-f1=o0 at *
   refine HFLD.out.mono ?_
   clear HFLD
   rintro ex w4 ⟨A4,C4,kv,kd,vv,ev,rfl,hr4,hpa4,his4,hfl⟩
   have AT4:=Lib.hid (H3.out.call hr4 hpa4 his4)
   have Q4:=Lib.hid (Q3.out.step H3.out.rep hpa4)
   clear hr4 hpa4 his4 H3 Q3
   cases res with
   | flt fl=>
    have hR3:(⟨p4,f4,k4⟩,VRes.flt fl)=R:=hR4
    subst hR3
    obtain ⟨rfl,rfl,rfl,qe,q2e,rfl,hf2,hf3⟩:=hfl
    have HF:=Lib.hid hf2
    have HF3:=Lib.hid hf3
    clear hf2 hf3 hR4 hres
    obtain ⟨v1,v2,v3,v4,v5,v6⟩:=Q4.out.facts
    go_wp2_with fail
    refine bodyPost_ret (res_tct rfl _ _ q 57 #[.int .u64 0,.slice none 0 0,.int .u8 0] (0,0) rfl (Q4.out.put _ _ _) Tryz.underlying57 (by kernel_rfl)) rfl ?_
    exact nf_bad AT4.out Q4.out HW.out HB.out fun w' hw=>⟨rfl,rfl,qe,q2e,rfl,by rw [hw];exact errAt_put HF.out Q4.out _ _ _,by rw [hw];exact HF3.out.put Q4.out _ _ _⟩
   | non=>
    have hR3:(⟨p4,f4,k4⟩,VRes.non)=R:=hR4
    subst hR3
    obtain ⟨rfl,rfl,rfl,rfl⟩:=hfl
    clear hR4 hres
    have hnil:=Lib.run_eql_slice_nil (P:=Tryz.prog) w4 54 5 none 0 0 0 0 Tryz.underlying54
    obtain ⟨v1,v2,v3,v4,v5,v6⟩:=Q4.out.facts
    go_wp2_with fail
    refine bodyPost_ret (res_tct rfl _ _ q 57 #[.int .u64 0,.slice none 0 0,.int .u8 0] (0,0) rfl (Q4.out.put _ _ _) Tryz.underlying57 (by kernel_rfl)) rfl ?_
    exact nf_bad AT4.out Q4.out HW.out HB.out fun w' hw=>⟨rfl,rfl,rfl⟩
   | got abc=>
    obtain ⟨a,n,b⟩:=abc
    obtain ⟨htk,hane,rfl,htv,rfl⟩:=hfl
    obtain ⟨_,hak,hn15,hbl,hval,hff,hpp⟩:=field_got hres
    have hkl:=key_len T p1
    rw [←hak] at hkl
    obtain ⟨kn,hkn⟩:∃ x,tkN 3 T p1=x:=⟨_,rfl⟩
    rw [hkn] at hkl hpp
    replace hpp:p1+kn+1≤p4:=hpp
    have hR5:vMap T p1 (⟨p4,f4,k4⟩,.got (a,n,b))=R:=hR4
    have hin4:=AT4.out.inT
    have HKS:Hid ((sOf a).size≤100000):=Lib.hid (by
     rw [sOf_size]
     have:=hkl.1
     rw [eslN_ct] at this
     omega)
    have HKN:=Lib.hid hkl.1
    have HK0:=Lib.hid hkl.2
    have HPP:Hid (p1+kn+1≤p4):=Lib.hid hpp
    have WA:IntKind.i64.wrap ((kn:Int)+1)=((kn+1:Nat):Int):=by rw [IntWalk.i64_in _ (by omega)];omega
    have WB:IntKind.i64.wrap ((o0:Int)+((kn+1:Nat):Int))=((o0+(kn+1):Nat):Int):=by have:=HO0.out;rw [IntWalk.i64_in _ (by omega)];omega
    have htk':=htk
    obtain ⟨kb,ko,kcap,hkv,_,_⟩:=htk'.cells hane
    subst hkv
    have TBK:=Lib.hid htk.tb
    have htv':=htv
    obtain ⟨va,vcap,hvv⟩:=htv'.len
    subst hvv
    have HTK:=Lib.hid htk
    have HTV:=Lib.hid htv
    have HNE:=Lib.hid hane
    have hsz:=AT4.out.base
    have HNV:=Lib.hid (nvR_spec (w:=w4) (B:=B) (aR:=aR) (aS:=aS) (aO:=aO) (a:=va) (cap:=vcap) (chk:=false) hn15 (L:=b) (by omega) hval (HT.out.low AT4.out.low hsz) (HV.out.low AT4.out.low hsz) (fun h=>by cases h)
     (fun w' hw=>HI.out.tabAt (AT4.out.low.trans (LowEq.of_below hw hsz))) htv.tb)
    have HN15:=Lib.hid hn15
    obtain ⟨rv,hrv⟩:∃ r,nvR n b=r:=⟨_,rfl⟩
    rw [hrv] at HNV
    have HR5:=Lib.hid hR5
    have HRV:=Lib.hid hrv
    have HFF:Hid (f4=f1):=Lib.hid hff
    have HKK:=Lib.hid hkn
    have hnil:=Lib.run_eql_slice_nil (P:=Tryz.prog) w4 54 5 (some ⟨kb,ko,none⟩) a.length kcap 0 0 Tryz.underlying54
    clear hkl hpp hR5 hR4 hres hin4 htk htk' htv htv' hane hsz hn15 hval hff hkn hrv hbl hak
    go_wp2_with fail
    refine HNV.out.mono ?_
    clear HNV hnil
    cases rv with
    | good num st kd=>
     have hR6:(⟨p4,f4,k4⟩,VRes.got a n b num st kd)=R:=by rw [←HR5.out];exact (vMap_good HRV.out).symm
     subst hR6
     intro ex w5 hpost
     obtain ⟨xa,xl,xc,hbv,rfl,hb5⟩:=hpost.good_
     have HBV:=Lib.hid hbv
     clear hbv hpost
     have hb6:=laid_below hb5 (.int .u64 num) (.slice xa xl xc) (.int .u8 (kd:Int))
     have AT6:=Lib.hid (AT4.out.below hb6).to_
     have Q6:=Lib.hid (Q4.out.below hb6)
     have TK6:=Lib.hid (HTK.out.up AT4.out.rep hb6)
     have TV6:=Lib.hid (HTV.out.up AT4.out.rep hb6)
     have QF:=Lib.hid (laid_blk w5 (.int .u64 num) (.slice xa xl xc) (.int .u8 (kd:Int)))
     obtain ⟨w6,hw6⟩:∃ w6,laid w5 (.int .u64 num) (.slice xa xl xc) (.int .u8 (kd:Int))=w6:=⟨_,rfl⟩
     rw [hw6] at AT6 Q6 TK6 TV6 QF
     have HW6:=Lib.hid hw6
     clear hw6 hb6 hb5
     go_wp2_with fail
     have hw6:=HW6.out
     unfold laid at hw6
     rw [hw6]
     clear hw6 HW6
     obtain ⟨q6,hq6⟩:∃ q6,w5.heap.size=q6:=⟨_,rfl⟩
     rw [hq6] at QF
     rw [hq6]
     clear hq6
     obtain ⟨v1,v2,v3,v4,v5,v6⟩:=Q6.out.facts
     obtain ⟨u1,u2,u3⟩:=laid_facts QF.out
     go_still_tail 3,(by kernel_rfl)
     change wpList _ _ _ _ _ w6.drew
     go_wp2_with fail
     have AD:=(AT6.out.drew).to_
     have QD:=Q6.out.drew
     have hNV:=nvR_ok n b
     rw [HRV.out] at hNV
     rw [show (((w6.setCell ⟨q,0,none⟩ (.int .u64 num)).setCell ⟨q,1,none⟩ (.slice xa xl xc)).setCell ⟨q,2,none⟩ (.int .u8 (kd:Int))).drew=(((w6.drew.setCell ⟨q,0,none⟩ (.int .u64 num)).setCell ⟨q,1,none⟩ (.slice xa xl xc)).setCell ⟨q,2,none⟩ (.int .u8 (kd:Int))) from rfl]
     refine bodyPost_ret (res_tct rfl _ _ q 57 #[.int .u64 num,.slice xa xl xc,.int .u8 (kd:Int)] (0,0) rfl (QD.put _ _ _) Tryz.underlying57 (by kernel_rfl)) rfl ?_
     obtain ⟨e1,e2⟩:=nf_end (aO:=aO) AD QD HW.out HB.out (.int .u64 num) (.slice xa xl xc) (.int .u8 (kd:Int))
     have tk:Told w6.drew g A4 C4 (.slice (some ⟨kb,ko,none⟩) a.length kcap) a:=TK6.out.up AT6.out.rep (Below.refl _ _).drew
     have tv:Told w6.drew g A4 C4 (.slice va b.length vcap) b:=TV6.out.up AT6.out.rep (Below.refl _ _).drew
     refine ⟨A4,C4,_,_,_,rfl,e1,e2,AD.is,tk.put QD.blk _ _ _ (.inr HK0.out),HNE.out,rfl,hNV,.slice va b.length vcap,fun hst=>tv.put QD.blk _ _ _ (.inl ?_),?_⟩
     ·rcases hNV.1 with h | h
      ·exact h.2
      ·rw [hst] at h;cases h.1
     ·unfold valV
      rw [HBV.out]
    | bad out=>
     have hR6:(⟨p4,f4,fpart k4⟩,VRes.bad (fltAt T f4 (p1+tkN 3 T p1+1)) out)=R:=by rw [←HR5.out];exact (vMap_bad (s2:=⟨p4,f4,k4⟩) (T:=T) (p:=p1) (a:=a) HRV.out).symm
     subst hR6
     intro ex w5 hpost
     obtain ⟨ev,rfl,hb5,qv,rfl,ho1,ho2,ho3⟩:=hpost
     have HQV:=Lib.hid ho1
     have HQ5:Hid (out=false→Fre w5 B qv.block):=Lib.hid (fun h=>⟨by have:=(ho2 h).1;have:=AT4.out.base;omega,(ho2 h).2.2⟩)
     have HQ6:Hid (out=false→Fre (laid w5 (.int .u64 0) (.slice none 0 0) (.int .u8 0)) B qv.block):=Lib.hid (fun h=>(HQ5.out h).below ((Below.refl _ _).alloc (Nat.le_refl _) _))
     clear ho1 ho2 ho3
     have hb6:=laid_below hb5 (.int .u64 0) (.slice none 0 0) (.int .u8 0)
     have AT6:=Lib.hid (AT4.out.below hb6).to_
     have Q6:=Lib.hid (Q4.out.below hb6)
     have TK6:=Lib.hid (HTK.out.up AT4.out.rep hb6).tb
     obtain ⟨w6,hw6⟩:∃ w6,laid w5 (.int .u64 0) (.slice none 0 0) (.int .u8 0)=w6:=⟨_,rfl⟩
     rw [hw6] at AT6 Q6 TK6 HQ6
     clear HQ5
     have HW6:=Lib.hid hw6
     clear hw6 hb6 hb5 TBK
     have TBK:=TK6
     unfold valV
     go_wp2_with fail
     have hw6:=HW6.out
     unfold laid at hw6
     rw [hw6]
     clear hw6 HW6
     refine start_ (n:=8) (S:=fun w'=>Below (w6).heap.size (w6) w') (ds:=[]) (bA 8 0) (by kernel_rfl) rfl rfl (Below.refl _ _).drew (fun _=>?_)
     refine pure_ (i:=0) (N:=some 55) (v:=?_) (a':=?_) (bA 8 1) rfl rfl (by kernel_rfl) (fun _ _ _ h=>h) (Or.inl ⟨by rfl,?_⟩) ?_ ?_
     rotate_left
     ·intro w';go_simp;with_reducible rfl
     rotate_left
     ·simp only [Act.put,aA,aB,aC,WA,WB];rfl
     refine pure_ (i:=2) (N:=some 57) (v:=?_) (a':=?_) (bA 8 5) rfl rfl (by kernel_rfl) (fun _ _ _ h=>h) (Or.inl ⟨by rfl,?_⟩) ?_ ?_
     rotate_left
     ·intro w';go_simp;with_reducible rfl
     rotate_left
     ·simp only [Act.put,aA,aB,aC,WA,WB];rfl
     refine take_ (i:=3) (N:=some 58) (v:=?_) (a':=?_) (bA 8 13) rfl rfl (by kernel_rfl) (fun _ _ _ h=>h) (Or.inl ⟨by rfl,?_⟩) (Below.refl _ _).drew ?_ ?_
     rotate_left
     ·intro w' hS;have hcv:=conv_told (TBK.out.below hS);go_simp;with_reducible rfl
     rotate_left
     ·simp only [Act.put,aA,aB,aC,WA,WB];rfl
     refine one_ (i:=1) (N:=some 56) (bA 8 15) rfl rfl (by kernel_rfl) (by decide) (fun K hK=>?_)
     refine call_ 58 #[] (by rfl) rfl (by go_simp) ?_
     refine (esc_58 _).mono ?_
     rintro e wn ⟨an,rfl,_,_,hcn,hbn⟩
     have hbn2:Below (w6).heap.size (w6) wn:=(Below.refl _ _).drew.trans hbn
     refine ⟨_,rfl,hK.out _ _ hbn2 (fun _=>?_)⟩
     clear hK K
     have HCN:=Lib.hid hcn
     have HBN:=Lib.hid hbn2
     clear hcn hbn hbn2
     refine one_ (i:=4) (N:=some 59) (bA 8 31) rfl rfl (by kernel_rfl) (by decide) (fun K hK=>?_)
     refine call_ 62 #[.pointer (some ⟨an,0,none⟩),.string (sOf a)] (by rfl) rfl (by go_simp) ?_
     refine (esl_spec HKS.out HCN.out).mono ?_
     rintro e wn' ⟨rfl,rfl⟩
     rw [HKN.out]
     refine ⟨_,rfl,hK.out _ _ HBN.out (fun _=>?_)⟩
     clear hK K
     refine pure_ (i:=5) (N:=some 60) (v:=?_) (a':=?_) (bA 8 63) rfl rfl (by kernel_rfl) (fun _ _ _ h=>h) (Or.inl ⟨by rfl,?_⟩) ?_ ?_
     rotate_left
     ·intro w';go_simp;with_reducible rfl
     rotate_left
     ·simp only [Act.put,aA,aB,aC,WA,WB];rfl
     refine pure_ (i:=6) (N:=some 61) (v:=?_) (a':=?_) (bA 8 127) rfl rfl (by kernel_rfl) (fun _ _ _ h=>h) (Or.inl ⟨by rfl,?_⟩) ?_ ?_
     rotate_left
     ·intro w';go_simp;with_reducible rfl
     rotate_left
     ·simp only [Act.put,aA,aB,aC,WA,WB];rfl
     refine pure_ (i:=7) (N:=some 7) (v:=?_) (a':=?_) (bA 8 255) rfl rfl (by kernel_rfl) (fun _ _ _ h=>h) (Or.inl ⟨by rfl,?_⟩) ?_ ?_
     rotate_left
     ·intro w';go_simp;with_reducible rfl
     rotate_left
     ·simp only [Act.put,aA,aB,aC,WA,WB];rfl
     refine done_ (by kernel_rfl) ?_
     clear WA WB
     have WB:IntKind.i64.wrap ((o0:Int)+((kn:Int)+1))=((o0+(kn+1):Nat):Int):=by have h1:=HO0.out;have h2:=HPP.out;have h3:=AT4.out.inT;rw [IntWalk.i64_in _ (by omega)];omega
     rw [WB]
     have HOFF:Hid (f4+(o0+(kn+1))=p1+kn+1):=Lib.hid (by have h1:=HO0.out;have h2:=HFF.out;omega)
     clear WB
     generalize o0+(kn+1)=off at *
     have AT7:=Lib.hid (AT6.out.below HBN.out).to_
     have Q7:=Lib.hid (Q6.out.below HBN.out)
     have HSYN:=Lib.hid (at_synO (q:=qv) AT7.out (p1+kn+1) HOFF.out HPP.out)
     have HQ7:Hid (out=false→Fre _ B qv.block):=Lib.hid (fun h=>(HQ6.out h).below HBN.out)
     clear HOFF HBN AT6 Q6 HCN TBK HQ6
     go_wp2_with fail
     refine HSYN.out.mono ?_
     clear HSYN
     rintro ex w8 ⟨qe,A8,rfl,hfl,x8⟩
     have AT8:=Lib.hid x8.to_
     have Q8:=Lib.hid (Q7.out.step AT7.out.rep x8.st.pas)
     have HF:=Lib.hid hfl
     have HQ8:Hid (out=false→Fre w8 B qv.block):=Lib.hid (fun h=>(HQ7.out h).step AT7.out.rep x8.st.pas)
     clear HQ7
     clear hfl x8
     obtain ⟨v1,v2,v3,v4,v5,v6⟩:=Q8.out.facts
     go_wp2_with fail
     refine bodyPost_ret (res_tct rfl _ _ q 57 #[.int .u64 0,.slice none 0 0,.int .u8 0] (0,0) rfl (Q8.out.put _ _ _) Tryz.underlying57 (by kernel_rfl)) rfl ?_
     refine nf_bad AT8.out Q8.out HW.out HB.out fun w' hw=>⟨rfl,rfl,qe,qv,rfl,?_,HQV.out,fun h=>by rw [hw];exact (HQ8.out h).put Q8.out _ _ _⟩
     rw [hw,HKK.out]
     exact errAt_put HF.out Q8.out _ _ _
  ·have hR3:(⟨p1,f1,k1⟩,VRes.non)=R:=by
    have h2:fieldP false T ⟨p1,f1,k1⟩=(⟨p1,f1,k1⟩,.non):=by unfold fieldP;rw [if_neg hp]
    rw [←HR.out,h2]
    rfl
   subst hR3
   clear HR
   rw [show decide ((none:Option Flt)=none∧(⟨p1,f1,k1⟩:PS).part=2)=false from decide_eq_false (fun h=>hp h.2)]
   have HP:=Lib.hid hp
   clear hp
   obtain ⟨v1,v2,v3,v4,v5,v6⟩:=Q2.out.facts
   go_wp2_with fail
   refine bodyPost_ret (res_tct rfl _ _ q 57 #[.int .u64 0,.slice none 0 0,.int .u8 0] (0,0) rfl (Q2.out.put _ _ _) Tryz.underlying57 (by kernel_rfl)) rfl ?_
   exact nf_bad AT.out Q2.out HW.out HB.out fun w' hw=>⟨rfl,rfl,rfl⟩
end Go.Proofs.YtkfggfjdplnkpaaGreatDoor
end
