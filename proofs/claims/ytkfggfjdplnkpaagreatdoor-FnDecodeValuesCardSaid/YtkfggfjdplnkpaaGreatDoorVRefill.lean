/- A part of the proof that the law FnDecodeValues returns true; its conditions are those of the last part. -/
import Derived.Test.YtkfggfjdplnkpaaGreatDoorVMore
set_option maxRecDepth 100000
set_option linter.unusedVariables false
set_option linter.unusedSimpArgs false
section
namespace Go.Proofs.YtkfggfjdplnkpaaGreatDoor
open Go.RowKit
def SrcM (T:Nat) (sizes:List Int) (n K m:Nat):Prop:=
 sizes=[]∧m=(T-K)*1001∨sizes≠[]∧∃ q,n≤q∧0<sizes.getD (q % sizes.length) 0∧q<(K+1)*sizes.length∧m=(T-K)*1001+(q-n)
theorem srcM_next {T:List UInt8} {sizes:List Int} {n K m pn:Nat} (h:SrcM T.length sizes n K m) (hs:sizes.length≤1000) (hT:T.length≤1000) (hp:4096≤pn) (hL:T.drop K≠[]) :
  ∃ m',m'<m∧SrcM T.length sizes (if T.drop K=[]∨sizes=[] then n else n+1) (K+readN (T.drop K) sizes n pn) m':=by
 have hl:0<(T.drop K).length:=List.length_pos_iff.2 hL
 rw [List.length_drop] at hl
 rcases h with ⟨h1,h2⟩ | ⟨h1,q,h2,h3,h4,h5⟩
 ·refine ⟨(T.length-(K+readN (T.drop K) sizes n pn))*1001,?_,.inl ⟨h1,rfl⟩⟩
  have:readN (T.drop K) sizes n pn=T.length-K:=by simp [readN,h1]
  rw [this,h2];omega
 ·have hlen:0<sizes.length:=List.length_pos_iff.2 h1
  have hi:(if T.drop K=[]∨sizes=[] then n else n+1)=n+1:=if_neg (by simp [hL,h1])
  have hk:readN (T.drop K) sizes n pn=Nat.min (T.length-K) (Nat.min (max 0 (sizes.getD (n % sizes.length) 0)).toNat pn):=by simp [readN,h1]
  rw [hi]
  by_cases hz:0<sizes.getD (n % sizes.length) 0
  ·have hk1:1≤readN (T.drop K) sizes n pn:=by
    rw [hk]
    have:1≤(max 0 (sizes.getD (n % sizes.length) 0)).toNat:=by omega
    generalize (max 0 (sizes.getD (n % sizes.length) 0)).toNat=x at this ⊢
    show 1≤min _ (min x pn)
    omega
   have hk2:readN (T.drop K) sizes n pn≤T.length-K:=by have:=readN_le (T.drop K) sizes n pn;rwa [List.length_drop] at this
   generalize readN (T.drop K) sizes n pn=k at hk1 hk2 ⊢
   refine ⟨(T.length-(K+k))*1001+(n+sizes.length-(n+1)),?_,.inr ⟨h1,n+sizes.length,by omega,?_,?_,rfl⟩⟩
   ·rw [h5];omega
   ·rw [Nat.add_mod_right];exact hz
   ·have h6:(K+1)*sizes.length+sizes.length≤(K+k+1)*sizes.length:=by
     rw [←Nat.succ_mul];exact Nat.mul_le_mul_right _ (by omega)
    omega
  ·have hk0:readN (T.drop K) sizes n pn=0:=by
    rw [hk]
    have:(max 0 (sizes.getD (n % sizes.length) 0)).toNat=0:=by omega
    rw [this]
    show min _ (min 0 pn)=0
    omega
   have hnq:n≠q:=by rintro rfl;exact hz h3
   refine ⟨(T.length-K)*1001+(q-(n+1)),by omega,.inr ⟨h1,q,by omega,h3,by rw [hk0];exact h4,by rw [hk0];rfl⟩⟩
theorem srcM_bound {T:Nat} {sizes:List Int} {n K m:Nat} (h:SrcM T sizes n K m) (hs:sizes.length≤1000) (hK:K≤1000) (hn:n≤10000000):(if sizes=[] then n else n+1)≤10000000:=by
 rcases h with ⟨h1,_⟩ | ⟨h1,q,h2,_,h4,_⟩
 ·rw [if_pos h1];exact hn
 ·rw [if_neg h1]
  have:(K+1)*sizes.length≤1001*1000:=Nat.mul_le_mul (by omega) hs
  omega
theorem take_more {α:Type} (l:List α) (a k:Nat):l.take a++(l.drop a).take k=l.take (a+k):=by
 rw [List.take_add]
structure Step (w:World) (B g:Nat) (T:List UInt8) (A:Ab) (C:Cn) (w':World) (A':Ab) (C':Cn):Prop where
 rep:Rep w' B g T A' C'
 pas:Pas g w C w' C'
 stay:Stay g w A C w' A' C'
theorem Step.trans {w w1 w2:World} {B g:Nat} {T:List UInt8} {A A1 A2:Ab} {C C1 C2:Cn} (h:Step w B g T A C w1 A1 C1) (k:Step w1 B g T A1 C1 w2 A2 C2):Step w B g T A C w2 A2 C2:=
 ⟨k.rep,h.pas.trans k.pas,h.stay.trans k.stay h.pas.only.size⟩
theorem cn_rb {C:Cn} {t:TypeId} {a:Addr} (h:C.rd=.iface t (.pointer (some a))):C.rb=some a.block:=by simp [Cn.rb,h]
theorem ownsRow_only {S:Nat→Prop} {w w':World} {base:Nat} {e:TypeId} {size n:Nat} {v:Value} {xs:List Value} (h:w.ownsRow base e size v n xs) (ho:Only S w w') (hn:∀ b,v.ownBlock=some b→¬S b):w'.ownsRow base e size v n xs:=by
 obtain ⟨h1,h2⟩:=h
 refine ⟨h1,?_⟩
 rcases h2 with h2 | ⟨g,cap,cur,hv,hg,hh,r⟩
 ·exact .inl h2
 ·exact .inr ⟨g,cap,cur,hv,hg,(ho.block g (blk_lt hh) (hn g (by rw [hv];rfl))).trans hh,r⟩
theorem ownsF_only {S:Nat→Prop} {w w':World} {base n:Nat} {k:Bool} {v:Value} {xs:List Value} (h:OwnsF w base k v n xs) (ho:Only S w w') (hn:∀ b,v.ownBlock=some b→¬S b):OwnsF w' base k v n xs:=by
 obtain ⟨h1,h2⟩:=h
 refine ⟨h1,?_⟩
 rcases h2 with h2 | ⟨g,cap,cur,hv,hg,hh,r⟩
 ·exact .inl h2
 ·exact .inr ⟨g,cap,cur,hv,hg,(ho.block g (blk_lt hh) (hn g (by rw [hv];rfl))).trans hh,r⟩
theorem bm_rb {C:Cn} {k:Nat} (h:C.rb=some k):C.bm=false:=by
 unfold Cn.rb at h
 unfold Cn.bm
 split
 ·next e=>rw [e] at h;cases h
 ·rfl
theorem Rep.ev_ne {w:World} {B g:Nat} {T:List UInt8} {A:Ab} {C:Cn} (h:Rep w B g T A C) {b:Nat} (hb:C.ev.ownBlock=some b):b<w.heap.size∧∃ cur,w.heap[b]?=some (.cells cur 5 (0,0)):=by
 rcases h.esc.2 with ⟨hv,_⟩ | ⟨g',cap,cur,hv,_,hh,_⟩
 ·rw [hv] at hb;simp [Value.ownBlock] at hb
 ·rw [hv] at hb
  obtain rfl:g'=b:=by simpa [Value.ownBlock] using hb
  exact ⟨blk_lt hh,cur,hh⟩
theorem refill {w w':World} {B g rb bb K k:Nat} {T:List UInt8} {A:Ab} {C:Cn} {cs:Array Value} {S:Nat→Prop} (h:Rep w B g T A C)
  (hK:A.from_+(C.bl-C.r0)=K) (hk:k≤(T.drop K).length) (hrb:C.rb=some rb) (hrt:∃ c,w.heap[rb]?=some (.cells c 105 (0,0))) (hrt':∃ c,w'.heap[rb]?=some (.cells c 105 (0,0)))
  (hg':w'.heap[g]?=some (.cells (dcells { C with bv:=.slice (some ⟨bb,0,none⟩) (C.bl+k) 8192,bl:=C.bl+k,bx:=C.bx++((T.drop K).map bcell).take k,cmp:=decide (T.drop K=[]) } A) 83 (0,0)))
  (hp':w'.heap[bb]?=some (.cells cs 5 (0,0))) (hcs:cs.size=8192) (hct:cs.toList.take (C.bl+k)=C.bx++((T.drop K).map bcell).take k) (h8:C.bl+k≤8192)
  (hB:B≤bb) (hev:C.ev.ownBlock≠some bb) (ho:Only S w w') (hS:∀ b,S b→b=g∨b=rb∨b=bb) (hbb:C.bv.ownBlock=some bb∨C.bl=0∧C.bv.ownBlock=none∧w.heap.size≤bb)
  (hcell:C.bv.ownBlock=some bb→∀ o,o<C.bl→w'.cell? ⟨bb,o,none⟩=w.cell? ⟨bb,o,none⟩)
  (hkz:T.drop K=[]→k=0)
  (hsrc:T.drop K≠[]→∃ m,Src w' B { C with bv:=.slice (some ⟨bb,0,none⟩) (C.bl+k) 8192,bl:=C.bl+k,bx:=C.bx++((T.drop K).map bcell).take k,cmp:=decide (T.drop K=[]) } T (K+k) m) :
  Step w B g T A C w' A { C with bv:=.slice (some ⟨bb,0,none⟩) (C.bl+k) 8192,bl:=C.bl+k,bx:=C.bx++((T.drop K).map bcell).take k,cmp:=decide (T.drop K=[]) }:=by
 have hlen:=h.len_eq
 have h1:=h.le1
 have h2:=h.le01
 have hkl:(((T.drop K).map bcell).take k).length=k:=by rw [List.length_take,List.length_map];omega
 rw [List.length_drop] at hk
 have hin:=h.inT
 have hpF:w'.heap[bb]?=some (.cells cs 5 (mkF C.bm 8192)):=by rw [bm_rb hrb];exact hp'
 refine ⟨⟨hg',h.base,⟨?_,.inr ⟨bb,8192,cs,rfl,hB,hpF,h8,by simp [maxLen],by omega,by rw [Nat.mul_one];exact hct⟩⟩,?_,h.escB,?_,h.le01,by show C.r1≤C.bl+k;omega,h.at_,?_,?_,h.le0,h.big,h.bigl,h.prt,h.escL,?_,?_,fun k hk=>⟨(h.rbB k hk).1,by rw [show k=rb from Option.some.inj (hk.symm.trans hrb)];exact hrt'⟩⟩,⟨?_,?_⟩,?_⟩
 ·show (C.bx++_).length=_
  rw [List.length_append,hkl,hlen,Nat.mul_one]
 ·refine ownsRow_only h.esc ho (fun b hb hs=>?_)
  obtain ⟨hlt,cur,hcur⟩:=h.ev_ne hb
  rcases hS b hs with rfl | rfl | rfl
  ·exact h.gne' hb
  ·obtain ⟨c,hc⟩:=hrt
   exact blk_type hcur hc (by decide) rfl
  ·exact hev hb
 ·show some bb≠_
  exact fun e=>hev e.symm
 ·show (C.bx++_).drop C.r0=_
  rw [List.drop_append_of_le_length (by omega),h.dat,←List.map_take,←List.map_append]
  congr 1
  show _=(T.drop A.from_).take (C.bl+k-C.r0)
  rw [show C.bl+k-C.r0=(C.bl-C.r0)+k by omega,←take_more,List.drop_drop,hK]
 ·show A.from_+(C.bl+k-C.r0)≤_
  omega
 ·intro hc
  show A.from_+(C.bl+k-C.r0)=_
  have he:T.drop K=[]:=of_decide_eq_true hc
  have:=hkz he
  rw [List.drop_eq_nil_iff] at he
  omega
 ·intro hc
  have he:¬T.drop K=[]:=of_decide_eq_false hc
  obtain ⟨m,hm⟩:=hsrc he
  refine ⟨m,?_⟩
  show Src w' B _ T (A.from_+(C.bl+k-C.r0)) m
  rw [show A.from_+(C.bl+k-C.r0)=K+k by omega]
  exact hm
 ·refine ho.mono (fun b hb hs=>?_)
  rcases hS b hs with rfl | rfl | rfl
  ·exact .inl rfl
  ·exact .inr (.inr (.inr hrb))
  ·rcases hbb with h' | ⟨_,_,h'⟩
   ·exact .inr (.inl h')
   ·omega
 ·intro b hb
  rcases hb with hb | hb | hb | hb
  ·exact .inl (.inl hb)
  ·have hb':bb=b:=by simpa [Value.ownBlock] using hb
   subst hb'
   rcases hbb with h' | ⟨_,_,h'⟩
   ·exact .inl (.inr (.inl h'))
   ·exact .inr h'
  ·exact .inl (.inr (.inr (.inl hb)))
  ·exact .inl (.inr (.inr (.inr hb)))
 ·intro b o hb hu
  obtain ⟨u1,u2,u3,u4⟩:=hu
  refine ⟨?_,u1,u2,fun e=>?_,u4⟩
  ·by_cases hbe:b=bb
   ·subst hbe
    rcases hbb with h' | ⟨_,_,h'⟩
    ·exact hcell h' o (u3 h')
    ·omega
   ·refine World.cell?_of_block (w:=w) (ho.block b hb (fun hs=>?_))
    rcases hS b hs with h' | h' | h'
    ·exact u1 h'
    ·exact u2 (by rw [h'];exact hrb)
    ·exact hbe h'
  ·have hb':bb=b:=by simpa [Value.ownBlock] using e
   subst hb'
   rcases hbb with h' | ⟨_,_,h'⟩
   ·have:=u3 h';show o<C.bl+k;omega
   ·omega
def MoreRep (w:World) (B g:Nat) (T:List UInt8) (A:Ab) (C:Cn) (m:Nat) (e:Ending) (w':World):Prop:=
 e=.returned (.tuple #[])∧∃ C',Step w B g T A C w' A C'∧(C'.cmp=true∨C'.cmp=false∧∃ m',m'<m∧Src w' B C' T (A.from_+(C'.bl-C'.r0)) m')
theorem more_rep {w:World} {B g:Nat} {T:List UInt8} {A:Ab} {C:Cn} {m:Nat} {ea:Addr} (h:Rep w B g T A C) (hc:C.cmp=false) (hs:Src w B C T (A.from_+(C.bl-C.r0)) m)
  (he:w.cell? ⟨6,0,none⟩=some (.iface 167 (.pointer (some ea)))) (h6:6<B) :
  Calls Tryz.prog 134 #[.pointer (some ⟨g,0,none⟩)] w (MoreRep w B g T A C m):=by
 obtain ⟨rb,a,cap,n,sizes,hrd,hrb,hb,had,hsz,hlen,hn,hM,hbv⟩:=hs
 have hM':SrcM T.length sizes n (A.from_+(C.bl-C.r0)) m:=hM
 clear hM
 have hin:=h.inT
 have hbig:=h.big
 have hB:=h.base
 generalize hK:A.from_+(C.bl-C.r0)=K at *
 have hkT:(T.drop K).length≤1000:=by rw [List.length_drop];omega
 have hK2:∀ k,A.from_+(C.bl+k-C.r0)=K+k:=fun k=>by have:=h.le1;have:=h.le01;omega
 have hblk:=h.blk
 simp only [dcells,hrd,hc] at hblk
 have hn':=srcM_bound hM' hlen (by omega) hn
 have hgr:g≠rb:=blk_type hblk hb (by decide)
 have hnn:(if T.drop K=[]∨sizes=[] then n else n+1)≤10000000:=by
  by_cases h1:sizes=[]
  ·rw [if_pos (.inr h1)];exact hn
  ·rw [if_neg h1] at hn'; split <;> omega
 have hrbC:C.rb=some rb:=cn_rb hrd
 have hsrc:∀ (w':World) (S:Nat→Prop) (C':Cn) (pn:Nat),4096≤pn→C'.rd=C.rd→(∃ b,C'.bv=.slice (some b) C'.bl 8192)→Only S w w'→(∀ b,S b→B≤b)→T.drop K≠[]→
   w'.heap[rb]?=some (.cells #[.string ⟨((T.drop K).drop (readN (T.drop K) sizes n pn)).toArray⟩,.slice a sizes.length cap,.int .i64 ((if T.drop K=[]∨sizes=[] then n else n+1:Nat):Int),.bool false] 105 (0,0))→
   ∃ m',m'<m∧Src w' B C' T (K+readN (T.drop K) sizes n pn) m':=by
  intro w' S C' pn hpn hrd' hbv' ho hS hL hr'
  obtain ⟨m',hm,hM2⟩:=srcM_next hM' hlen hbig hpn hL
  rw [List.drop_drop] at hr'
  refine ⟨m',hm,rb,a,cap,_,sizes,hrd'.trans hrd,hrb,hr',had,fun j hj=>?_,hlen,hnn,hM2,.inr hbv'⟩
  obtain ⟨ad,h1,h2,h3⟩:=hsz j hj
  refine ⟨ad,h1,?_,h3⟩
  have hblk:(ad.add j).block=ad.block:=by unfold Addr.add; split <;> rfl
  have h4:=had ad h1
  rw [World.cell?_of_block (w:=w) (ho.block (ad.add j).block (block_lt_of_cell h2) (fun hs=>by have:=hS _ hs;omega))]
  exact h2
 rcases hbv with hbv | ⟨b,hbv⟩
 ·have hbl:C.bl=0:=by
   rcases h.own.2 with ⟨_,h0⟩ | ⟨b,cap,cur,hv,_⟩
   ·exact h0
   ·rw [hbv] at hv;cases hv
  have hbx:C.bx=[]:=List.eq_nil_of_length_eq_zero (by rw [h.len_eq,hbl])
  have hr1:C.r1=0:=by have:=h.le1;omega
  have hr0:C.r0=0:=by have:=h.le01;omega
  rw [hbv,hr0,hr1] at hblk
  refine (more_first g w rb (T.drop K) a cap n sizes ea hkT _ _ _ _ _ hlen hn hb hsz (fun ad h=>by have:=had ad h;omega) (fun ad h=>by have:=had ad h;omega) he ⟨by omega,by omega⟩ hblk).mono ?_
  rintro e w' ⟨rfl,k,bb,hk,hbb,hg',hr',hp',ho⟩
  have hk2:=readN_le (T.drop K) sizes n 8192
  rw [←hk] at hk2
  have hkl:k≤1000:=by omega
  have hk3:k≤T.length-K:=by rw [←List.length_drop];exact hk2
  have hS:∀ b,(b=g∨b=rb)→B≤b:=by rintro b (rfl | rfl) <;> omega
  have hnx:=hsrc w' _ { C with bv:=.slice (some ⟨bb,0,none⟩) (C.bl+k) 8192,bl:=C.bl+k,bx:=C.bx++((T.drop K).map bcell).take k,cmp:=decide (T.drop K=[]) } 8192 (by omega) rfl ⟨_,rfl⟩ ho hS
  rw [←hk] at hnx
  have hglt:=h.lt
  have hst:=refill (cs:=((List.map bcell (T.drop K)).take k++(zs 8192).toList.drop k).toArray) h hK hk2 hrbC ⟨_,hb⟩ ⟨_,hr'⟩ (by simpa [dcells,hrd,hbl,hr0,hr1] using hg') hp' (by
    simp only [List.size_toArray,List.length_append,List.length_take,List.length_map,List.length_drop,Array.length_toList,zs_size];omega)
   (by
    rw [hbl,hbx,Nat.zero_add,List.nil_append]
    simp only [List.toList_toArray]
    rw [List.take_left' (by rw [List.length_take,List.length_map];omega)]) (by omega) (by omega)
   (fun e=>by have:=(h.ev_ne e).1;omega) ho (fun b hs=>by rcases hs with h' | h';exact .inl h';exact .inr (.inl h'))
   (.inr ⟨hbl,by rw [hbv];rfl,hbb⟩) (fun e=>by rw [hbv] at e;simp [Value.ownBlock] at e)
   (fun e=>by rw [e] at hk2;simpa using hk2)
   (fun hL=>by obtain ⟨m',_,h2⟩:=hnx hL (by rw [hk] at hr' ⊢;exact hr');exact ⟨m',h2⟩)
  refine ⟨rfl,_,hst,?_⟩
  by_cases hL:T.drop K=[]
  ·exact .inl (decide_eq_true hL)
  ·right
   obtain ⟨m',h1,h2⟩:=hnx hL (by rw [hk] at hr' ⊢;exact hr')
   refine ⟨decide_eq_false hL,m',h1,?_⟩
   show Src _ _ _ _ (A.from_+(C.bl+k-C.r0)) _
   rw [hK2 k]
   exact h2
 ·have hown:=h.own
  rcases hown.2 with ⟨hv,_⟩ | ⟨bb,cp,cur,hv,hBb,hcur,hle,hmx,hcs,htk⟩
  ·rw [hbv] at hv;cases hv
  ·rw [bm_rb hrbC] at hcur
   replace hcur:w.heap[bb]?=some (.cells cur 5 (0,0)):=hcur
   rw [hbv] at hv
   injection hv with hv1 hv2 hv3
   injection hv1 with hv1
   subst hv1
   subst hv3
   rw [hbv] at hblk
   have hbl:C.bl≤1000:=by have:=h.le0;omega
   have hevb:C.ev.ownBlock≠some bb:=fun e=>h.ne (by rw [hbv,e];rfl)
   refine (more_go g w bb C.bl rb hbl (T.drop K) a cap n sizes ea cur hkT _ _ _ _ _ _ _ hlen hn hb hsz hcur (by omega) he ⟨by omega,by omega,by omega⟩ hblk).mono ?_
   rintro e w' ⟨rfl,k,hk,hg',hr',hp',ho⟩
   have hk2:=readN_le (T.drop K) sizes n (8192-C.bl)
   rw [←hk] at hk2
   have hk3:k≤T.length-K:=by rw [←List.length_drop];exact hk2
   have hS:∀ b,(b=g∨b=rb∨b=bb)→B≤b:=by rintro b (rfl | rfl | rfl) <;> omega
   have hnx:=hsrc w' _ { C with bv:=.slice (some ⟨bb,0,none⟩) (C.bl+k) 8192,bl:=C.bl+k,bx:=C.bx++((T.drop K).map bcell).take k,cmp:=decide (T.drop K=[]) } (8192-C.bl) (by omega) rfl ⟨_,rfl⟩ ho hS
   rw [←hk] at hnx
   have hkm:(((T.drop K).map bcell).take k).length=k:=by rw [List.length_take,List.length_map];omega
   have htk':cur.toList.take C.bl=C.bx:=by simpa using htk
   have hcl:cur.toList.length=8192:=by rw [Array.length_toList];omega
   have hst:=refill (cs:=(cur.toList.take C.bl++((List.map bcell (T.drop K)).take k++cur.toList.drop (C.bl+k))).toArray) h hK hk2 hrbC ⟨_,hb⟩ ⟨_,hr'⟩ (by simpa [dcells,hrd] using hg') hp' (by
     simp only [List.size_toArray,List.length_append,hkm,List.length_take,List.length_drop,hcl];omega)
    (by
     simp only [List.toList_toArray]
     rw [←List.append_assoc,htk',List.take_left' (by rw [List.length_append,hkm,h.len_eq])]) (by omega) hBb
    hevb ho (fun b hs=>hs) (.inl (by rw [hbv];rfl))
    (fun _ o ho'=>by
     rw [cell_of_row _ _ o _ 5 (0,0) hp',cell_of_row _ _ o _ 5 (0,0) hcur]
     simp only [List.getElem?_toArray]
     rw [List.getElem?_append_left (by rw [List.length_take];omega),List.getElem?_take,if_pos ho']
     simp)
    (fun e=>by rw [e] at hk2;simpa using hk2)
    (fun hL=>by obtain ⟨m',_,h2⟩:=hnx hL (by rw [hk] at hr' ⊢;exact hr');exact ⟨m',h2⟩)
   refine ⟨rfl,_,hst,?_⟩
   by_cases hL:T.drop K=[]
   ·exact .inl (decide_eq_true hL)
   ·right
    obtain ⟨m',h1,h2⟩:=hnx hL (by rw [hk] at hr' ⊢;exact hr')
    refine ⟨decide_eq_false hL,m',h1,?_⟩
    show Src _ _ _ _ (A.from_+(C.bl+k-C.r0)) _
    rw [hK2 k]
    exact h2
end Go.Proofs.YtkfggfjdplnkpaaGreatDoor
end
section
namespace Go.Proofs.YtkfggfjdplnkpaaGreatDoor
open Go.RowKit
theorem Rep.of_heap {w w':World} {B g:Nat} {T:List UInt8} {A:Ab} {C:Cn} (h:Rep w B g T A C) (e:w'.heap=w.heap):Rep w' B g T A C:=by
 have hc:∀ a,w'.cell? a=w.cell? a:=fun a=>by simp [World.cell?,e]
 have ho:∀ {v:Value} {n:Nat} {xs:List Value},w.ownsRow B 5 1 v n xs→w'.ownsRow B 5 1 v n xs:=fun h=>by
  obtain ⟨h1,h2⟩:=h
  refine ⟨h1,?_⟩
  rw [e];exact h2
 have hoF:OwnsF w B C.bm C.bv C.bl C.bx→OwnsF w' B C.bm C.bv C.bl C.bx:=fun h=>by
  obtain ⟨h1,h2⟩:=h
  refine ⟨h1,?_⟩
  rw [e];exact h2
 exact ⟨by rw [e];exact h.blk,h.base,hoF h.own,ho h.esc,h.escB,h.ne,h.le01,h.le1,h.at_,h.dat,h.inT,h.le0,h.big,h.bigl,h.prt,h.escL,h.all,fun hh=>by
  obtain ⟨m,rb,a,cap,n,sizes,h1,h2,h3,h4,h5,h6⟩:=h.src hh
  exact ⟨m,rb,a,cap,n,sizes,h1,h2,by rw [e];exact h3,h4,fun j hj=>by
   obtain ⟨ad,q1,q2,q3⟩:=h5 j hj
   exact ⟨ad,q1,by rw [hc];exact q2,q3⟩,h6⟩,fun k hk=>⟨(h.rbB k hk).1,by rw [e];exact (h.rbB k hk).2⟩⟩
theorem Step.refl {w:World} {B g:Nat} {T:List UInt8} {A:Ab} {C:Cn} (h:Rep w B g T A C):Step w B g T A C w A C:=⟨h,Pas.refl _ _ _,Stay.refl _ _ _ _⟩
theorem Step.drewN {w w':World} {B g:Nat} {T:List UInt8} {A A':Ab} {C C':Cn} (h:Step w B g T A C w' A' C') (n:Nat):Step w B g T A C (w'.drewN n) A' C':=⟨h.rep.of_heap rfl,h.pas.drewN n,h.stay⟩
theorem Step.drew {w w':World} {B g:Nat} {T:List UInt8} {A A':Ab} {C C':Cn} (h:Step w B g T A C w' A' C'):Step w B g T A C w'.drew A' C':=h.drewN 1
structure Env (w:World) (B:Nat):Prop where
 eof:∃ ea,w.cell? ⟨6,0,none⟩=some (.iface 167 (.pointer (some ea)))
 low:25<B
theorem Env.pas {w w':World} {B g:Nat} {T:List UInt8} {A A':Ab} {C C':Cn} (h:Env w B) (hr:Rep w B g T A C) (hs:Step w B g T A C w' A' C'):Env w' B:=by
 obtain ⟨⟨ea,he⟩,hl⟩:=h
 have hn:¬Own g C 6:=by
  have hg:=hr.base
  rintro (h1 | h1 | h1 | h1)
  ·have:6=g:=h1
   omega
  ·rcases hr.own.2 with ⟨hv,_⟩ | ⟨b,cap,cur,hv,hb,_⟩
   ·rw [hv] at h1;simp [Value.ownBlock] at h1
   ·rw [hv] at h1
    have:b=6:=by simpa [Value.ownBlock] using h1
    omega
  ·rcases hr.esc.2 with ⟨hv,_⟩ | ⟨b,cap,cur,hv,hb,_⟩
   ·rw [hv] at h1;simp [Value.ownBlock] at h1
   ·rw [hv] at h1
    have:b=6:=by simpa [Value.ownBlock] using h1
    omega
  ·have:=(hr.rbB 6 h1).1
   omega
 have hb:=hs.pas.only.block 6 (block_lt_of_cell he) hn
 exact ⟨⟨ea,(World.cell?_of_block (w:=w) (w':=w') (a:=⟨6,0,none⟩) hb).trans he⟩,hl⟩
def EnsPost (w:World) (B g:Nat) (T:List UInt8) (A:Ab) (C:Cn) (n:Nat) (e:Ending) (w':World):Prop:=
 e=.returned (.bool (decide (A.at_+n≤T.length)))∧∃ C',Step w B g T A C w' A C'∧(A.at_+n≤T.length→C'.r1+n≤C'.bl)∧(¬A.at_+n≤T.length→C'.cmp=true)
set_option maxHeartbeats 1000000 in
theorem ensure1_spec {w:World} {B g:Nat} {T:List UInt8} {A:Ab} {C:Cn} (n:Nat) (hn:n≤2000) (h:Rep w B g T A C) (hE:Env w B) (hlt:C.bl<C.r1+n) :
  Calls Tryz.prog 103 #[.pointer (some ⟨g,0,none⟩),.int .i64 (n:Int)] w (EnsPost w B g T A C n):=by
 go_enter Tryz.func103,Tryz.ntmps103
 have hm:∃ m,C.cmp=true∨C.cmp=false∧Src w B C T (A.from_+(C.bl-C.r0)) m:=by
  cases hc:C.cmp with
  | true=>exact ⟨0,.inl rfl⟩
  | false=>obtain ⟨m,hm⟩:=h.src hc;exact ⟨m,.inr ⟨rfl,hm⟩⟩
 obtain ⟨m,hm⟩:=hm
 go_wp2
 go_loopg [] (m+1) (fun mq wr=>∃ C',Step w B g T A C wr A C'∧C'.bl<C'.r1+n∧(C'.cmp=true∨C'.cmp=false∧∃ m',m'<mq∧Src wr B C' T (A.from_+(C'.bl-C'.r0)) m'))
 case atStart=>exact ⟨C,Step.refl h,hlt,hm.imp id (fun ⟨h1,h2⟩=>⟨h1,m,Nat.lt_succ_self m,h2⟩)⟩
 case round=>
  obtain ⟨C1,hst,hl1,hc1⟩:=hrel
  have hE1:=Lib.hid (hE.pas h hst)
  have HH:=Lib.hid h
  clear h hE hm
  have hat:=hst.rep.at_
  have hr0:=hst.rep.le01
  have hr1:=hst.rep.le1
  rcases hc1 with hc1 | ⟨hc1,m1,hm1,hsrc⟩
  ·have hall:=hst.rep.all hc1
   have c4:=hst.rep.c4
   rw [hc1] at c4
   have hfin:EnsPost w B g T A C n (.returned (.bool false)) wr:=⟨by rw [decide_eq_false (by omega)],C1,hst,fun h'=>by omega,fun _=>hc1⟩
   have HF:=Lib.hid hfin
   clear hfin hall hat hr0 hr1 hst hc1
   go_wp2
   go_ret
   exact HF.out
  ·have c4:=hst.rep.c4
   rw [hc1] at c4
   obtain ⟨ea,he⟩:=hE1.out.eof
   have hcon:=Lib.hid (more_rep hst.rep hc1 hsrc he (by have:=hE1.out.low;omega))
   have HST:=Lib.hid hst
   clear hat hr0 hr1 hst hc1 hsrc he hl1
   go_wp2_with fail
   refine hcon.out.mono ?_
   rintro e w2 ⟨rfl,C2,hst2,hc2⟩
   have hst3:=HST.out.trans hst2
   have hat:=hst3.rep.at_
   have hr0:=hst3.rep.le01
   have hr1:=hst3.rep.le1
   have hinT:=hst3.rep.inT
   have c1:=hst3.rep.c1
   have c3:=hst3.rep.c3
   have hlen:(∃ a cp,C2.bv=.slice a C2.bl cp):=by
    rcases hst3.rep.form with ⟨hv,h0⟩ | ⟨b,cp,hv,_⟩
    ·exact ⟨none,0,by rw [hv,h0]⟩
    ·exact ⟨_,cp,hv⟩
   obtain ⟨va,vc,hv⟩:=hlen
   rw [hv] at c1
   have hHB:=HH.out.big
   have hl0:=hst3.rep.le0
   have b1:(C2.r1:Int)≤5000:=by omega
   have b2:(C2.bl:Int)≤5000:=by omega
   have b3:(0:Int)≤C2.r1:=by omega
   have b4:(n:Int)≤2000:=by omega
   have b5:C2.r1≤5000:=by omega
   have b6:C2.bl≤5000:=by omega
   clear c4 HST
   by_cases hdone:C2.r1+n≤C2.bl
   ·have hfin:EnsPost w B g T A C n (.returned (.bool true)) w2:=⟨by rw [decide_eq_true (by omega)],C2,hst3,fun h'=>hdone,fun h'=>absurd (by omega:A.at_+n≤T.length) h'⟩
    have HF:=Lib.hid (fun k=>(⟨hfin.1,C2,hst3.drewN k,fun _=>hdone,fun h'=>absurd (by omega:A.at_+n≤T.length) h'⟩:EnsPost w B g T A C n (.returned (.bool true)) (w2.drewN k)))
    have hd:(C2.r1:Int)+n≤C2.bl:=by omega
    clear hfin hat hr0 hr1 hst2 hst3 hc2 hinT hl0
    go_wp2
    go_quiet (fail)
    go_wp2
    go_ret
    exact HF.out _
   ·have hd:¬(C2.r1:Int)+n≤C2.bl:=by omega
    have HS:=Lib.hid hst3
    have HC2:=Lib.hid hc2
    clear hat hr0 hr1 hst2 hst3 hc2 hinT hl0
    go_wp2
    go_quiet (fail)
    go_wp2
    go_roundg m1
    case measure=>exact hm1
    case rel=>
     refine ⟨C2,HS.out.drewN nq,by omega,HC2.out.imp id (fun ⟨h1,m',h2,rb,a,cap,n',sizes,q⟩=>⟨h1,m',h2,rb,a,cap,n',sizes,q⟩)⟩
end Go.Proofs.YtkfggfjdplnkpaaGreatDoor
end
section
namespace Go.Proofs.YtkfggfjdplnkpaaGreatDoor
open Go.RowKit
theorem Rep.bv_slice {w:World} {B g:Nat} {T:List UInt8} {A:Ab} {C:Cn} (h:Rep w B g T A C):∃ a cp,C.bv=.slice a C.bl cp∧C.bl≤cp∧cp≤maxLen:=by
 rcases h.own.2 with ⟨hv,h0⟩ | ⟨b,cp,cur,hv,_,_,h1,h2,_⟩
 ·exact ⟨none,0,by rw [hv,h0],by omega,by simp [maxLen]⟩
 ·exact ⟨_,cp,hv,h1,h2⟩
theorem Rep.bl_le {w:World} {B g:Nat} {T:List UInt8} {A:Ab} {C:Cn} (h:Rep w B g T A C):C.bl≤1000:=by
 have:=h.inT;have:=h.le0;have:=h.big;have:=h.le01;have:=h.le1;omega
set_option maxHeartbeats 1000000 in
theorem ensure_spec {w:World} {B g:Nat} {T:List UInt8} {A:Ab} {C:Cn} (n:Nat) (hn:n≤2000) (h:Rep w B g T A C) (hE:Env w B) :
  Calls Tryz.prog 45 #[.pointer (some ⟨g,0,none⟩),.int .i64 (n:Int)] w (EnsPost w B g T A C n):=by
 obtain ⟨va,vc,hv,_,_⟩:=h.bv_slice
 have c1:=h.c1
 rw [hv] at c1
 have c3:=h.c3
 have hbl:=h.bl_le
 have hr1:=h.le1
 have hr0:=h.le01
 have hat:=h.at_
 have hin:=h.inT
 have b1:(C.r1:Int)≤5000:=by omega
 have b2:(C.bl:Int)≤5000:=by omega
 have b4:(n:Int)≤2000:=by omega
 have b5:C.r1≤5000:=by omega
 have b6:C.bl≤5000:=by omega
 by_cases hd:C.r1+n≤C.bl
 ·have hfin:=fun k=>(⟨by rw [decide_eq_true (by omega)],C,(Step.refl h).drewN k,fun _=>hd,fun h'=>absurd (by omega:A.at_+n≤T.length) h'⟩:EnsPost w B g T A C n (.returned (.bool true)) (w.drewN k))
  have HF:=Lib.hid hfin
  have hd':(C.r1:Int)+n≤C.bl:=by omega
  clear hfin h hE hv hbl hr1 hr0 hat hin
  go_enter Tryz.func45,Tryz.ntmps45
  go_wp2
  go_quiet (fail)
  go_wp2
  go_ret
  exact HF.out _
 ·have hcon:=Lib.hid (fun k=>ensure1_spec n hn (h.of_heap (w':=w.drewN k) rfl) ⟨hE.eof,hE.low⟩ (by omega))
  have HH:=Lib.hid h
  have hd':¬(C.r1:Int)+n≤C.bl:=by omega
  clear h hE hv hbl hr1 hr0 hat hin
  go_enter Tryz.func45,Tryz.ntmps45
  go_wp2
  go_quiet (fail)
  go_wp2_with fail
  refine (hcon.out _).mono ?_
  rintro e w' ⟨rfl,C',hst,h1,h2⟩
  have hfin:∀ v,v=decide (A.at_+n≤T.length)→EnsPost w B g T A C n (.returned (.bool v)) w':=fun v hv=>⟨by rw [hv],C',((Step.refl HH.out).drewN _).trans hst,h1,h2⟩
  clear hst h1 h2
  generalize decide (A.at_+n≤T.length)=v at *
  have HF:=Lib.hid hfin
  clear hfin
  go_wp2
  go_ret
  exact HF.out _ rfl
theorem Rep.setg {w:World} {B g:Nat} {T:List UInt8} {A A':Ab} {C C':Cn} (h:Rep w B g T A C) (j:Nat) (v:Value) (e:(dcells C A).setIfInBounds j v=dcells C' A')
  (same:C'.rd=C.rd∧C'.bv=C.bv∧C'.bl=C.bl∧C'.bx=C.bx∧C'.cmp=C.cmp∧C'.ev=C.ev∧C'.r0=C.r0∧A'.esc=A.esc∧A'.from_=A.from_)
  (le01:C'.r0≤C'.r1) (le1:C'.r1≤C'.bl) (hat:A'.from_+C'.r1=A'.at_+C'.r0) (hbl:A'.line≤1000000000) (hp:A'.part≤5) (hel:A'.esc.length≤1000) :
  Step w B g T A C (w.setCell ⟨g,j,none⟩ v) A' C':=by
 obtain ⟨crd,cbv,cbl,cbx,cr0,cr1,ccmp,cev⟩:=C'
 obtain ⟨aat,afrom,apart,askip,aesc,aline⟩:=A'
 dsimp only at same le01 le1 hat hbl hp hel
 obtain ⟨rfl,rfl,rfl,rfl,rfl,rfl,rfl,rfl,rfl⟩:=same
 have ho:Only (fun k=>k=g) w (w.setCell ⟨g,j,none⟩ v):=(Only.refl (fun k=>k=g) w).setCell (p:=⟨g,j,none⟩) (.inl rfl) v
 have hbvn:∀ b,C.bv.ownBlock=some b→¬b=g:=fun b hb e=>h.gne (by rw [hb,e])
 have hevn:∀ b,C.ev.ownBlock=some b→¬b=g:=fun b hb e=>h.gne' (by rw [hb,e])
 refine ⟨⟨by rw [←e];exact blk_set h.blk j v,h.base,ownsF_only h.own ho hbvn,ownsRow_only h.esc ho hevn,h.escB,h.ne,le01,le1,hat,h.dat,h.inT,h.le0,h.big,hbl,hp,hel,h.all,fun hc=>?_,fun k hk=>⟨(h.rbB k hk).1,?_⟩⟩,⟨ho.mono (fun k _ hk=>.inl hk),fun k hk=>.inl hk⟩,fun b o hb hu=>⟨?_,hu⟩⟩
 ·obtain ⟨m,rb,a,cap,n,sizes,h1,h2,h3,h4,h5,h6⟩:=h.src hc
  have hgr:rb≠g:=blk_type h3 h.blk (by decide)
  refine ⟨m,rb,a,cap,n,sizes,h1,h2,blk_only h3 ho hgr,h4,fun q hq=>?_,h6⟩
  obtain ⟨ad,q1,q2,q3⟩:=h5 q hq
  have hblk:(ad.add q).block=ad.block:=by unfold Addr.add; split <;> rfl
  have h7:=h4 ad q1
  have hB:=h.base
  exact ⟨ad,q1,(World.cell?_of_block (w:=w) (ho.block (ad.add q).block (block_lt_of_cell q2) (fun e=>by omega))).trans q2,q3⟩
 ·obtain ⟨cs,hcs⟩:=(h.rbB k hk).2
  exact ⟨cs,blk_only hcs ho (blk_type hcs h.blk (by decide))⟩
 ·exact World.cell?_of_block (w:=w) (ho.block b hb hu.1)
theorem adv_step {w:World} {B g:Nat} {T:List UInt8} {A:Ab} {C:Cn} (h:Rep w B g T A C) (n:Nat) (hn:C.r1+n≤C.bl) :
  Step w B g T A C (w.setCell ⟨g,3,none⟩ (.int .i64 ((C.r1+n:Nat):Int))) { A with at_:=A.at_+n } { C with r1:=C.r1+n }:=
 h.setg 3 _ (by simp [dcells]) ⟨rfl,rfl,rfl,rfl,rfl,rfl,rfl,rfl,rfl⟩ (by have:=h.le01;show C.r0≤C.r1+n;omega) hn (by have:=h.at_;show A.from_+(C.r1+n)=A.at_+n+C.r0;omega) h.bigl h.prt h.escL
set_option maxHeartbeats 1000000 in
theorem advance_spec {w:World} {B g:Nat} {T:List UInt8} {A:Ab} {C:Cn} (n:Nat) (h:Rep w B g T A C) (hn:C.r1+n≤C.bl) :
  Calls Tryz.prog 59 #[.pointer (some ⟨g,0,none⟩),.int .i64 (n:Int)] w fun e w'=>e=.returned (.tuple #[])∧Step w B g T A C w' { A with at_:=A.at_+n } { C with r1:=C.r1+n }:=by
 have HS:=Lib.hid (adv_step h n hn)
 have c3:=h.c3
 have f3:=h.fz 3
 have hbl:=h.bl_le
 have b1:(C.r1:Int)≤5000:=by omega
 have b2:(n:Int)≤5000:=by omega
 clear h hn hbl
 go_enter Tryz.func59,Tryz.ntmps59
 go_wp2
 go_end0
 exact ⟨rfl,by simpa using HS.out⟩
set_option maxHeartbeats 1000000 in
theorem at_spec {w:World} {B g:Nat} {T:List UInt8} {A:Ab} {C:Cn} (i:Nat) (hi:i≤10) (h:Rep w B g T A C) (hav:A.at_+i<T.length→C.r1+i<C.bl) :
  Calls Tryz.prog 55 #[.pointer (some ⟨g,0,none⟩),.int .i64 (i:Int)] w fun e w'=>e=.returned (.int .u8 ((T.getD (A.at_+i) 0).toNat:Int))∧∃ k,w'=w.drewN k:=by
 obtain ⟨va,vc,hv,hvc,hvm⟩:=h.bv_slice
 have c1:=h.c1
 have c3:=h.c3
 have hbl:=h.bl_le
 have hr1:=h.le1
 have hr0:=h.le01
 have hat:=h.at_
 have hin:=h.inT
 have b1:(C.r1:Int)≤5000:=by omega
 have b2:(C.bl:Int)≤5000:=by omega
 have b4:(i:Int)≤10:=by omega
 have b5:C.r1≤5000:=by omega
 have b6:C.bl≤5000:=by omega
 have b7:0≤(C.r1:Int)+(i:Int):=by omega
 have b8:((C.r1:Int)+(i:Int)).toNat=C.r1+i:=by omega
 by_cases hd:C.r1+i<C.bl
 ·obtain ⟨hv0,h0⟩ | ⟨b,cap,hbv,hcap,_,_,hcell⟩:=h.form
  ·omega
  ·have hb:=hcell (C.r1+i) hd
   rw [h.byte (C.r1+i) (by omega) hd,show A.from_+(C.r1+i-C.r0)=A.at_+i by omega] at hb
   have hlt:A.at_+i<T.length:=by omega
   rw [List.getElem?_eq_getElem hlt] at hb
   have hb':w.cell? ⟨b,C.r1+i,none⟩=some (.int .u8 ((T.getD (A.at_+i) 0).toNat:Int)):=by
    rw [hb,List.getD_eq_getElem?_getD,List.getElem?_eq_getElem hlt];rfl
   rw [hbv] at c1
   generalize ((T.getD (A.at_+i) 0).toNat:Int)=x at *
   have hd':(C.r1:Int)+i<C.bl:=by omega
   clear h hv hav hbl hr1 hr0 hat hin hb hcell hlt hbv
   go_enter Tryz.func55,Tryz.ntmps55
   go_wp2
   go_quiet (fail)
   go_wp2
   go_quiet (fail)
   go_wp2
   go_ret
   exact ⟨rfl,_,World.drewN_drewN ..⟩
 ·have hge:¬A.at_+i<T.length:=fun h'=>hd (hav h')
  have hx:T.getD (A.at_+i) 0=0:=by rw [List.getD_eq_getElem?_getD,List.getElem?_eq_none (by omega)];rfl
  rw [hx]
  rw [hv] at c1
  have hd':¬(C.r1:Int)+i<C.bl:=by omega
  clear h hv hav hbl hr1 hr0 hat hin hge hx
  go_enter Tryz.func55,Tryz.ntmps55
  go_wp2
  go_quiet (fail)
  go_wp2
  go_ret
  exact ⟨rfl,_,rfl⟩
end Go.Proofs.YtkfggfjdplnkpaaGreatDoor
end
section
namespace Go.Proofs.YtkfggfjdplnkpaaGreatDoor
open Go.RowKit
def run (p:Nat→Bool) (l:List UInt8):List UInt8:=l.takeWhile fun b=>p b.toNat
theorem Rep.not_own {w:World} {B g a:Nat} {T:List UInt8} {A:Ab} {C:Cn} {cs:Array Value} {t:TypeId} {fr:Nat × Nat} (hr:Rep w B g T A C) (h1:w.heap[a]?=some (.cells cs t fr)) (ht:t≠83∧t≠5∧t≠105):¬Own g C a:=by
 rintro (e | e | e | e)
 ·exact blk_type h1 hr.blk ht.1 e
 ·rcases hr.own.2 with ⟨hv,_⟩ | ⟨b,cap,cur,hv,_,hb,_⟩
  ·rw [hv] at e;simp [Value.ownBlock] at e
  ·rw [hv] at e
   obtain rfl:b=a:=by simpa [Value.ownBlock] using e
   exact blk_type h1 hb ht.2.1 rfl
 ·obtain ⟨_,cur,hc⟩:=hr.ev_ne e
  exact blk_type h1 hc ht.2.1 rfl
 ·obtain ⟨cs',hc⟩:=(hr.rbB a e).2
  exact blk_type h1 hc ht.2.2 rfl
theorem SetAt.step {w w':World} {B g a:Nat} {T:List UInt8} {A:Ab} {C C':Cn} {p:Nat→Bool} (h:SetAt w a p) (hr:Rep w B g T A C) (hs:Pas g w C w' C'):SetAt w' a p:=by
 obtain ⟨cs,h1,h2,h3⟩:=h
 exact ⟨cs,(hs.only.block a (blk_lt h1) (hr.not_own h1 (by decide))).trans h1,h2,h3⟩
theorem Told.nil {w:World} {g:Nat} {A:Ab} {C:Cn} (a:Option Addr) (c:Nat):Told w g A C (.slice a 0 c) []:=⟨⟨a,c,rfl⟩,fun h=>absurd rfl h⟩
theorem Rep.told {w:World} {B g:Nat} {T:List UInt8} {A:Ab} {C:Cn} (h:Rep w B g T A C) {b cap lo k c:Nat} (hv:C.bv=.slice (some ⟨b,0,none⟩) C.bl cap) (h0:C.r0≤lo) (h1:lo+k≤C.bl) :
  Told w g A C (.slice (some ⟨b,lo,none⟩) k c) ((T.drop (A.from_+(lo-C.r0))).take k):=by
 have hin:=h.inT
 have hlen:((T.drop (A.from_+(lo-C.r0))).take k).length=k:=by rw [List.length_take,List.length_drop];omega
 refine ⟨⟨_,c,by rw [hlen]⟩,fun hne=>⟨b,lo,c,by rw [hlen],?_,fun j hj=>?_⟩⟩
 ·rcases h.form with ⟨hv',_⟩ | ⟨b',cap',hv',_,_,hlt,_⟩
  ·rw [hv] at hv';cases hv'
  ·rw [hv] at hv'
   injection hv' with hv'
   injection hv' with hv'
   injection hv' with hv'
   rw [hv'];exact hlt
 ·rw [hlen] at hj
  rcases h.form with ⟨hv',_⟩ | ⟨b',cap',hv',_,_,hlt,hc⟩
  ·rw [hv] at hv';cases hv'
  ·rw [hv] at hv'
   injection hv' with hv'
   injection hv' with hv'
   injection hv' with hv'
   subst hv'
   refine ⟨?_,?_,?_,?_,?_⟩
   ·rw [hc (lo+j) (by omega),h.byte (lo+j) (by omega) (by omega),List.getElem?_take,if_pos hj,List.getElem?_drop]
    congr 2
    omega
   ·rintro rfl
    exact h.gne (by rw [hv];rfl)
   ·intro e
    obtain ⟨cs,hcs⟩:=(h.rbB b e).2
    rcases h.own.2 with ⟨hv',_⟩ | ⟨b',cap',cur,hv',_,hb,_⟩
    ·rw [hv] at hv';cases hv'
    ·rw [hv] at hv'
     injection hv' with hv'
     injection hv' with hv'
     injection hv' with hv'
     subst hv'
     exact blk_type hcs hb (by decide) rfl
   ·intro _;omega
   ·intro e
    exact absurd (by rw [hv,e];rfl) h.ne
theorem run_len_le (p:Nat→Bool) (l:List UInt8):(run p l).length≤l.length:=by
 unfold run;exact (List.takeWhile_prefix _).length_le
theorem run_eq_take (p:Nat→Bool) (l:List UInt8) (k:Nat) (hk:k≤l.length) (h1:∀ j,j<k→∀ b,l[j]?=some b→p b.toNat=true) (h2:∀ b,l[k]?=some b→p b.toNat=false):run p l=l.take k:=by
 unfold run
 induction l generalizing k with
 | nil=>simp
 | cons c r ih=>
  cases k with
  | zero=>have:=h2 c rfl;simp [this]
  | succ k=>
   have:=h1 0 (by omega) c rfl
   simp only [List.takeWhile_cons,this,if_true,List.take_succ_cons]
   rw [ih k (by simpa using hk) (fun j hj b hb=>h1 (j+1) (by omega) b (by simpa using hb)) (fun b hb=>h2 b (by simpa using hb))]
def TakePost (w:World) (B g:Nat) (T:List UInt8) (A:Ab) (C:Cn) (p:Nat→Bool) (e:Ending) (w':World):Prop:=
 ∃ v C',e=.returned v∧Step w B g T A C w' { A with at_:=A.at_+(run p (T.drop A.at_)).length } C'∧
  (Told w' g { A with at_:=A.at_+(run p (T.drop A.at_)).length } C' v (run p (T.drop A.at_))∧∃ a n c,v=.slice a n c∧n≤c)∧
  (A.at_+(run p (T.drop A.at_)).length<T.length→C'.r1<C'.bl)
theorem take_end {w w1:World} {B g k:Nat} {T:List UInt8} {A:Ab} {C C1:Cn} {p:Nat→Bool} (hA:A.from_≤A.at_) (hst:Step w B g T A C w1 { A with at_:=A.at_+k } C1)
  (hrun:run p (T.drop A.at_)=(T.drop A.at_).take k) (hk:A.at_+k≤T.length) (hav:A.at_+k<T.length→C1.r1<C1.bl) (v:Value)
  (hv:(k=0∧∃ a c,v=.slice a 0 c)∨∃ b cap c,C1.bv=.slice (some ⟨b,0,none⟩) C1.bl cap∧v=.slice (some ⟨b,C1.r1-k,none⟩) k c∧k≤c):TakePost w B g T A C p (.returned v) w1:=by
 have hlen:(run p (T.drop A.at_)).length=k:=by rw [hrun,List.length_take,List.length_drop];omega
 refine ⟨v,C1,rfl,by rw [hlen];exact hst,⟨?_,?_⟩,by rw [hlen];exact hav⟩
 rotate_left
 ·rcases hv with ⟨h0,a,c,rfl⟩ | ⟨b,cap,c,hb,rfl,hkc⟩
  ·exact ⟨a,0,c,rfl,Nat.zero_le _⟩
  ·exact ⟨_,k,c,rfl,hkc⟩
 rw [hlen]
 rcases hv with ⟨h0,a,c,rfl⟩ | ⟨b,cap,c,hb,rfl,_⟩
 ·rw [hrun,h0,List.take_zero];exact Told.nil a c
 ·have hat:=hst.rep.at_
  have h1:=hst.rep.le1
  have h2:=hst.rep.le01
  dsimp only at hat
  have:=hst.rep.told (c:=c) hb (lo:=C1.r1-k) (k:=k) (by omega) (by omega)
  rw [hrun]
  rw [show A.at_=A.from_+(C1.r1-k-C1.r0) by omega]
  have e:(⟨A.from_+(C1.r1-k-C1.r0)+k,A.from_,A.part,A.skip,A.esc,A.line⟩:Ab)={ A with at_:=A.at_+k }:=by
   rw [show A.from_+(C1.r1-k-C1.r0)=A.at_ by omega]
  exact e▸this
set_option maxHeartbeats 2000000 in
theorem take_spec {w:World} {B g a:Nat} {T:List UInt8} {A:Ab} {C:Cn} (p:Nat→Bool) (h:Rep w B g T A C) (hE:Env w B) (hs:SetAt w a p) :
  Calls Tryz.prog 56 #[.pointer (some ⟨g,0,none⟩),.pointer (some ⟨a,0,none⟩)] w (TakePost w B g T A C p):=by
 have c2:=h.c2
 have c3:=h.c3
 have hbl:=h.bl_le
 have hr1:=h.le1
 have hr0:=h.le01
 have hat:=h.at_
 have hesc:=h.escL
 have hbig:=h.big
 have hin:=h.inT
 have hat1:A.from_≤A.at_:=by omega
 have hatT:A.at_≤T.length:=by omega
 have b1:(C.r1:Int)≤5000:=by omega
 have b2:(C.r0:Int)≤5000:=by omega
 have b3:(0:Int)≤C.r0:=by omega
 have b4:(0:Int)≤C.r1:=by omega
 have HH:=Lib.hid h
 have HE:=Lib.hid hE
 have HS:=Lib.hid hs
 have hd:(C.r1:Int)-(C.r0:Int)=((A.at_-A.from_:Nat):Int):=by omega
 have HD:=Lib.hid hd
 have HAT:=Lib.hid hat1
 have HATT:=Lib.hid hatT
 have HBIG:=Lib.hid hbig
 clear h hE hs hd hbl hr1 hr0 hat hesc hat1 hbig hin hatT
 go_enter Tryz.func56,Tryz.ntmps56
 go_wp2
 go_step3
 go_wp2
 go_quiet (fail)
 rw [HD.out]
 clear b1 b2 b3 b4 c2 c3
 go_wp2_with fail
 go_step3
 go_wp2_with fail
 go_loopg [] (T.length+1) (fun mq wr=>∃ k C1,mq+k=T.length+1∧A.at_+k≤T.length∧Step w B g T A C wr { A with at_:=A.at_+k } C1∧(∀ j,j<k→∀ b,(T.drop A.at_)[j]?=some b→p b.toNat=true))
 case atStart=>exact ⟨0,C,rfl,HATT.out,(Step.refl HH.out).drewN _,fun j hj=>by omega⟩
 case round=>
  obtain ⟨k,C1,hmk,hkT,hst,hall⟩:=hrel
  have hcon:=Lib.hid (ensure_spec 1 (by omega) hst.rep (HE.out.pas HH.out hst))
  have HST:=Lib.hid hst
  have HALL:=Lib.hid hall
  clear hst hall
  go_wp2_with fail
  refine hcon.out.mono ?_
  rintro e w2 ⟨rfl,C2,hst2,h1,h2⟩
  have HST2:=Lib.hid (HST.out.trans hst2)
  clear hst2 hcon
  dsimp only at h1 h2
  by_cases hmore:A.at_+k+1≤T.length
  ·rw [decide_eq_true hmore]
   have h1':=h1 hmore
   have hq:=HST2.out.rep
   rcases hq.form with ⟨hv0,h0⟩ | ⟨b,cap,hbv,hcap,hmx,_,hcell⟩
   ·omega
   have c1:=hq.c1
   rw [hbv] at c1
   have c3:=hq.c3
   have f3:=hq.fz 3
   have e1:=hq.at_
   have e2:=hq.le01
   have e3:=hq.le1
   have e4:=hq.bl_le
   have e6:=hq.inT
   dsimp only at e1 e6
   unfold maxLen at hmx
   have g1:(C2.r1:Int)≤(cap:Int):=by omega
   have g2:C2.r1≤cap:=by omega
   have g3:¬cap=C2.r1:=by omega
   have g4:(C2.r1:Int)≤(C2.bl:Int):=by omega
   have g5:C2.r1≤C2.bl:=by omega
   obtain ⟨n,hn⟩:∃ n,C2.bl-C2.r1=n:=⟨_,rfl⟩
   have g6:(n:Int)≤5000:=by omega
   have g7:(C2.r1:Int)≤5000:=by omega
   have hbytes:∀ i,i<n→∃ c,(T.drop A.at_)[k+i]?=some c∧w2.cell? ⟨b,C2.r1+i,none⟩=some (.int .u8 (c.toNat:Int)):=by
    intro i hi
    have hlt:A.at_+(k+i)<T.length:=by omega
    refine ⟨T[A.at_+(k+i)],by rw [List.getElem?_drop,List.getElem?_eq_getElem hlt],?_⟩
    rw [hcell (C2.r1+i) (by omega),hq.byte (C2.r1+i) (by omega) (by omega)]
    dsimp only
    rw [show A.from_+(C2.r1+i-C2.r0)=A.at_+(k+i) by omega,List.getElem?_eq_getElem hlt]
    rfl
   have HN:=Lib.hid hn
   have HN0:=Lib.hid (show C2.r1+n=C2.bl by omega)
   have HBY:=Lib.hid hbytes
   have HE4:=Lib.hid e4
   have HE6:=Lib.hid (show A.at_+k+n≤T.length by omega)
   have hn0:=Lib.hid (show 0<n by omega)
   clear hq h1 h1' h2 hmore hcell hbytes e1 e2 e3 e4 e6 hbv hcap
   go_wp2
   go_quiet (fail)
   clear hn HN g1 g2 g3 g4 g5 c1
   go_wp2_with fail
   go_loop [32] (fun vi=>∃ i:Nat,i≤n∧vi=.int .i64 i∧∀ j,j<k+i→∀ b,(T.drop A.at_)[j]?=some b→p b.toNat=true) (fun vi=>n-(intOf vi).toNat)
   case atStart=>exact ⟨0,Nat.zero_le _,rfl,HALL.out⟩
   case round=>
    obtain ⟨i,hi,rfl,hall⟩:=hrel
    have HALL2:=Lib.hid hall
    clear hall
    by_cases hlt:i<n
    ·obtain ⟨c,hc1,hc2⟩:=HBY.out i hlt
     have HC1:=Lib.hid hc1
     clear hc1
     have hset:=Lib.hid ((HS.out.step HH.out HST2.out.pas).of_block (w':=w2.drewN nq) rfl)
     have q1:(c.toNat:Int)<256:=by have:=c.toNat_lt;omega
     have hcon:=Lib.hid (set_get a p (c.toNat:Int) (by omega) q1 (w2.drewN nq) hset.out)
     go_wp2_with fail
     refine hcon.out.mono ?_
     rintro e w3 ⟨rfl,rfl⟩
     rw [Int.toNat_natCast]
     cases hp:p c.toNat
     ·have HP:=Lib.hid hp
      clear hp
      have HST3:Hid (Step w B g T A C ((w2.drewN nq).setCell ⟨g,3,none⟩ (.int .i64 ((C2.r1:Int)+(i:Int)))) { A with at_:=A.at_+(k+i) } { C2 with r1:=C2.r1+i }):=by
       have:=(HST2.out.drewN nq).trans (adv_step (HST2.out.drewN nq).rep i (by have:=HN0.out;omega))
       refine Lib.hid ?_
       simpa [Nat.add_assoc] using this
      have HR:=Lib.hid (run_eq_take p (T.drop A.at_) (k+i) (by rw [List.length_drop];have:=HE6.out;omega) HALL2.out (fun b hb=>by rw [HC1.out] at hb;injection hb with hb;rw [←hb];exact HP.out))
      have HK3:=Lib.hid (show A.at_+(k+i)≤T.length by have:=HE6.out;omega)
      have HA3:=Lib.hid (show A.at_+(k+i)<T.length→C2.r1+i<C2.bl by have:=HN0.out;omega)
      go_wp2
      generalize (w2.drewN nq).setCell ⟨g,3,none⟩ (.int .i64 ((C2.r1:Int)+(i:Int)))=w3 at *
      obtain ⟨C3,hC3⟩:∃ C3,C3={ C2 with r1:=C2.r1+i }:=⟨_,rfl⟩
      have HA4:Hid (A.at_+(k+i)<T.length→C3.r1<C3.bl):=by rw [hC3];exact HA3.out
      rw [←hC3] at HST3
      generalize k+i=k3 at *
      clear hC3 HA3 c3 f3 g6 g7 hlt hcon hset hc2 q1
      have hq:=HST3.out.rep
      have c1:=hq.c1
      have c2:=hq.c2
      have c3:=hq.c3
      have e1:=hq.at_
      have e2:=hq.le01
      have e3:=hq.le1
      have e4:=hq.bl_le
      have e5:=hq.le0
      dsimp only at e1
      obtain ⟨lo,hlo⟩:∃ lo,lo=C3.r1-k3:=⟨_,rfl⟩
      have f1:(C3.r0:Int)+((A.at_-A.from_:Nat):Int)=(lo:Int):=by have:=HAT.out;omega
      have f2:C3.r0≤lo:=by have:=HAT.out;omega
      have hk5:lo+k3=C3.r1:=by have:=HAT.out;omega
      have f3:(C3.r1:Int)≤5000:=by omega
      have f4:(C3.r0:Int)≤5000:=by omega
      have f5:(lo:Int)≤(C3.r1:Int):=by omega
      have f6:lo≤C3.r1:=by omega
      have hend:=Lib.hid (fun (m:Nat) (v:Value)=>take_end (v:=v) HAT.out (HST3.out.drewN m) HR.out HK3.out HA4.out)
      rcases hq.form with ⟨hv0,h0⟩ | ⟨b,cap,hbv,hcap,hmx,_,_⟩
      ·have z1:C3.r1=0:=by omega
       have z2:lo=0:=by omega
       have z3:k3=0:=by omega
       subst z2
       rw [hv0] at c1
       rw [z1] at c3
       have HZ:=Lib.hid z3
       clear hq e1 e2 e3 e4 e5 f2 f3 f5 f6 hk5 hlo z1 z3
       go_wp2
       go_quiet (fail)
       go_wp2
       go_ret
       exact hend.out _ _ (.inl ⟨HZ.out,none,0,rfl⟩)
      ·rw [hbv] at c1
       unfold maxLen at hmx
       have f7:(C3.r1:Int)≤(cap:Int):=by omega
       have f8:C3.r1≤cap:=by omega
       have HBV:=Lib.hid hbv
       by_cases hk0:k3=0
       ·have z1:lo=C3.r1:=by omega
        subst z1
        have HZ:=Lib.hid hk0
        clear hq e1 e2 e3 e4 e5 f2 f5 f6 hk5 hlo hbv hcap hk0
        go_wp2
        go_quiet (fail)
        go_wp2
        all_goals
         go_ret
         exact hend.out _ _ (.inl ⟨HZ.out,_,_,rfl⟩)
       ·have f9:lo<C3.r1:=by omega
        have f10:¬cap=lo:=by omega
        have f11:C3.r1-lo=k3:=by omega
        have HLO:=Lib.hid hlo
        clear hq e1 e2 e3 e4 e5 f2 hk5 hlo hbv hcap hk0
        go_wp2
        go_quiet (fail)
        go_wp2
        go_ret
        refine hend.out _ _ (.inr ⟨b,cap,cap-lo,HBV.out,?_,by omega⟩)
        rw [←HLO.out]
        rfl
     ·have HP:=Lib.hid hp
      clear hp
      go_wp2
      go_round
      case rel=>exact ⟨i+1,by omega,by go_num,fun j hj b hb=>by
       by_cases hjk:j<k+i
       ·exact HALL2.out j hjk b hb
       ·rw [show j=k+i by omega,HC1.out] at hb
        injection hb with hb
        rw [←hb];exact HP.out⟩
      case measure=>simp [intOf];omega
    ·have hin:i=n:=by omega
     subst hin
     have HST3:Hid (Step w B g T A C ((w2.drewN nq).setCell ⟨g,3,none⟩ (.int .i64 ((C2.r1:Int)+(i:Int)))) { A with at_:=A.at_+(k+i) } { C2 with r1:=C2.r1+i }):=by
      have:=(HST2.out.drewN nq).trans (adv_step (HST2.out.drewN nq).rep i (by have:=HN0.out;omega))
      refine Lib.hid ?_
      simpa [Nat.add_assoc] using this
     go_wp2
     go_roundg (T.length+1-(k+i))
     case measure=>have:=hn0.out;omega
     case rel=>exact ⟨k+i,_,by have:=HE6.out;omega,by have:=HE6.out;omega,HST3.out,HALL2.out⟩
  ·rw [decide_eq_false hmore]
   have hkk:A.at_+k=T.length:=by omega
   have HKK:=Lib.hid hkk
   have HKT:=Lib.hid hkT
   clear h1 h2 hmore hmk hkk hkT
   go_wp2
   have hq:=HST2.out.rep
   have c1:=hq.c1
   have c2:=hq.c2
   have c3:=hq.c3
   have e1:=hq.at_
   have e2:=hq.le01
   have e3:=hq.le1
   have e4:=hq.bl_le
   have e5:=hq.le0
   dsimp only at e1
   obtain ⟨lo,hlo⟩:∃ lo,lo=C2.r1-k:=⟨_,rfl⟩
   have f1:(C2.r0:Int)+((A.at_-A.from_:Nat):Int)=(lo:Int):=by have:=HAT.out;omega
   have f2:C2.r0≤lo:=by have:=HAT.out;omega
   have hk5:lo+k=C2.r1:=by have:=HAT.out;omega
   have f3:(C2.r1:Int)≤5000:=by omega
   have f4:(C2.r0:Int)≤5000:=by omega
   have f5:(lo:Int)≤(C2.r1:Int):=by omega
   have f6:lo≤C2.r1:=by omega
   have hend:=Lib.hid (fun (m:Nat) (v:Value)=>take_end (v:=v) HAT.out (HST2.out.drewN m) (run_eq_take p _ k (by rw [List.length_drop];have:=HKK.out;omega) HALL.out (fun b hb=>by rw [List.getElem?_eq_none (by rw [List.length_drop];have:=HKK.out;omega)] at hb;cases hb)) HKT.out (fun h'=>by have:=HKK.out;omega))
   rcases hq.form with ⟨hv0,h0⟩ | ⟨b,cap,hbv,hcap,hmx,_,_⟩
   ·have z1:C2.r1=0:=by omega
    have z2:lo=0:=by omega
    have z3:k=0:=by omega
    subst z2
    rw [hv0] at c1
    rw [z1] at c3
    have HZ:=Lib.hid z3
    clear hq e1 e2 e3 e4 e5 f2 f3 f5 f6 hk5 hlo z1 z3
    go_wp2
    go_quiet (fail)
    go_wp2
    go_ret
    exact hend.out _ _ (.inl ⟨HZ.out,none,0,rfl⟩)
   ·rw [hbv] at c1
    unfold maxLen at hmx
    have f7:(C2.r1:Int)≤(cap:Int):=by omega
    have f8:C2.r1≤cap:=by omega
    have HBV:=Lib.hid hbv
    by_cases hk0:k=0
    ·have z1:lo=C2.r1:=by omega
     subst z1
     have HZ:=Lib.hid hk0
     clear hq e1 e2 e3 e4 e5 f2 f5 f6 hk5 hlo hbv hcap hk0
     go_wp2
     go_quiet (fail)
     go_wp2
     all_goals
      go_ret
      exact hend.out _ _ (.inl ⟨HZ.out,_,_,rfl⟩)
    ·have f9:lo<C2.r1:=by omega
     have f10:¬cap=lo:=by omega
     have f11:C2.r1-lo=k:=by omega
     have HLO:=Lib.hid hlo
     clear hq e1 e2 e3 e4 e5 f2 hk5 hlo hbv hcap hk0
     go_wp2
     go_quiet (fail)
     go_wp2
     go_ret
     refine hend.out _ _ (.inr ⟨b,cap,cap-lo,HBV.out,?_,by omega⟩)
     rw [←HLO.out]
     rfl
end Go.Proofs.YtkfggfjdplnkpaaGreatDoor
end
