/- A part of the proof that the law FnDecodeValues returns true; its conditions are those of the last part. -/
import Derived.Test.YtkfggfjdplnkpaaGreatDoorVTag
import Derived.Test.YtkfggfjdplnkpaaGreatDoorVWLast
set_option maxRecDepth 100000
set_option linter.unusedVariables false
set_option linter.unusedSimpArgs false
section
namespace Go.Proofs.YtkfggfjdplnkpaaGreatDoor
open Go.RowKit Go.Proofs.YtkfggfjdplnkpaaGreatDoorW.PrintLast
theorem results_tmp4 {fn:Func} {t u v x:Tmp} (h:fn.results=#[.tmp t,.tmp u,.tmp v,.tmp x]) (tmps:Array Value) (P:Program) (w:World) :
  (results fn tmps).run P w=.ok (.tuple #[tmps.getD t undef,tmps.getD u undef,tmps.getD v undef,tmps.getD x undef]) w:=by
 simp [results,h]
def ResFld (w:World) (B g:Nat) (A:Ab) (C:Cn) (k kd v ev:Value):Res (List UInt8 × Nat × List UInt8)→Prop
 | .flt f=>k=.slice none 0 0∧kd=.int .u8 0∧v=.slice none 0 0∧Flted w B f ev
 | .non=>k=.slice none 0 0∧kd=.int .u8 0∧v=.slice none 0 0∧ev=.nilIface
 | .got (a,n,b)=>Told w g A C k a∧a≠[]∧kd=.int .u8 (n:Int)∧Told w g A C v b∧ev=.nilIface
def FldPost (w:World) (B g:Nat) (T:List UInt8) (C:Cn) (sk:Bool) (r:PS × Res (List UInt8 × Nat × List UInt8)) (e:Ending) (w':World):Prop:=
 ∃ A' C' k kd v ev,e=.returned (.tuple #[k,kd,v,ev])∧Rep w' B g T A' C'∧Pas g w C w' C'∧Is T A' r.1 sk∧ResFld w' B g A' C' k kd v ev r.2
section
variable {wI w0 w:World} {C0 C:Cn} {B g:Nat} {T:List UInt8} {sk:Bool} {p f k:Nat} {A:Ab} {k0:PS} {r:PS × Res (List UInt8 × Nat × List UInt8)}
theorem FldPost.flt {fl:Flt} {ev:Value} (h:At wI w0 C0 B g T sk w p f k A C) (hr:r=(⟨p,f,k⟩,.flt fl)) (hx:Flted w B fl ev):FldPost w0 B g T C0 sk (ResMap k0 none r) (.returned (.tuple #[.slice none 0 0,.int .u8 0,.slice none 0 0,ev])) w:=by
 subst hr
 exact ⟨A,C,_,_,_,ev,rfl,h.rep,h.pas,h.is,rfl,rfl,rfl,hx⟩
theorem FldPost.non (h:At wI w0 C0 B g T sk w p f k A C) (hr:r=(⟨p,f,k⟩,.non)):FldPost w0 B g T C0 sk (ResMap k0 none r) (.returned (.tuple #[.slice none 0 0,.int .u8 0,.slice none 0 0,.nilIface])) w:=by
 subst hr
 exact ⟨A,C,_,_,_,_,rfl,h.rep,h.pas,h.is,rfl,rfl,rfl,rfl⟩
theorem FldPost.got {a b:List UInt8} {n:Nat} {kv vv:Value} (h:At wI w0 C0 B g T sk w p f k A C) (hr:r=(⟨p,f,k⟩,.got (a,n,b))) (h1:Told w g A C kv a) (h2:a≠[]) (h3:Told w g A C vv b):FldPost w0 B g T C0 sk (ResMap k0 none r) (.returned (.tuple #[kv,.int .u8 (n:Int),vv,.nilIface])) w:=by
 subst hr
 exact ⟨A,C,_,_,_,_,rfl,h.rep,h.pas,h.is,h1,h2,rfl,h3,rfl⟩
end
theorem fieldP_bad {sk:Bool} {T:List UInt8} {p f:Nat} {kv:List UInt8} (hkv:tkV sk 3 T p=kv) (h:¬(valid kv=true∧kv≠[])) :
  fieldP sk T ⟨p,f,2⟩=(⟨p+tkN 3 T p,f,4⟩,.flt (fltAt T f p)):=by
 unfold fieldP
 rw [if_pos rfl]
 dsimp only
 rw [hkv,if_neg h]
theorem fieldP_eq {sk:Bool} {T:List UInt8} {p f pk:Nat} {kv:List UInt8} (hkv:tkV sk 3 T p=kv) (hpk:p+tkN 3 T p=pk) (hK:valid kv=true) (hne:kv≠[]) (h61:T.getD pk 0≠61) :
  fieldP sk T ⟨p,f,2⟩=(⟨pk,f,4⟩,.flt (fltAt T f pk)):=by
 unfold fieldP
 rw [if_pos rfl]
 dsimp only
 rw [hkv,hpk,if_pos ⟨hK,hne⟩,if_neg h61]
theorem fieldP_vflt {sk:Bool} {T:List UInt8} {p f pk q p2:Nat} {kv:List UInt8} (hkv:tkV sk 3 T p=kv) (hpk:p+tkN 3 T p=pk) (hK:valid kv=true) (hne:kv≠[]) (h61:T.getD pk 0=61) (hv:valP sk T (pk+1)=(q,.inl p2)) :
  fieldP sk T ⟨p,f,2⟩=(⟨q,f,4⟩,.flt (fltAt T f p2)):=by
 unfold fieldP
 rw [if_pos rfl]
 dsimp only
 rw [hkv,hpk,if_pos ⟨hK,hne⟩,if_pos h61,hv]
theorem fieldP_val {sk:Bool} {T:List UInt8} {p f pk q kd:Nat} {kv v:List UInt8} (hkv:tkV sk 3 T p=kv) (hpk:p+tkN 3 T p=pk) (hK:valid kv=true) (hne:kv≠[]) (h61:T.getD pk 0=61) (hv:valP sk T (pk+1)=(q,.inr (kd,v))) :
  (∀ q2 part,behindP T q=some (q2,part)→fieldP sk T ⟨p,f,2⟩=(⟨q2,f,part⟩,.got (kv,kd,v)))∧(behindP T q=none→fieldP sk T ⟨p,f,2⟩=(⟨q,f,4⟩,.flt (fltAt T f q))):=by
 unfold fieldP
 rw [if_pos rfl]
 dsimp only
 rw [hkv,hpk,if_pos ⟨hK,hne⟩,if_pos h61,hv]
 dsimp only
 exact ⟨fun q2 part h=>by rw [h],fun h=>by rw [h]⟩
theorem tok_next (S:Nat→Bool) (R:Nat→Nat):∀ (l:List UInt8) (c:UInt8),l[(tok S R l).1]?=some c→S c.toNat=false
 | [],c,h=>by simp [tok] at h
 | [a],c,h=>by
  unfold tok at h
  split at h
  ·simp at h
  ·split at h
   ·simp at h
   ·next h2=>simp at h;subst h;simpa using h2
 | a::d::rest,c,h=>by
  have h1:=tok_next S R (d::rest)
  have h2:=tok_next S R rest
  unfold tok at h
  split at h
  ·split at h
   ·exact h1 c (by rw [Nat.add_comm] at h;simpa using h)
   ·exact h2 c (by rw [Nat.add_comm] at h;simpa using h)
  ·split at h
   ·exact h1 c (by rw [Nat.add_comm] at h;simpa using h)
   ·next hS=>simp at h;subst h;simpa using hS
theorem str_end (T:List UInt8) (p:Nat):p+tkN 4 T p<T.length→T.getD (p+tkN 4 T p) 0=34:=by
 intro h
 have h1:(T.drop p)[tkN 4 T p]?=some (T[p+tkN 4 T p]):=by rw [List.getElem?_drop];exact List.getElem?_eq_getElem h
 have h2:=tok_next (inSet (setK 4)) (revK 4) (T.drop p) _ h1
 rw [List.getD_eq_getElem?_getD,List.getElem?_eq_getElem h]
 show T[p+tkN 4 T p]=34
 have h3:(T[p+tkN 4 T p]).toNat=34:=by
  have:((T[p+tkN 4 T p]).toNat != 34)=false:=h2
  simpa using this
 exact UInt8.toNat_inj.1 (by rw [h3];rfl)
theorem valP_str {sk:Bool} {T:List UInt8} {p:Nat} {v:List UInt8} (hp:p<T.length) (h34:T.getD p 0=34) (hv:tkV sk 4 T (p+1)=v) (hV:valid v=true) :
  valP sk T p=if p+1+tkN 4 T (p+1)<T.length then (p+1+tkN 4 T (p+1)+1,.inr (1,v)) else (p+1+tkN 4 T (p+1),.inl p):=by
 unfold valP
 dsimp only
 rw [if_pos hp,h34,if_pos (by rfl),hv,if_pos hV]
theorem valP_bad {sk:Bool} {T:List UInt8} {p:Nat} {v:List UInt8} (hp:p<T.length) (h34:T.getD p 0=34) (hv:tkV sk 4 T (p+1)=v) (hV:valid v=false) :
  valP sk T p=(p+1+tkN 4 T (p+1),.inl (p+1)):=by
 unfold valP
 dsimp only
 rw [if_pos hp,h34,if_pos (by rfl),hv,if_neg (by rw [hV];decide)]
theorem valP_bool {sk:Bool} {T:List UInt8} {p:Nat} {x:UInt8} (hp:p<T.length) (hx:T.getD p 0=x) (h34:x.toNat≠34) (h:x.toNat=116∨x.toNat=84∨x.toNat=102∨x.toNat=70) :
  valP sk T p=(past 9 T p,.inr (5,run (inSet 9) (T.drop p))):=by
 unfold valP
 dsimp only
 rw [if_pos hp,hx,if_neg h34,if_pos h]
theorem valP_no {sk:Bool} {T:List UInt8} {p:Nat} {x:UInt8} (hx:T.getD p 0=x) (h34:x.toNat≠34) (h:¬(x.toNat=116∨x.toNat=84∨x.toNat=102∨x.toNat=70)) (hn:¬(x.toNat=45∨48≤x.toNat∧x.toNat≤57∨x.toNat=46)) :
  valP sk T p=(p,.inl p):=by
 unfold valP
 dsimp only
 rw [hx,if_neg h34,if_neg h,if_neg hn]
 split <;> rfl
theorem valP_num {sk:Bool} {T:List UInt8} {p:Nat} {x y:UInt8} {r:List UInt8} (hp:p<T.length) (hx:T.getD p 0=x) (h34:x.toNat≠34) (h:¬(x.toNat=116∨x.toNat=84∨x.toNat=102∨x.toNat=70)) (hn:x.toNat=45∨48≤x.toNat∧x.toNat≤57∨x.toNat=46)
  (hr:run (inSet 9) (T.drop p)=r) (hy:r.getLast?.getD 0=y) :
  valP sk T p=(past 9 T p,.inr (if y.toNat=105 then (2,r.dropLast) else if y.toNat=117 then (3,r.dropLast) else (4,r))):=by
 unfold valP
 dsimp only
 rw [if_pos hp,hx,if_neg h34,if_neg h,if_pos hn,hr,hy]
theorem num_run {T:List UInt8} {p:Nat} {x:UInt8} (hp:p<T.length) (hx:T.getD p 0=x) (hn:x.toNat=45∨48≤x.toNat∧x.toNat≤57∨x.toNat=46):run (inSet 9) (T.drop p)≠[]:=by
 have e:T.getD p 0=T[p]:=by simp [List.getD_eq_getElem?_getD,List.getElem?_eq_getElem hp]
 rw [e] at hx
 unfold run
 rw [List.drop_eq_getElem_cons hp,hx,List.takeWhile_cons,if_pos]
 ·simp
 ·show (x.toNat != 44&&!whiteB x.toNat)=true
  unfold whiteB
  have hx1:=x.toNat_lt
  have h1:x.toNat≠44∧x.toNat≠32∧x.toNat≠13∧x.toNat≠10:=by omega
  simp [h1]
theorem Told.cut {w:World} {g n c:Nat} {A:Ab} {C:Cn} {a:Option Addr} {bs:List UInt8} (h:Told w g A C (.slice a (n+1) c) bs):Told w g A C (.slice a n c) bs.dropLast:=by
 obtain ⟨a2,c2,hv⟩:=h.len
 injection hv with _ hn _
 have hl:bs.dropLast.length=n:=by rw [List.length_dropLast];omega
 refine ⟨⟨a,c,by rw [hl]⟩,fun hb=>?_⟩
 obtain ⟨b,o,cap,hv,hlt,hc⟩:=h.cells (fun e=>hb (by rw [e];rfl))
 injection hv with h1 h2 h3
 refine ⟨b,o,cap,by rw [h1,hl,h3],hlt,fun j hj=>?_⟩
 rw [hl] at hj
 obtain ⟨h4,h5⟩:=hc j (by omega)
 refine ⟨?_,h5⟩
 rw [h4,List.getElem?_dropLast,if_pos (by omega)]
theorem behind_end {T:List UInt8} {q:Nat} (h:¬q<T.length):behindP T q=some (q,5):=by unfold behindP;rw [if_neg h]
theorem behind_comma {T:List UInt8} {q:Nat} (h:q<T.length) (hy:T.getD q 0=44):behindP T q=some (q+1,2):=by
 unfold behindP
 dsimp only
 rw [if_pos h,hy,if_pos (by rfl)]
theorem behind_white {T:List UInt8} {q:Nat} {y:UInt8} (h:q<T.length) (hy:T.getD q 0=y) (h44:y.toNat≠44) (hw:inSet 1 y.toNat=true):behindP T q=some ((eol T (past 0 T q)).2.1,if (eol T (past 0 T q)).1=true then 5 else 3):=by
 unfold behindP
 dsimp only
 rw [if_pos h,hy,if_neg h44,if_pos (show whiteB y.toNat=true from hw)]
theorem behind_none {T:List UInt8} {q:Nat} {y:UInt8} (h:q<T.length) (hy:T.getD q 0=y) (h44:y.toNat≠44) (hw:inSet 1 y.toNat=false):behindP T q=none:=by
 unfold behindP
 dsimp only
 rw [if_pos h,hy,if_neg h44,if_neg (by rw [show whiteB y.toNat=false from hw];decide)]
set_option maxHeartbeats 8000000 in
theorem field_of {wI w:World} {B g p f k p0 f0 k0:Nat} {T:List UInt8} {A0:Ab} {C:Cn} {sk sk0:Bool} {fo:Option Flt} (hI:Init wI B) (h0:At wI w C B g T sk0 w p0 f0 k0 A0 C)
  (hadv:Calls Tryz.prog 43 #[.pointer (some ⟨g,0,none⟩),.int .u8 2] w (AdvTo w B g T C sk 2 ⟨p,f,k⟩ fo)) :
  Calls Tryz.prog 29 #[.pointer (some ⟨g,0,none⟩)] w (FldPost w B g T C sk (ResMap ⟨p,f,k⟩ fo (fieldP sk T ⟨p,f,k⟩))):=by
 have HI:=Lib.hid hI
 have H0:=Lib.hid h0
 clear hI h0
 go_enter Tryz.func29,Tryz.ntmps29
 go_wp2_with fail
 refine hadv.mono ?_
 rintro e w1 ⟨A1,C1,ev,rfl,r1,p1,i1,f1⟩
 have AT1:=Lib.hid (H0.out.call r1 p1 i1)
 clear r1 p1 i1 hadv H0
 cases fo with
 | some fl=>
  obtain ⟨q,q2,rfl,hf2,hf3⟩:=f1
  have HF:=Lib.hid hf2
  have HF3:=Lib.hid hf3
  clear hf2 hf3
  rw [show decide ((some fl:Option Flt)=none∧k=2)=false from decide_eq_false (fun h=>by cases h.1)]
  go_wp2_with fail
  ((try simp only [Exit.inBlock,Exit.then]);refine bodyPost_ret (results_tmp4 rfl _ _ _) rfl ?_)
  exact ⟨A1,C1,_,_,_,_,rfl,AT1.out.rep,AT1.out.pas,AT1.out.is,rfl,rfl,rfl,q,q2,rfl,HF.out,HF3.out⟩
 | none=>
  have hev:ev=.nilIface:=f1
  subst hev
  clear f1
  by_cases hp:k=2
  ·subst hp
   rw [show decide ((none:Option Flt)=none∧(⟨p,f,2⟩:PS).part=2)=true from decide_eq_true ⟨rfl,rfl⟩]
   go_wp2_with fail
   refine (at_mk mk_63 AT1.out).mono ?_
   rintro e w28 ⟨a28,rfl,hs28,x28⟩
   have AT28:=Lib.hid x28.to_
   clear x28
   have TS28:=Lib.hid hs28
   clear hs28
   go_wp2_with fail
   refine (at_esc esc_64 AT28.out).mono ?_
   rintro e w29 ⟨a29,rfl,hb29,_,x29⟩
   have AT29:=Lib.hid x29.to_
   have TS29:=Lib.hid (x29.set AT28.out.rep TS28.out)
   clear x29
   have HB29:=Lib.hid hb29
   clear hb29
   have htok:=Lib.hid (at_tok HI.out AT29.out 3 TS29.out HB29.out (by decide))
   go_wp2_with fail
   refine htok.out.mono ?_
   clear htok
   rintro e w30 ⟨va30,c30,A30,C30,ev30,rfl,told30,hval⟩
   generalize hkv:tkV sk 3 T p=kv at *
   have Hkv:=Lib.hid hkv
   have kvK:=Lib.hid told30
   clear hkv told30
   rcases hval with ⟨hval,rfl,x30⟩ | ⟨q30,rfl,hval,hfl,x30⟩
   ·skip
    have HVAL:=Lib.hid hval
    clear hval
    have AT30:=Lib.hid x30.to_
    clear x30
    have HK:Hid (valid kv=true):=HVAL
    clear HVAL
    obtain ⟨n,hn⟩:∃ n,kv.length=n:=⟨_,rfl⟩
    have HN:=Lib.hid hn
    have KT:=Lib.hid (show Told _ g _ _ (.slice _ n _) kv by have:=kvK.out;rw [hn] at this;exact this)
    rw [hn]
    clear hn
    obtain ⟨pk,hpk⟩:∃ x,(p+tkN 3 T p)=x:=⟨_,rfl⟩
    have AT30k:=Lib.hid (hpk▸AT30.out)
    have HPK:=Lib.hid hpk
    clear hpk
    have HFP:Hid (f≤p∧p≤pk):=Lib.hid ⟨AT1.out.le,by have:=HPK.out;omega⟩
    by_cases hk0:kv=[]
    ·skip
     have hn0:n=0:=by have:=HN.out;rw [hk0] at this;exact this.symm
     subst hn0
     have HPL:=Lib.hid (fieldP_bad (f:=f) Hkv.out (fun h=>h.2 hk0))
     rw [HPK.out] at HPL
     clear hk0
     go_wp2_with fail
     refine (at_ens HI.out AT30k.out 1 (by omega)).mono ?_
     rintro e w31 ⟨rfl,C31,x31,av31⟩
     have AV31:=Lib.hid av31
     clear av31
     have AT31:=Lib.hid x31.to_
     have KT31:=Lib.hid (x31.told KT.out)
     clear x31
     by_cases q1:pk+1≤T.length
     ·skip
      rw [decide_eq_true q1]
      have AW:=Lib.hid (AV31.out q1)
      have HQ:=Lib.hid q1
      clear q1
      go_wp2_with fail
      refine (at_new AT31.out _).mono ?_
      rintro e w32 ⟨q32,rfl,hq32,x32⟩
      have AT32:=Lib.hid x32.to_
      have KT32:=Lib.hid (x32.told KT31.out)
      clear x32
      have HQ32:=Lib.hid hq32
      clear hq32
      go_wp2_with fail
      refine (at_syn AT32.out p (show f+(p-f)=p by have:=HFP.out;omega) (by have:=HFP.out;omega) HQ32.out).mono ?_
      rintro e w33 ⟨q33,A33,rfl,hfl33,x33⟩
      have AT33:=Lib.hid x33.to_
      have KT33:=Lib.hid (x33.told KT32.out)
      clear x33
      have HFL:=Lib.hid hfl33
      clear hfl33
      go_wp2_with fail
      ((try simp only [Exit.inBlock,Exit.then]);refine bodyPost_ret (results_tmp4 rfl _ _ _) rfl ?_)
      exact FldPost.flt AT33.out HPL.out HFL.out
     ·skip
      rw [decide_eq_false q1]
      have HQ:=Lib.hid q1
      clear q1
      go_wp2_with fail
      refine (at_new AT31.out _).mono ?_
      rintro e w34 ⟨q34,rfl,hq34,x34⟩
      have AT34:=Lib.hid x34.to_
      have KT34:=Lib.hid (x34.told KT31.out)
      clear x34
      have HQ34:=Lib.hid hq34
      clear hq34
      go_wp2_with fail
      refine (at_syn AT34.out p (show f+(p-f)=p by have:=HFP.out;omega) (by have:=HFP.out;omega) HQ34.out).mono ?_
      rintro e w35 ⟨q35,A35,rfl,hfl35,x35⟩
      have AT35:=Lib.hid x35.to_
      have KT35:=Lib.hid (x35.told KT34.out)
      clear x35
      have HFL:=Lib.hid hfl35
      clear hfl35
      go_wp2_with fail
      ((try simp only [Exit.inBlock,Exit.then]);refine bodyPost_ret (results_tmp4 rfl _ _ _) rfl ?_)
      exact FldPost.flt AT35.out HPL.out HFL.out
    ·skip
     have hn0:¬(n:Int)=0:=by have:=HN.out;have:=List.length_pos_iff.2 hk0;omega
     have HK0:=Lib.hid hk0
     clear hk0
     go_wp2_with fail
     refine (at_ens HI.out AT30k.out 1 (by omega)).mono ?_
     rintro e w36 ⟨rfl,C36,x36,av36⟩
     have AV36:=Lib.hid av36
     clear av36
     have AT36:=Lib.hid x36.to_
     have KT36:=Lib.hid (x36.told KT.out)
     clear x36
     by_cases q1:pk+1≤T.length
     ·skip
      rw [decide_eq_true q1]
      have AW:=Lib.hid (AV36.out q1)
      have HQ:=Lib.hid q1
      clear q1
      go_wp2_with fail
      refine (at_at AT36.out 0 (by omega) (fun _=>AW.out)).mono ?_
      rintro e w37 ⟨rfl,x37⟩
      rw [Nat.add_zero]
      have AT37:=Lib.hid x37.to_
      have KT37:=Lib.hid (x37.told KT36.out)
      clear x37
      generalize hx:T.getD pk 0=x
      have Hx:=Lib.hid hx
      clear hx
      by_cases hx61:x=61
      ·skip
       have d1:(x.toNat:Int)=61:=by rw [hx61];rfl
       rw [d1]
       have H61:Hid (T.getD pk 0=61):=Lib.hid (Hx.out.trans hx61)
       clear hx61 d1
       go_wp2_with fail
       refine (at_adv AT37.out (by rw [H61.out];decide) AW.out).mono ?_
       rintro e w38 ⟨rfl,A38,C38,x38⟩
       have AT38:=Lib.hid x38.to_
       have KT38:=Lib.hid (x38.told KT37.out)
       clear x38
       go_wp2_with fail
       refine (at_ens HI.out AT38.out 1 (by omega)).mono ?_
       rintro e w39 ⟨rfl,C39,x39,av39⟩
       have AV39:=Lib.hid av39
       clear av39
       have AT39:=Lib.hid x39.to_
       have KT39:=Lib.hid (x39.told KT38.out)
       clear x39
       by_cases q2:(pk+1)+1≤T.length
       ·skip
        rw [decide_eq_true q2]
        have AW:=Lib.hid (AV39.out q2)
        have HQ:=Lib.hid q2
        clear q2
        obtain ⟨x,hx⟩:∃ x,T.getD (pk+1) 0=x:=⟨_,rfl⟩
        have HX:=Lib.hid hx
        clear hx
        go_upto_region 23 with fail
        go_cut [101] from 100 to 101 (fun c wx=>c=.int .u8 (x.toNat:Int)∧Nx wI w C B g T sk w39 A38 C39 wx (pk+1) f 2 A38 C39)
        case first=>
         go_wp2_with fail
         refine (at_at AT39.out 0 (by omega) (fun _=>AW.out)).mono ?_
         rintro e w40 ⟨rfl,x40⟩
         rw [Nat.add_zero,HX.out]
         have XN:=Lib.hid x40
         clear x40
         go_wp2_with fail
         go_meet
         exact ⟨rfl,XN.out⟩
        case rest=>
         obtain ⟨rfl,x41⟩:=hcut
         have AT41:=Lib.hid x41.to_
         have KT41:=Lib.hid (x41.told KT39.out)
         clear x41
         go_step
         go_cut [11,12] from 101 to 192 (fun v kd wx=>∃ q kn vb va n c A' C',valP sk T (pk+1)=(q,.inr (kn,vb))∧v=.slice va n c∧kd=.int .u8 (kn:Int)∧Nx wI w C B g T sk wc A38 C39 wx q f 2 A' C'∧Told wx g A' C' (.slice va n c) vb)
         case first=>
          have SS:=Lib.hid (Step.refl AT41.out.rep)
          have HQ1:Hid (pk+1<T.length):=Lib.hid (by have:=HQ.out;omega)
          by_cases h34:x=34
          ·skip
           have d1:(x.toNat:Int)=34:=by rw [h34];rfl
           rw [d1]
           have H34:=Lib.hid h34
           clear h34 d1
           go_wp2_with fail
           refine (at_adv AT41.out (by rw [HX.out,H34.out];decide) AW.out).mono ?_
           rintro e w42 ⟨rfl,A42,C42,x42⟩
           have AT42:=Lib.hid x42.to_
           have KT42:=Lib.hid (x42.told KT41.out)
           have SS42:=Lib.hid (SS.out.trans x42.st)
           clear x42
           go_wp2_with fail
           refine (at_mk mk_65 AT42.out).mono ?_
           rintro e w43 ⟨a43,rfl,hs43,x43⟩
           have AT43:=Lib.hid x43.to_
           have KT43:=Lib.hid (x43.told KT42.out)
           have SS43:=Lib.hid (SS42.out.trans x43.st)
           clear x43
           have TS43:=Lib.hid hs43
           clear hs43
           go_wp2_with fail
           refine (at_esc esc_66 AT43.out).mono ?_
           rintro e w44 ⟨a44,rfl,hb44,_,x44⟩
           have AT44:=Lib.hid x44.to_
           have KT44:=Lib.hid (x44.told KT43.out)
           have TS44:=Lib.hid (x44.set AT43.out.rep TS43.out)
           have SS44:=Lib.hid (SS43.out.trans x44.st)
           clear x44
           have HB44:=Lib.hid hb44
           clear hb44
           have htok:=Lib.hid (at_tok HI.out AT44.out 4 TS44.out HB44.out (by decide))
           go_wp2_with fail
           refine htok.out.mono ?_
           clear htok
           rintro e w45 ⟨va45,c45,A45,C45,ev45,rfl,told45,hval⟩
           generalize hvv:tkV sk 4 T (pk+1+1)=vv at *
           have Hvv:=Lib.hid hvv
           have vvK:=Lib.hid told45
           clear hvv told45
           rcases hval with ⟨hval,rfl,x45⟩ | ⟨q45,rfl,hval,hfl,x45⟩
           ·skip
            have HVAL:=Lib.hid hval
            clear hval
            have AT45:=Lib.hid x45.to_
            have KT45:=Lib.hid (x45.told KT44.out)
            have SS45:=Lib.hid (SS44.out.trans x45.st)
            clear x45
            have HST:Hid (valP sk T (pk+1)=if ((pk+1+1)+tkN 4 T (pk+1+1))<T.length then (((pk+1+1)+tkN 4 T (pk+1+1))+1,.inr (1,vv)) else (((pk+1+1)+tkN 4 T (pk+1+1)),.inl (pk+1))):=Lib.hid (valP_str HQ1.out (HX.out.trans H34.out) Hvv.out HVAL.out)
            obtain ⟨q,hq⟩:∃ x,((pk+1+1)+tkN 4 T (pk+1+1))=x:=⟨_,rfl⟩
            have HQ34:Hid (q<T.length→T.getD q 0=34):=Lib.hid (by rw [←hq];exact str_end T (pk+1+1))
            rw [hq] at HST
            have AT45q:=Lib.hid (hq▸AT45.out)
            have HQG:Hid (pk+1≤q):=Lib.hid (by omega)
            clear hq
            have HFF:Hid (f≤pk):=Lib.hid (by have:=HFP.out;omega)
            have WS2:IntKind.i64.wrap (((pk+1+1-f:Nat):Int)-1)=((pk+1-f:Nat):Int):=by have:=HFF.out;have:=HQG.out;have:=AT45q.out.inT;have:=AT45q.out.rep.big;rw [IntWalk.i64_in _ (by omega)];omega
            go_wp2_with fail
            refine (at_ens HI.out AT45q.out 1 (by omega)).mono ?_
            rintro e w46 ⟨rfl,C46,x46,av46⟩
            have AV46:=Lib.hid av46
            clear av46
            have AT46:=Lib.hid x46.to_
            have KT46:=Lib.hid (x46.told KT45.out)
            have vvK46:=Lib.hid (x46.told vvK.out)
            have SS46:=Lib.hid (SS45.out.trans x46.st)
            clear x46
            by_cases q3:q+1≤T.length
            ·skip
             rw [decide_eq_true q3]
             have AW:=Lib.hid (AV46.out q3)
             have HQ:=Lib.hid q3
             clear q3
             have HB34:=Lib.hid (HQ34.out (by have:=HQ.out;omega))
             go_wp2_with fail
             refine (at_at AT46.out 0 (by omega) (fun _=>AW.out)).mono ?_
             rintro e w47 ⟨rfl,x47⟩
             rw [Nat.add_zero]
             have AT47:=Lib.hid x47.to_
             have KT47:=Lib.hid (x47.told KT46.out)
             have vvK47:=Lib.hid (x47.told vvK46.out)
             have SS47:=Lib.hid (SS46.out.trans x47.st)
             clear x47
             generalize hb1:T.getD q 0=b1
             have Hb1:=Lib.hid hb1
             clear hb1
             have d1:b1=34:=Hb1.out.symm.trans HB34.out
             have d2:(b1.toNat:Int)=34:=by rw [d1];rfl
             rw [d2]
             clear d1 d2
             go_wp2_with fail
             refine (at_adv AT47.out (by rw [HB34.out];decide) AW.out).mono ?_
             rintro e w48 ⟨rfl,A48,C48,x48⟩
             have AT48:=Lib.hid x48.to_
             have KT48:=Lib.hid (x48.told KT47.out)
             have vvK48:=Lib.hid (x48.told vvK47.out)
             have SS48:=Lib.hid (SS47.out.trans x48.st)
             clear x48
             go_wp2_with fail
             go_meet
             exact ⟨_,1,_,_,_,_,_,_,HST.out.trans (if_pos (by have:=HQ.out;omega)),rfl,rfl,⟨AT48.out,SS48.out⟩,vvK48.out⟩
            ·skip
             rw [decide_eq_false q3]
             have HQ:=Lib.hid q3
             clear q3
             have HPL:=Lib.hid (fieldP_vflt (f:=f) Hkv.out HPK.out HK.out HK0.out H61.out (HST.out.trans (if_neg (by have:=HQ.out;omega))))
             go_wp2_with fail
             refine (at_new AT46.out _).mono ?_
             rintro e w49 ⟨q49,rfl,hq49,x49⟩
             have AT49:=Lib.hid x49.to_
             have KT49:=Lib.hid (x49.told KT46.out)
             have vvK49:=Lib.hid (x49.told vvK46.out)
             have SS49:=Lib.hid (SS46.out.trans x49.st)
             clear x49
             have HQ49:=Lib.hid hq49
             clear hq49
             go_wp2_with fail
             refine (at_syn AT49.out (pk+1) (show f+(pk+1-f)=pk+1 by have:=HFF.out;omega) HQG.out HQ49.out).mono ?_
             rintro e w50 ⟨q50,A50,rfl,hfl50,x50⟩
             have AT50:=Lib.hid x50.to_
             have KT50:=Lib.hid (x50.told KT49.out)
             have vvK50:=Lib.hid (x50.told vvK49.out)
             have SS50:=Lib.hid (SS49.out.trans x50.st)
             clear x50
             have HFL:=Lib.hid hfl50
             clear hfl50
             go_wp2_with fail
             ((try simp only [Exit.inBlock,Exit.then]);refine bodyPost_ret (results_tmp4 rfl _ _ _) rfl ?_)
             exact FldPost.flt AT50.out HPL.out HFL.out
           ·have HVAL:=Lib.hid hval
            have HFL:=Lib.hid hfl
            clear hval hfl
            have AT45:=Lib.hid x45.to_
            have KT45:=Lib.hid (x45.told KT44.out)
            have SS45:=Lib.hid (SS44.out.trans x45.st)
            clear x45
            go_wp2_with fail
            ((try simp only [Exit.inBlock,Exit.then]);refine bodyPost_ret (results_tmp4 rfl _ _ _) rfl ?_)
            exact FldPost.flt AT45.out (fieldP_vflt (f:=f) Hkv.out HPK.out HK.out HK0.out H61.out (valP_bad HQ1.out (HX.out.trans H34.out) Hvv.out HVAL.out)) HFL.out
          ·skip
           have d1:¬(x.toNat:Int)=34:=fun e=>u8_ne h34 (by show x.toNat=34;omega)
           have H34:Hid (x.toNat≠34):=Lib.hid (u8_ne h34)
           clear h34
           go_upto_if 149 with fail
           go_cut [149,101] from 102 to 192 (fun c xx wx=>xx=.int .u8 (x.toNat:Int)∧c=.bool (decide (x.toNat=116∨x.toNat=84∨x.toNat=102∨x.toNat=70))∧wx=wc)
           case first=>
            clear d1
            by_cases h116:x.toNat=116
            ·skip
             have d116:(x.toNat:Int)=116:=by omega
             rw [d116]
             go_wp2_with fail
             go_meet
             exact ⟨by rw [d116],by rw [decide_eq_true (by omega)] <;> rfl,rfl⟩
            ·skip
             have d116:¬(x.toNat:Int)=116:=by omega
             by_cases h84:x.toNat=84
             ·skip
              have d84:(x.toNat:Int)=84:=by omega
              rw [d84]
              go_wp2_with fail
              go_meet
              exact ⟨by rw [d84],by rw [decide_eq_true (by omega)] <;> rfl,rfl⟩
             ·skip
              have d84:¬(x.toNat:Int)=84:=by omega
              by_cases h102:x.toNat=102
              ·skip
               have d102:(x.toNat:Int)=102:=by omega
               rw [d102]
               go_wp2_with fail
               go_meet
               exact ⟨by rw [d102],by rw [decide_eq_true (by omega)] <;> rfl,rfl⟩
              ·skip
               have d102:¬(x.toNat:Int)=102:=by omega
               by_cases h70:x.toNat=70
               ·skip
                have d70:(x.toNat:Int)=70:=by omega
                rw [d70]
                go_wp2_with fail
                go_meet
                exact ⟨by rw [d70],by rw [decide_eq_true (by omega)] <;> rfl,rfl⟩
               ·skip
                have d70:¬(x.toNat:Int)=70:=by omega
                go_wp2_with fail
                go_meet
                exact ⟨rfl,by rw [decide_eq_false (by omega)];simp [d70],rfl⟩
           case rest=>
            obtain ⟨rfl,rfl,rfl⟩:=hcut
            clear d1
            by_cases htf:x.toNat=116∨x.toNat=84∨x.toNat=102∨x.toNat=70
            ·skip
             rw [decide_eq_true htf]
             have HTF:=Lib.hid htf
             clear htf
             go_wp2_with fail
             refine (at_mk mk_67 AT41.out).mono ?_
             rintro e w51 ⟨a51,rfl,hs51,x51⟩
             have AT51:=Lib.hid x51.to_
             have KT51:=Lib.hid (x51.told KT41.out)
             have SS51:=Lib.hid (SS.out.trans x51.st)
             clear x51
             have SV51:=Lib.hid hs51
             clear hs51
             go_wp2_with fail
             refine (at_take HI.out AT51.out 9 (by decide) SV51.out).mono ?_
             rintro e w52 ⟨va52,c52,A52,C52,rfl,hn52,x52,t52,av52⟩
             have AV52:=Lib.hid av52
             have TK52:=Lib.hid t52
             have HN52:=Lib.hid hn52
             clear av52 t52 hn52
             have AT52:=Lib.hid x52.to_
             have KT52:=Lib.hid (x52.told KT51.out)
             have SS52:=Lib.hid (SS51.out.trans x52.st)
             clear x52
             go_wp2_with fail
             go_meet
             exact ⟨_,5,_,_,_,_,_,_,valP_bool HQ1.out HX.out H34.out HTF.out,rfl,rfl,⟨AT52.out,SS52.out⟩,TK52.out⟩
            ·skip
             rw [decide_eq_false htf]
             have HTF:=Lib.hid htf
             clear htf
             go_upto_if 157 with fail
             go_cut [157,101] from 102 to 192 (fun c xx wx=>xx=.int .u8 (x.toNat:Int)∧c=.bool (decide (x.toNat=45∨48≤x.toNat∧x.toNat≤57∨x.toNat=46))∧wx=wc)
             case first=>
              by_cases h45:x.toNat=45
              ·skip
               have d45:(x.toNat:Int)=45:=by omega
               rw [d45]
               go_wp2_with fail
               go_meet
               exact ⟨by rw [d45],by rw [decide_eq_true (by omega)] <;> rfl,rfl⟩
              ·skip
               have d45:¬(x.toNat:Int)=45:=by omega
               by_cases h48:x.toNat=48
               ·skip
                have d48:(x.toNat:Int)=48:=by omega
                rw [d48]
                go_wp2_with fail
                go_meet
                exact ⟨by rw [d48],by rw [decide_eq_true (by omega)] <;> rfl,rfl⟩
               ·skip
                have d48:¬(x.toNat:Int)=48:=by omega
                by_cases h49:x.toNat=49
                ·skip
                 have d49:(x.toNat:Int)=49:=by omega
                 rw [d49]
                 go_wp2_with fail
                 go_meet
                 exact ⟨by rw [d49],by rw [decide_eq_true (by omega)] <;> rfl,rfl⟩
                ·skip
                 have d49:¬(x.toNat:Int)=49:=by omega
                 by_cases h50:x.toNat=50
                 ·skip
                  have d50:(x.toNat:Int)=50:=by omega
                  rw [d50]
                  go_wp2_with fail
                  go_meet
                  exact ⟨by rw [d50],by rw [decide_eq_true (by omega)] <;> rfl,rfl⟩
                 ·skip
                  have d50:¬(x.toNat:Int)=50:=by omega
                  by_cases h51:x.toNat=51
                  ·skip
                   have d51:(x.toNat:Int)=51:=by omega
                   rw [d51]
                   go_wp2_with fail
                   go_meet
                   exact ⟨by rw [d51],by rw [decide_eq_true (by omega)] <;> rfl,rfl⟩
                  ·skip
                   have d51:¬(x.toNat:Int)=51:=by omega
                   by_cases h52:x.toNat=52
                   ·skip
                    have d52:(x.toNat:Int)=52:=by omega
                    rw [d52]
                    go_wp2_with fail
                    go_meet
                    exact ⟨by rw [d52],by rw [decide_eq_true (by omega)] <;> rfl,rfl⟩
                   ·skip
                    have d52:¬(x.toNat:Int)=52:=by omega
                    by_cases h53:x.toNat=53
                    ·skip
                     have d53:(x.toNat:Int)=53:=by omega
                     rw [d53]
                     go_wp2_with fail
                     go_meet
                     exact ⟨by rw [d53],by rw [decide_eq_true (by omega)] <;> rfl,rfl⟩
                    ·skip
                     have d53:¬(x.toNat:Int)=53:=by omega
                     by_cases h54:x.toNat=54
                     ·skip
                      have d54:(x.toNat:Int)=54:=by omega
                      rw [d54]
                      go_wp2_with fail
                      go_meet
                      exact ⟨by rw [d54],by rw [decide_eq_true (by omega)] <;> rfl,rfl⟩
                     ·skip
                      have d54:¬(x.toNat:Int)=54:=by omega
                      by_cases h55:x.toNat=55
                      ·skip
                       have d55:(x.toNat:Int)=55:=by omega
                       rw [d55]
                       go_wp2_with fail
                       go_meet
                       exact ⟨by rw [d55],by rw [decide_eq_true (by omega)] <;> rfl,rfl⟩
                      ·skip
                       have d55:¬(x.toNat:Int)=55:=by omega
                       by_cases h56:x.toNat=56
                       ·skip
                        have d56:(x.toNat:Int)=56:=by omega
                        rw [d56]
                        go_wp2_with fail
                        go_meet
                        exact ⟨by rw [d56],by rw [decide_eq_true (by omega)] <;> rfl,rfl⟩
                       ·skip
                        have d56:¬(x.toNat:Int)=56:=by omega
                        by_cases h57:x.toNat=57
                        ·skip
                         have d57:(x.toNat:Int)=57:=by omega
                         rw [d57]
                         go_wp2_with fail
                         go_meet
                         exact ⟨by rw [d57],by rw [decide_eq_true (by omega)] <;> rfl,rfl⟩
                        ·skip
                         have d57:¬(x.toNat:Int)=57:=by omega
                         by_cases h46:x.toNat=46
                         ·skip
                          have d46:(x.toNat:Int)=46:=by omega
                          rw [d46]
                          go_wp2_with fail
                          go_meet
                          exact ⟨by rw [d46],by rw [decide_eq_true (by omega)] <;> rfl,rfl⟩
                         ·skip
                          have d46:¬(x.toNat:Int)=46:=by omega
                          go_wp2_with fail
                          go_meet
                          exact ⟨rfl,by rw [decide_eq_false (by omega)];simp [d46],rfl⟩
             case rest=>
              obtain ⟨rfl,rfl,rfl⟩:=hcut
              by_cases hnu:x.toNat=45∨48≤x.toNat∧x.toNat≤57∨x.toNat=46
              ·skip
               rw [decide_eq_true hnu]
               have HNU:=Lib.hid hnu
               clear hnu
               go_wp2_with fail
               refine (at_mk mk_67 AT41.out).mono ?_
               rintro e w53 ⟨a53,rfl,hs53,x53⟩
               have AT53:=Lib.hid x53.to_
               have KT53:=Lib.hid (x53.told KT41.out)
               have SS53:=Lib.hid (SS.out.trans x53.st)
               clear x53
               have SV53:=Lib.hid hs53
               clear hs53
               go_wp2_with fail
               refine (at_take HI.out AT53.out 9 (by decide) SV53.out).mono ?_
               rintro e w54 ⟨va54,c54,A54,C54,rfl,hn54,x54,t54,av54⟩
               have AV54:=Lib.hid av54
               have TK54:=Lib.hid t54
               have HN54:=Lib.hid hn54
               clear av54 t54 hn54
               have AT54:=Lib.hid x54.to_
               have KT54:=Lib.hid (x54.told KT53.out)
               have SS54:=Lib.hid (SS53.out.trans x54.st)
               clear x54
               have HRL:=Lib.hid (num_run HQ1.out HX.out HNU.out)
               obtain ⟨r,hr⟩:∃ r,run (inSet 9) (T.drop (pk+1))=r:=⟨_,rfl⟩
               rw [hr] at HRL TK54 ⊢
               have HR:=Lib.hid hr
               clear hr
               obtain ⟨m,hm⟩:∃ m,r.length=m+1:=⟨r.length-1,by have:=List.length_pos_iff.2 HRL.out;omega⟩
               rw [hm] at TK54 ⊢
               have HM:=Lib.hid hm
               clear hm
               obtain ⟨vb,vo,vc,hvv,hvlt,hvcells⟩:=TK54.out.cells HRL.out
               injection hvv with r1 r2 r3
               subst r1
               subst r3
               clear r2 hvlt
               obtain ⟨y,hy⟩:∃ y,r[m]?=some y:=⟨r[m]'(by have:=HM.out;omega),List.getElem?_eq_getElem (by have:=HM.out;omega)⟩
               have hcl:=(hvcells m (by have:=HM.out;omega)).1
               rw [hy] at hcl
               change w54.cell? ⟨vb,vo+m,none⟩=some (.int .u8 (y.toNat:Int)) at hcl
               clear hvcells
               have HY:=Lib.hid hy
               clear hy
               have hm1000:m<1000:=by have:=HM.out;have:=run_len_le (inSet 9) (T.drop (pk+1));rw [HR.out] at this;have:=AT54.out.rep.big;simp only [List.length_drop] at *;omega
               have WS3:IntKind.i64.wrap (((m+1:Nat):Int)-1)=(m:Int):=by rw [IntWalk.i64_in _ (by omega)];omega
               have hlast:(r.getLast?.getD 0)=y:=by rw [List.getLast?_eq_getElem?,HM.out,Nat.add_sub_cancel,HY.out];rfl
               have HLAST:=Lib.hid hlast
               clear hlast
               have HN3:Hid (m+1≤c54):=Lib.hid (by have h1:=HN54.out;have h2:=HM.out;rw [←HR.out] at h2;omega)
               have hcap:(m:Int)≤(c54:Int):=by have:=HN3.out;omega
               by_cases h105:y.toNat=105
               ·skip
                have d105:(y.toNat:Int)=105:=by omega
                rw [d105] at hcl
                have HY1:=Lib.hid h105
                clear h105 d105
                go_wp2_with fail
                go_meet
                exact ⟨_,2,_,_,_,_,_,_,(valP_num HQ1.out HX.out H34.out HTF.out HNU.out HR.out HLAST.out).trans (by rw [if_pos HY1.out]),rfl,rfl,⟨AT54.out,SS54.out⟩,TK54.out.cut⟩
               ·skip
                have d105:¬(y.toNat:Int)=105:=by omega
                have HY1:=Lib.hid h105
                clear h105
                by_cases h117:y.toNat=117
                ·skip
                 have d117:(y.toNat:Int)=117:=by omega
                 rw [d117] at hcl
                 have HY2:=Lib.hid h117
                 clear h117 d117 d105
                 go_wp2_with fail
                 go_meet
                 exact ⟨_,3,_,_,_,_,_,_,(valP_num HQ1.out HX.out H34.out HTF.out HNU.out HR.out HLAST.out).trans (by rw [if_neg HY1.out,if_pos HY2.out]),rfl,rfl,⟨AT54.out,SS54.out⟩,TK54.out.cut⟩
                ·skip
                 have d117:¬(y.toNat:Int)=117:=by omega
                 have HY2:=Lib.hid h117
                 clear h117
                 go_wp2_with fail
                 go_meet
                 exact ⟨_,4,_,_,_,_,_,_,(valP_num HQ1.out HX.out H34.out HTF.out HNU.out HR.out HLAST.out).trans (by rw [if_neg HY1.out,if_neg HY2.out]),rfl,rfl,⟨AT54.out,SS54.out⟩,TK54.out⟩
              ·skip
               rw [decide_eq_false hnu]
               have HNU:=Lib.hid hnu
               clear hnu
               have HPL:=Lib.hid (fieldP_vflt (f:=f) Hkv.out HPK.out HK.out HK0.out H61.out (valP_no HX.out H34.out HTF.out HNU.out))
               have HR:=Lib.hid AT41.out.rep
               have c2:=HR.out.c2
               have c3:=HR.out.c3
               have HGL:=HR.out.lt
               have e0:=AT41.out.at_
               have e5:=AT41.out.from_
               have e1:=HR.out.at_
               have e2:=HR.out.le01
               have e3:=HR.out.le1
               have e4:=HR.out.bl_le
               obtain ⟨off,hoff⟩:∃ off,(pk+1)-f=off:=⟨_,rfl⟩
               obtain ⟨p1,hp1⟩:∃ p1,C39.r1=p1:=⟨_,rfl⟩
               obtain ⟨p0,hp0⟩:∃ p0,C39.r0=p0:=⟨_,rfl⟩
               have WSUB:IntKind.i64.wrap ((p1:Int)-(p0:Int))=(off:Int):=by rw [IntWalk.i64_in _ (by omega)];omega
               rw [hp1] at c3
               rw [hp0] at c2
               have HOFF:Hid (f+off=(pk+1)):=Lib.hid (by omega)
               clear e0 e1 e2 e3 e4 e5 hoff hp1 hp0
               go_wp2_with fail
               refine start_ (n:=16) (S:=fun w'=>Below (wc).heap.size (wc) w') (ds:=[11]) (bA 16 0) (by kernel_rfl) rfl rfl (Below.refl _ _).drew (fun _=>?_)
               refine pure_ (i:=0) (N:=some 102) (v:=?_) (a':=?_) (bA 16 1) rfl rfl (by kernel_rfl) (fun _ _ _ h=>h) (Or.inl ⟨by rfl,?_⟩) ?_ ?_
               rotate_left
               ·intro w';go_simp;with_reducible rfl
               rotate_left
               ·simp only [Act.put,aA,aB,aC,WSUB];rfl
               refine pure_ (i:=1) (N:=some 103) (v:=?_) (a':=?_) (bA 16 3) rfl rfl (by kernel_rfl) (fun _ _ _ h=>h) (Or.inl ⟨by rfl,?_⟩) ?_ ?_
               rotate_left
               ·intro w';go_simp;with_reducible rfl
               rotate_left
               ·simp only [Act.put,aA,aB,aC,WSUB];rfl
               refine pure_ (i:=2) (N:=some 104) (v:=?_) (a':=?_) (bA 16 7) rfl rfl (by kernel_rfl) (fun _ _ _ h=>h) (Or.inl ⟨by rfl,?_⟩) ?_ ?_
               rotate_left
               ·intro w';go_simp;with_reducible rfl
               rotate_left
               ·simp only [Act.put,aA,aB,aC,WSUB];rfl
               refine pure_ (i:=3) (N:=some 105) (v:=?_) (a':=?_) (bA 16 15) rfl rfl (by kernel_rfl) (fun _ _ _ h=>h) (Or.inl ⟨by rfl,?_⟩) ?_ ?_
               rotate_left
               ·intro w';go_simp;with_reducible rfl
               rotate_left
               ·simp only [Act.put,aA,aB,aC,WSUB];rfl
               refine take_ (i:=4) (N:=some 106) (v:=?_) (a':=?_) (bA 16 31) rfl rfl (by kernel_rfl) (fun _ _ _ h=>h) (Or.inl ⟨by rfl,?_⟩) (Below.refl _ _).drew ?_ ?_
               rotate_left
               ·intro w' hS;have d2:=(hS.cell (p:=⟨g,2,none⟩) HGL).trans c2;have d3:=(hS.cell (p:=⟨g,3,none⟩) HGL).trans c3;go_simp;with_reducible rfl
               rotate_left
               ·simp only [Act.put,aA,aB,aC,WSUB];rfl
               refine pure_ (i:=5) (N:=some 107) (v:=?_) (a':=?_) (bA 16 63) rfl rfl (by kernel_rfl) (fun _ _ _ h=>h) (Or.inl ⟨by rfl,?_⟩) ?_ ?_
               rotate_left
               ·intro w';go_simp;with_reducible rfl
               rotate_left
               ·simp only [Act.put,aA,aB,aC,WSUB];rfl
               refine pure_ (i:=6) (N:=some 108) (v:=?_) (a':=?_) (bA 16 127) rfl rfl (by kernel_rfl) (fun _ _ _ h=>h) (Or.inl ⟨by rfl,?_⟩) ?_ ?_
               rotate_left
               ·intro w';go_simp;with_reducible rfl
               rotate_left
               ·simp only [Act.put,aA,aB,aC,WSUB];rfl
               refine pure_ (i:=7) (N:=some 109) (v:=?_) (a':=?_) (bA 16 255) rfl rfl (by kernel_rfl) (fun _ _ _ h=>h) (Or.inl ⟨by rfl,?_⟩) ?_ ?_
               rotate_left
               ·intro w';go_simp;with_reducible rfl
               rotate_left
               ·simp only [Act.put,aA,aB,aC,WSUB];rfl
               refine take_ (i:=8) (N:=some 110) (v:=?_) (a':=?_) (bA 16 511) rfl rfl (by kernel_rfl) (fun _ _ _ h=>h) (Or.inl ⟨by rfl,?_⟩) (Below.refl _ _).drew ?_ ?_
               rotate_left
               ·intro w' hS;have d2:=(hS.cell (p:=⟨g,2,none⟩) HGL).trans c2;have d3:=(hS.cell (p:=⟨g,3,none⟩) HGL).trans c3;go_simp;with_reducible rfl
               rotate_left
               ·simp only [Act.put,aA,aB,aC,WSUB];rfl
               refine pure_ (i:=9) (N:=some 111) (v:=?_) (a':=?_) (bA 16 1023) rfl rfl (by kernel_rfl) (fun _ _ _ h=>h) (Or.inl ⟨by rfl,?_⟩) ?_ ?_
               rotate_left
               ·intro w';go_simp;with_reducible rfl
               rotate_left
               ·simp only [Act.put,aA,aB,aC,WSUB];rfl
               refine one_ (i:=10) (N:=some 112) (bA 16 2047) rfl rfl (by kernel_rfl) (by decide) (fun K hK=>?_)
               refine call_ 51 #[.string _] (by rfl) rfl (by go_simp;rfl) ?_
               refine (errors_new _).mono ?_
               rintro e wn ⟨rfl,hbn,hfre⟩
               have hbn2:Below (wc).heap.size (wc) wn:=(Below.refl _ _).drew.trans hbn
               refine ⟨_,rfl,hK.out _ _ hbn2 (fun _=>?_)⟩
               clear hK K
               have ATN:=Lib.hid (AT41.out.below hbn2).to_
               have HQN:Hid (Fre wn B (wc).drew.heap.size):=Lib.hid ⟨by have:=HR.out.base;have:=HGL;show B≤(wc).heap.size;omega,hfre⟩
               clear hfre
               generalize (wc).drew.heap.size=qn at *
               refine last_ (i:=11) (N:=some 113) (bA 16 4095) rfl rfl (by kernel_rfl) (by decide) (fun K hK=>?_)
               refine call_ 50 #[.pointer (some ⟨g,0,none⟩),.int .i64 (off:Int),.iface 167 (.pointer (some ⟨qn,0,none⟩))] (by rfl) rfl (by go_simp) ?_
               refine (at_syn ATN.out (pk+1) HOFF.out (Nat.le_refl _) HQN.out).mono ?_
               rintro e wf ⟨qe,AE,rfl,hfl,xe⟩
               have ATE:=Lib.hid xe.to_
               have HFL:=Lib.hid hfl
               refine ⟨_,rfl,hK.out _ _ ?_⟩
               clear hK K hfl xe
               refine pure_ (i:=12) (N:=some 2) (v:=?_) (a':=?_) (bA 16 8191) rfl rfl (by kernel_rfl) (fun _ _ _ h=>h) (Or.inl ⟨by rfl,?_⟩) ?_ ?_
               rotate_left
               ·intro w';go_simp;with_reducible rfl
               rotate_left
               ·simp only [Act.put,aA,aB,aC,WSUB];rfl
               refine pure_ (i:=13) (N:=some 3) (v:=?_) (a':=?_) (bA 16 16383) rfl rfl (by kernel_rfl) (fun _ _ _ h=>h) (Or.inl ⟨by rfl,?_⟩) ?_ ?_
               rotate_left
               ·intro w';go_simp;with_reducible rfl
               rotate_left
               ·simp only [Act.put,aA,aB,aC,WSUB];rfl
               refine pure_ (i:=14) (N:=some 4) (v:=?_) (a':=?_) (bA 16 32767) rfl rfl (by kernel_rfl) (fun _ _ _ h=>h) (Or.inl ⟨by rfl,?_⟩) ?_ ?_
               rotate_left
               ·intro w';go_simp;with_reducible rfl
               rotate_left
               ·simp only [Act.put,aA,aB,aC,WSUB];rfl
               refine pure_ (i:=15) (N:=some 5) (v:=?_) (a':=?_) (bA 16 65535) rfl rfl (by kernel_rfl) (fun _ _ _ h=>h) (Or.inl ⟨by rfl,?_⟩) ?_ ?_
               rotate_left
               ·intro w';go_simp;with_reducible rfl
               rotate_left
               ·simp only [Act.put,aA,aB,aC,WSUB];rfl
               refine done_ (by kernel_rfl) ?_
               go_wp2_with fail
               ((try simp only [Exit.inBlock,Exit.then]);refine bodyPost_ret (results_tmp4 rfl _ _ _) rfl ?_)
               exact FldPost.flt ATE.out HPL.out HFL.out
         case rest=>
          obtain ⟨q,kn,vv,va,m2,cc,A55,C55,hval,rfl,rfl,x55,tv⟩:=hcut
          have HV2:=Lib.hid (fieldP_val (f:=f) Hkv.out HPK.out HK.out HK0.out H61.out hval)
          have VT:=Lib.hid tv
          clear tv hval
          have AT55:=Lib.hid x55.to_
          have KT55:=Lib.hid (x55.told KT41.out)
          clear x55
          go_wp2_with fail
          refine (at_ens HI.out AT55.out 1 (by omega)).mono ?_
          rintro e w56 ⟨rfl,C56,x56,av56⟩
          have AV56:=Lib.hid av56
          clear av56
          have AT56:=Lib.hid x56.to_
          have KT56:=Lib.hid (x56.told KT55.out)
          have VT56:=Lib.hid (x56.told VT.out)
          clear x56
          by_cases q3:q+1≤T.length
          ·skip
           rw [decide_eq_true q3]
           have AW:=Lib.hid (AV56.out q3)
           have HQ:=Lib.hid q3
           clear q3
           go_wp2_with fail
           refine (at_at AT56.out 0 (by omega) (fun _=>AW.out)).mono ?_
           rintro e w57 ⟨rfl,x57⟩
           rw [Nat.add_zero]
           have AT57:=Lib.hid x57.to_
           have KT57:=Lib.hid (x57.told KT56.out)
           have VT57:=Lib.hid (x57.told VT56.out)
           clear x57
           generalize hy:T.getD q 0=y
           have Hy:=Lib.hid hy
           clear hy
           by_cases h44:y=44
           ·skip
            have d1:(y.toNat:Int)=44:=by rw [h44];rfl
            rw [d1]
            have H44:Hid (T.getD q 0=44):=Lib.hid (Hy.out.trans h44)
            clear h44 d1
            go_wp2_with fail
            refine (at_adv AT57.out (by rw [H44.out];decide) AW.out).mono ?_
            rintro e w58 ⟨rfl,A58,C58,x58⟩
            have AT58:=Lib.hid x58.to_
            have KT58:=Lib.hid (x58.told KT57.out)
            have VT58:=Lib.hid (x58.told VT57.out)
            clear x58
            go_wp2_with fail
            ((try simp only [Exit.inBlock,Exit.then]);refine bodyPost_ret (results_tmp4 rfl _ _ _) rfl ?_)
            exact FldPost.got AT58.out (HV2.out.1 _ _ (behind_comma (by have:=HQ.out;omega) H44.out)) KT58.out HK0.out VT58.out
           ·skip
            have d1:¬(y.toNat:Int)=44:=fun e=>u8_ne h44 (by show y.toNat=44;omega)
            have H44:Hid (y.toNat≠44):=Lib.hid (u8_ne h44)
            clear h44
            go_wp2_with fail
            refine (at_mk mk_68 AT57.out).mono ?_
            rintro e w59 ⟨a59,rfl,hs59,x59⟩
            have AT59:=Lib.hid x59.to_
            have KT59:=Lib.hid (x59.told KT57.out)
            have VT59:=Lib.hid (x59.told VT57.out)
            clear x59
            have SW59:=Lib.hid hs59
            clear hs59
            go_wp2_with fail
            refine (at_get SW59.out y).mono ?_
            rintro e wz ⟨rfl,rfl⟩
            cases hw:inSet 1 y.toNat with
            | true=>
             have HW:=Lib.hid hw
             clear hw
             go_wp2_with fail
             refine (at_mk mk_53 AT59.out).mono ?_
             rintro e w60 ⟨a60,rfl,hs60,x60⟩
             have AT60:=Lib.hid x60.to_
             have KT60:=Lib.hid (x60.told KT59.out)
             have VT60:=Lib.hid (x60.told VT59.out)
             clear x60
             have SP60:=Lib.hid hs60
             clear hs60
             go_wp2_with fail
             refine (at_take HI.out AT60.out 0 (by decide) SP60.out).mono ?_
             rintro e w61 ⟨va61,c61,A61,C61,rfl,hn61,x61,t61,av61⟩
             have AV61:=Lib.hid av61
             have TK61:=Lib.hid t61
             have HN61:=Lib.hid hn61
             clear av61 t61 hn61
             have AT61:=Lib.hid x61.to_
             have KT61:=Lib.hid (x61.told KT60.out)
             have VT61:=Lib.hid (x61.told VT60.out)
             clear x61
             go_wp2_with fail
             refine (at_eol HI.out AT61.out).mono ?_
             rintro e w62 ⟨rfl,A62,C62,x62⟩
             have AT62:=Lib.hid x62.to_
             have KT62:=Lib.hid (x62.told KT61.out)
             have VT62:=Lib.hid (x62.told VT61.out)
             clear x62
             have HB:=Lib.hid (behind_white (by have:=HQ.out;omega) Hy.out H44.out HW.out)
             cases he:(eol T (past 0 T q)).1 with
             | true=>
              rw [he] at HB
              clear he
              have c5:=AT62.out.rep.c5
              have f5:=AT62.out.rep.fz 5
              go_wp2_with fail
              ((try simp only [Exit.inBlock,Exit.then]);refine bodyPost_ret (results_tmp4 rfl _ _ _) rfl ?_)
              exact FldPost.got (at_part AT62.out 5 (by omega)).to_ (HV2.out.1 _ _ HB.out) ((at_part AT62.out 5 (by omega)).told KT62.out) HK0.out ((at_part AT62.out 5 (by omega)).told VT62.out)
             | false=>
              rw [he] at HB
              clear he
              have c5:=AT62.out.rep.c5
              have f5:=AT62.out.rep.fz 5
              go_wp2_with fail
              ((try simp only [Exit.inBlock,Exit.then]);refine bodyPost_ret (results_tmp4 rfl _ _ _) rfl ?_)
              exact FldPost.got (at_part AT62.out 3 (by omega)).to_ (HV2.out.1 _ _ HB.out) ((at_part AT62.out 3 (by omega)).told KT62.out) HK0.out ((at_part AT62.out 3 (by omega)).told VT62.out)
            | false=>
             have HPL:=Lib.hid (HV2.out.2 (behind_none (by have:=HQ.out;omega) Hy.out H44.out hw))
             clear hw
             have HR:=Lib.hid AT59.out.rep
             have c2:=HR.out.c2
             have c3:=HR.out.c3
             have HGL:=HR.out.lt
             have e0:=AT59.out.at_
             have e5:=AT59.out.from_
             have e1:=HR.out.at_
             have e2:=HR.out.le01
             have e3:=HR.out.le1
             have e4:=HR.out.bl_le
             obtain ⟨off,hoff⟩:∃ off,q-f=off:=⟨_,rfl⟩
             obtain ⟨p1,hp1⟩:∃ p1,C56.r1=p1:=⟨_,rfl⟩
             obtain ⟨p0,hp0⟩:∃ p0,C56.r0=p0:=⟨_,rfl⟩
             have WSUB:IntKind.i64.wrap ((p1:Int)-(p0:Int))=(off:Int):=by rw [IntWalk.i64_in _ (by omega)];omega
             rw [hp1] at c3
             rw [hp0] at c2
             have HOFF:Hid (f+off=q):=Lib.hid (by omega)
             clear e0 e1 e2 e3 e4 e5 hoff hp1 hp0
             go_wp2_with fail
             refine start_ (n:=16) (S:=fun w'=>Below (w59).heap.size (w59) w') (ds:=[11]) (bA 16 0) (by kernel_rfl) rfl rfl (Below.refl _ _).drew (fun _=>?_)
             refine pure_ (i:=0) (N:=some 215) (v:=?_) (a':=?_) (bA 16 1) rfl rfl (by kernel_rfl) (fun _ _ _ h=>h) (Or.inl ⟨by rfl,?_⟩) ?_ ?_
             rotate_left
             ·intro w';go_simp;with_reducible rfl
             rotate_left
             ·simp only [Act.put,aA,aB,aC,WSUB];rfl
             refine pure_ (i:=1) (N:=some 216) (v:=?_) (a':=?_) (bA 16 3) rfl rfl (by kernel_rfl) (fun _ _ _ h=>h) (Or.inl ⟨by rfl,?_⟩) ?_ ?_
             rotate_left
             ·intro w';go_simp;with_reducible rfl
             rotate_left
             ·simp only [Act.put,aA,aB,aC,WSUB];rfl
             refine pure_ (i:=2) (N:=some 217) (v:=?_) (a':=?_) (bA 16 7) rfl rfl (by kernel_rfl) (fun _ _ _ h=>h) (Or.inl ⟨by rfl,?_⟩) ?_ ?_
             rotate_left
             ·intro w';go_simp;with_reducible rfl
             rotate_left
             ·simp only [Act.put,aA,aB,aC,WSUB];rfl
             refine pure_ (i:=3) (N:=some 218) (v:=?_) (a':=?_) (bA 16 15) rfl rfl (by kernel_rfl) (fun _ _ _ h=>h) (Or.inl ⟨by rfl,?_⟩) ?_ ?_
             rotate_left
             ·intro w';go_simp;with_reducible rfl
             rotate_left
             ·simp only [Act.put,aA,aB,aC,WSUB];rfl
             refine take_ (i:=4) (N:=some 219) (v:=?_) (a':=?_) (bA 16 31) rfl rfl (by kernel_rfl) (fun _ _ _ h=>h) (Or.inl ⟨by rfl,?_⟩) (Below.refl _ _).drew ?_ ?_
             rotate_left
             ·intro w' hS;have d2:=(hS.cell (p:=⟨g,2,none⟩) HGL).trans c2;have d3:=(hS.cell (p:=⟨g,3,none⟩) HGL).trans c3;go_simp;with_reducible rfl
             rotate_left
             ·simp only [Act.put,aA,aB,aC,WSUB];rfl
             refine pure_ (i:=5) (N:=some 220) (v:=?_) (a':=?_) (bA 16 63) rfl rfl (by kernel_rfl) (fun _ _ _ h=>h) (Or.inl ⟨by rfl,?_⟩) ?_ ?_
             rotate_left
             ·intro w';go_simp;with_reducible rfl
             rotate_left
             ·simp only [Act.put,aA,aB,aC,WSUB];rfl
             refine pure_ (i:=6) (N:=some 221) (v:=?_) (a':=?_) (bA 16 127) rfl rfl (by kernel_rfl) (fun _ _ _ h=>h) (Or.inl ⟨by rfl,?_⟩) ?_ ?_
             rotate_left
             ·intro w';go_simp;with_reducible rfl
             rotate_left
             ·simp only [Act.put,aA,aB,aC,WSUB];rfl
             refine pure_ (i:=7) (N:=some 222) (v:=?_) (a':=?_) (bA 16 255) rfl rfl (by kernel_rfl) (fun _ _ _ h=>h) (Or.inl ⟨by rfl,?_⟩) ?_ ?_
             rotate_left
             ·intro w';go_simp;with_reducible rfl
             rotate_left
             ·simp only [Act.put,aA,aB,aC,WSUB];rfl
             refine take_ (i:=8) (N:=some 223) (v:=?_) (a':=?_) (bA 16 511) rfl rfl (by kernel_rfl) (fun _ _ _ h=>h) (Or.inl ⟨by rfl,?_⟩) (Below.refl _ _).drew ?_ ?_
             rotate_left
             ·intro w' hS;have d2:=(hS.cell (p:=⟨g,2,none⟩) HGL).trans c2;have d3:=(hS.cell (p:=⟨g,3,none⟩) HGL).trans c3;go_simp;with_reducible rfl
             rotate_left
             ·simp only [Act.put,aA,aB,aC,WSUB];rfl
             refine pure_ (i:=9) (N:=some 224) (v:=?_) (a':=?_) (bA 16 1023) rfl rfl (by kernel_rfl) (fun _ _ _ h=>h) (Or.inl ⟨by rfl,?_⟩) ?_ ?_
             rotate_left
             ·intro w';go_simp;with_reducible rfl
             rotate_left
             ·simp only [Act.put,aA,aB,aC,WSUB];rfl
             refine one_ (i:=10) (N:=some 225) (bA 16 2047) rfl rfl (by kernel_rfl) (by decide) (fun K hK=>?_)
             refine call_ 51 #[.string _] (by rfl) rfl (by go_simp;rfl) ?_
             refine (errors_new _).mono ?_
             rintro e wn ⟨rfl,hbn,hfre⟩
             have hbn2:Below (w59).heap.size (w59) wn:=(Below.refl _ _).drew.trans hbn
             refine ⟨_,rfl,hK.out _ _ hbn2 (fun _=>?_)⟩
             clear hK K
             have ATN:=Lib.hid (AT59.out.below hbn2).to_
             have HQN:Hid (Fre wn B (w59).drew.heap.size):=Lib.hid ⟨by have:=HR.out.base;have:=HGL;show B≤(w59).heap.size;omega,hfre⟩
             clear hfre
             generalize (w59).drew.heap.size=qn at *
             refine last_ (i:=11) (N:=some 226) (bA 16 4095) rfl rfl (by kernel_rfl) (by decide) (fun K hK=>?_)
             refine call_ 50 #[.pointer (some ⟨g,0,none⟩),.int .i64 (off:Int),.iface 167 (.pointer (some ⟨qn,0,none⟩))] (by rfl) rfl (by go_simp) ?_
             refine (at_syn ATN.out q HOFF.out (Nat.le_refl _) HQN.out).mono ?_
             rintro e wf ⟨qe,AE,rfl,hfl,xe⟩
             have ATE:=Lib.hid xe.to_
             have HFL:=Lib.hid hfl
             refine ⟨_,rfl,hK.out _ _ ?_⟩
             clear hK K hfl xe
             refine pure_ (i:=12) (N:=some 2) (v:=?_) (a':=?_) (bA 16 8191) rfl rfl (by kernel_rfl) (fun _ _ _ h=>h) (Or.inl ⟨by rfl,?_⟩) ?_ ?_
             rotate_left
             ·intro w';go_simp;with_reducible rfl
             rotate_left
             ·simp only [Act.put,aA,aB,aC,WSUB];rfl
             refine pure_ (i:=13) (N:=some 3) (v:=?_) (a':=?_) (bA 16 16383) rfl rfl (by kernel_rfl) (fun _ _ _ h=>h) (Or.inl ⟨by rfl,?_⟩) ?_ ?_
             rotate_left
             ·intro w';go_simp;with_reducible rfl
             rotate_left
             ·simp only [Act.put,aA,aB,aC,WSUB];rfl
             refine pure_ (i:=14) (N:=some 4) (v:=?_) (a':=?_) (bA 16 32767) rfl rfl (by kernel_rfl) (fun _ _ _ h=>h) (Or.inl ⟨by rfl,?_⟩) ?_ ?_
             rotate_left
             ·intro w';go_simp;with_reducible rfl
             rotate_left
             ·simp only [Act.put,aA,aB,aC,WSUB];rfl
             refine pure_ (i:=15) (N:=some 5) (v:=?_) (a':=?_) (bA 16 65535) rfl rfl (by kernel_rfl) (fun _ _ _ h=>h) (Or.inl ⟨by rfl,?_⟩) ?_ ?_
             rotate_left
             ·intro w';go_simp;with_reducible rfl
             rotate_left
             ·simp only [Act.put,aA,aB,aC,WSUB];rfl
             refine done_ (by kernel_rfl) ?_
             go_wp2_with fail
             ((try simp only [Exit.inBlock,Exit.then]);refine bodyPost_ret (results_tmp4 rfl _ _ _) rfl ?_)
             exact FldPost.flt ATE.out HPL.out HFL.out
          ·skip
           rw [decide_eq_false q3]
           have HQ:=Lib.hid q3
           clear q3
           have c5:=AT56.out.rep.c5
           have f5:=AT56.out.rep.fz 5
           go_wp2_with fail
           ((try simp only [Exit.inBlock,Exit.then]);refine bodyPost_ret (results_tmp4 rfl _ _ _) rfl ?_)
           exact FldPost.got (at_part AT56.out 5 (by omega)).to_ (HV2.out.1 _ _ (behind_end (by have:=HQ.out;omega))) ((at_part AT56.out 5 (by omega)).told KT56.out) HK0.out ((at_part AT56.out 5 (by omega)).told VT56.out)
       ·skip
        rw [decide_eq_false q2]
        have HQ:=Lib.hid q2
        clear q2
        have HPL:=Lib.hid (fieldP_vflt (f:=f) (q:=pk+1) (p2:=pk+1) Hkv.out HPK.out HK.out HK0.out H61.out (by unfold valP;dsimp only;rw [if_neg (by have:=HQ.out;omega)]))
        have HR:=Lib.hid AT39.out.rep
        have c2:=HR.out.c2
        have c3:=HR.out.c3
        have HGL:=HR.out.lt
        have e0:=AT39.out.at_
        have e5:=AT39.out.from_
        have e1:=HR.out.at_
        have e2:=HR.out.le01
        have e3:=HR.out.le1
        have e4:=HR.out.bl_le
        obtain ⟨off,hoff⟩:∃ off,(pk+1)-f=off:=⟨_,rfl⟩
        obtain ⟨p1,hp1⟩:∃ p1,C39.r1=p1:=⟨_,rfl⟩
        obtain ⟨p0,hp0⟩:∃ p0,C39.r0=p0:=⟨_,rfl⟩
        have WSUB:IntKind.i64.wrap ((p1:Int)-(p0:Int))=(off:Int):=by rw [IntWalk.i64_in _ (by omega)];omega
        rw [hp1] at c3
        rw [hp0] at c2
        have HOFF:Hid (f+off=(pk+1)):=Lib.hid (by omega)
        clear e0 e1 e2 e3 e4 e5 hoff hp1 hp0
        go_wp2_with fail
        refine start_ (n:=16) (S:=fun w'=>Below (w39).heap.size (w39) w') (ds:=[11]) (bA 16 0) (by kernel_rfl) rfl rfl (Below.refl _ _).drew (fun _=>?_)
        refine pure_ (i:=0) (N:=some 88) (v:=?_) (a':=?_) (bA 16 1) rfl rfl (by kernel_rfl) (fun _ _ _ h=>h) (Or.inl ⟨by rfl,?_⟩) ?_ ?_
        rotate_left
        ·intro w';go_simp;with_reducible rfl
        rotate_left
        ·simp only [Act.put,aA,aB,aC,WSUB];rfl
        refine pure_ (i:=1) (N:=some 89) (v:=?_) (a':=?_) (bA 16 3) rfl rfl (by kernel_rfl) (fun _ _ _ h=>h) (Or.inl ⟨by rfl,?_⟩) ?_ ?_
        rotate_left
        ·intro w';go_simp;with_reducible rfl
        rotate_left
        ·simp only [Act.put,aA,aB,aC,WSUB];rfl
        refine pure_ (i:=2) (N:=some 90) (v:=?_) (a':=?_) (bA 16 7) rfl rfl (by kernel_rfl) (fun _ _ _ h=>h) (Or.inl ⟨by rfl,?_⟩) ?_ ?_
        rotate_left
        ·intro w';go_simp;with_reducible rfl
        rotate_left
        ·simp only [Act.put,aA,aB,aC,WSUB];rfl
        refine pure_ (i:=3) (N:=some 91) (v:=?_) (a':=?_) (bA 16 15) rfl rfl (by kernel_rfl) (fun _ _ _ h=>h) (Or.inl ⟨by rfl,?_⟩) ?_ ?_
        rotate_left
        ·intro w';go_simp;with_reducible rfl
        rotate_left
        ·simp only [Act.put,aA,aB,aC,WSUB];rfl
        refine take_ (i:=4) (N:=some 92) (v:=?_) (a':=?_) (bA 16 31) rfl rfl (by kernel_rfl) (fun _ _ _ h=>h) (Or.inl ⟨by rfl,?_⟩) (Below.refl _ _).drew ?_ ?_
        rotate_left
        ·intro w' hS;have d2:=(hS.cell (p:=⟨g,2,none⟩) HGL).trans c2;have d3:=(hS.cell (p:=⟨g,3,none⟩) HGL).trans c3;go_simp;with_reducible rfl
        rotate_left
        ·simp only [Act.put,aA,aB,aC,WSUB];rfl
        refine pure_ (i:=5) (N:=some 93) (v:=?_) (a':=?_) (bA 16 63) rfl rfl (by kernel_rfl) (fun _ _ _ h=>h) (Or.inl ⟨by rfl,?_⟩) ?_ ?_
        rotate_left
        ·intro w';go_simp;with_reducible rfl
        rotate_left
        ·simp only [Act.put,aA,aB,aC,WSUB];rfl
        refine pure_ (i:=6) (N:=some 94) (v:=?_) (a':=?_) (bA 16 127) rfl rfl (by kernel_rfl) (fun _ _ _ h=>h) (Or.inl ⟨by rfl,?_⟩) ?_ ?_
        rotate_left
        ·intro w';go_simp;with_reducible rfl
        rotate_left
        ·simp only [Act.put,aA,aB,aC,WSUB];rfl
        refine pure_ (i:=7) (N:=some 95) (v:=?_) (a':=?_) (bA 16 255) rfl rfl (by kernel_rfl) (fun _ _ _ h=>h) (Or.inl ⟨by rfl,?_⟩) ?_ ?_
        rotate_left
        ·intro w';go_simp;with_reducible rfl
        rotate_left
        ·simp only [Act.put,aA,aB,aC,WSUB];rfl
        refine take_ (i:=8) (N:=some 96) (v:=?_) (a':=?_) (bA 16 511) rfl rfl (by kernel_rfl) (fun _ _ _ h=>h) (Or.inl ⟨by rfl,?_⟩) (Below.refl _ _).drew ?_ ?_
        rotate_left
        ·intro w' hS;have d2:=(hS.cell (p:=⟨g,2,none⟩) HGL).trans c2;have d3:=(hS.cell (p:=⟨g,3,none⟩) HGL).trans c3;go_simp;with_reducible rfl
        rotate_left
        ·simp only [Act.put,aA,aB,aC,WSUB];rfl
        refine pure_ (i:=9) (N:=some 97) (v:=?_) (a':=?_) (bA 16 1023) rfl rfl (by kernel_rfl) (fun _ _ _ h=>h) (Or.inl ⟨by rfl,?_⟩) ?_ ?_
        rotate_left
        ·intro w';go_simp;with_reducible rfl
        rotate_left
        ·simp only [Act.put,aA,aB,aC,WSUB];rfl
        refine one_ (i:=10) (N:=some 98) (bA 16 2047) rfl rfl (by kernel_rfl) (by decide) (fun K hK=>?_)
        refine call_ 51 #[.string _] (by rfl) rfl (by go_simp;rfl) ?_
        refine (errors_new _).mono ?_
        rintro e wn ⟨rfl,hbn,hfre⟩
        have hbn2:Below (w39).heap.size (w39) wn:=(Below.refl _ _).drew.trans hbn
        refine ⟨_,rfl,hK.out _ _ hbn2 (fun _=>?_)⟩
        clear hK K
        have ATN:=Lib.hid (AT39.out.below hbn2).to_
        have HQN:Hid (Fre wn B (w39).drew.heap.size):=Lib.hid ⟨by have:=HR.out.base;have:=HGL;show B≤(w39).heap.size;omega,hfre⟩
        clear hfre
        generalize (w39).drew.heap.size=qn at *
        refine last_ (i:=11) (N:=some 99) (bA 16 4095) rfl rfl (by kernel_rfl) (by decide) (fun K hK=>?_)
        refine call_ 50 #[.pointer (some ⟨g,0,none⟩),.int .i64 (off:Int),.iface 167 (.pointer (some ⟨qn,0,none⟩))] (by rfl) rfl (by go_simp) ?_
        refine (at_syn ATN.out (pk+1) HOFF.out (Nat.le_refl _) HQN.out).mono ?_
        rintro e wf ⟨qe,AE,rfl,hfl,xe⟩
        have ATE:=Lib.hid xe.to_
        have HFL:=Lib.hid hfl
        refine ⟨_,rfl,hK.out _ _ ?_⟩
        clear hK K hfl xe
        refine pure_ (i:=12) (N:=some 2) (v:=?_) (a':=?_) (bA 16 8191) rfl rfl (by kernel_rfl) (fun _ _ _ h=>h) (Or.inl ⟨by rfl,?_⟩) ?_ ?_
        rotate_left
        ·intro w';go_simp;with_reducible rfl
        rotate_left
        ·simp only [Act.put,aA,aB,aC,WSUB];rfl
        refine pure_ (i:=13) (N:=some 3) (v:=?_) (a':=?_) (bA 16 16383) rfl rfl (by kernel_rfl) (fun _ _ _ h=>h) (Or.inl ⟨by rfl,?_⟩) ?_ ?_
        rotate_left
        ·intro w';go_simp;with_reducible rfl
        rotate_left
        ·simp only [Act.put,aA,aB,aC,WSUB];rfl
        refine pure_ (i:=14) (N:=some 4) (v:=?_) (a':=?_) (bA 16 32767) rfl rfl (by kernel_rfl) (fun _ _ _ h=>h) (Or.inl ⟨by rfl,?_⟩) ?_ ?_
        rotate_left
        ·intro w';go_simp;with_reducible rfl
        rotate_left
        ·simp only [Act.put,aA,aB,aC,WSUB];rfl
        refine pure_ (i:=15) (N:=some 5) (v:=?_) (a':=?_) (bA 16 65535) rfl rfl (by kernel_rfl) (fun _ _ _ h=>h) (Or.inl ⟨by rfl,?_⟩) ?_ ?_
        rotate_left
        ·intro w';go_simp;with_reducible rfl
        rotate_left
        ·simp only [Act.put,aA,aB,aC,WSUB];rfl
        refine done_ (by kernel_rfl) ?_
        go_wp2_with fail
        ((try simp only [Exit.inBlock,Exit.then]);refine bodyPost_ret (results_tmp4 rfl _ _ _) rfl ?_)
        exact FldPost.flt ATE.out HPL.out HFL.out
      ·skip
       have d1:¬(x.toNat:Int)=61:=fun e=>u8_ne hx61 (by show x.toNat=61;omega)
       have H61:Hid (T.getD pk 0≠61):=Lib.hid (fun h=>hx61 (Hx.out.symm.trans h))
       clear hx61
       have HPL:=Lib.hid (fieldP_eq (f:=f) Hkv.out HPK.out HK.out HK0.out H61.out)
       have HR:=Lib.hid AT37.out.rep
       have c2:=HR.out.c2
       have c3:=HR.out.c3
       have HGL:=HR.out.lt
       have e0:=AT37.out.at_
       have e5:=AT37.out.from_
       have e1:=HR.out.at_
       have e2:=HR.out.le01
       have e3:=HR.out.le1
       have e4:=HR.out.bl_le
       obtain ⟨off,hoff⟩:∃ off,pk-f=off:=⟨_,rfl⟩
       obtain ⟨p1,hp1⟩:∃ p1,C36.r1=p1:=⟨_,rfl⟩
       obtain ⟨p0,hp0⟩:∃ p0,C36.r0=p0:=⟨_,rfl⟩
       have WSUB:IntKind.i64.wrap ((p1:Int)-(p0:Int))=(off:Int):=by rw [IntWalk.i64_in _ (by omega)];omega
       rw [hp1] at c3
       rw [hp0] at c2
       have HOFF:Hid (f+off=pk):=Lib.hid (by omega)
       clear e0 e1 e2 e3 e4 e5 hoff hp1 hp0
       go_wp2_with fail
       refine start_ (n:=16) (S:=fun w'=>Below (w37).heap.size (w37) w') (ds:=[11]) (bA 16 0) (by kernel_rfl) rfl rfl (Below.refl _ _).drew (fun _=>?_)
       refine pure_ (i:=0) (N:=some 71) (v:=?_) (a':=?_) (bA 16 1) rfl rfl (by kernel_rfl) (fun _ _ _ h=>h) (Or.inl ⟨by rfl,?_⟩) ?_ ?_
       rotate_left
       ·intro w';go_simp;with_reducible rfl
       rotate_left
       ·simp only [Act.put,aA,aB,aC,WSUB];rfl
       refine pure_ (i:=1) (N:=some 72) (v:=?_) (a':=?_) (bA 16 3) rfl rfl (by kernel_rfl) (fun _ _ _ h=>h) (Or.inl ⟨by rfl,?_⟩) ?_ ?_
       rotate_left
       ·intro w';go_simp;with_reducible rfl
       rotate_left
       ·simp only [Act.put,aA,aB,aC,WSUB];rfl
       refine pure_ (i:=2) (N:=some 73) (v:=?_) (a':=?_) (bA 16 7) rfl rfl (by kernel_rfl) (fun _ _ _ h=>h) (Or.inl ⟨by rfl,?_⟩) ?_ ?_
       rotate_left
       ·intro w';go_simp;with_reducible rfl
       rotate_left
       ·simp only [Act.put,aA,aB,aC,WSUB];rfl
       refine pure_ (i:=3) (N:=some 74) (v:=?_) (a':=?_) (bA 16 15) rfl rfl (by kernel_rfl) (fun _ _ _ h=>h) (Or.inl ⟨by rfl,?_⟩) ?_ ?_
       rotate_left
       ·intro w';go_simp;with_reducible rfl
       rotate_left
       ·simp only [Act.put,aA,aB,aC,WSUB];rfl
       refine take_ (i:=4) (N:=some 75) (v:=?_) (a':=?_) (bA 16 31) rfl rfl (by kernel_rfl) (fun _ _ _ h=>h) (Or.inl ⟨by rfl,?_⟩) (Below.refl _ _).drew ?_ ?_
       rotate_left
       ·intro w' hS;have d2:=(hS.cell (p:=⟨g,2,none⟩) HGL).trans c2;have d3:=(hS.cell (p:=⟨g,3,none⟩) HGL).trans c3;go_simp;with_reducible rfl
       rotate_left
       ·simp only [Act.put,aA,aB,aC,WSUB];rfl
       refine pure_ (i:=5) (N:=some 76) (v:=?_) (a':=?_) (bA 16 63) rfl rfl (by kernel_rfl) (fun _ _ _ h=>h) (Or.inl ⟨by rfl,?_⟩) ?_ ?_
       rotate_left
       ·intro w';go_simp;with_reducible rfl
       rotate_left
       ·simp only [Act.put,aA,aB,aC,WSUB];rfl
       refine pure_ (i:=6) (N:=some 77) (v:=?_) (a':=?_) (bA 16 127) rfl rfl (by kernel_rfl) (fun _ _ _ h=>h) (Or.inl ⟨by rfl,?_⟩) ?_ ?_
       rotate_left
       ·intro w';go_simp;with_reducible rfl
       rotate_left
       ·simp only [Act.put,aA,aB,aC,WSUB];rfl
       refine pure_ (i:=7) (N:=some 78) (v:=?_) (a':=?_) (bA 16 255) rfl rfl (by kernel_rfl) (fun _ _ _ h=>h) (Or.inl ⟨by rfl,?_⟩) ?_ ?_
       rotate_left
       ·intro w';go_simp;with_reducible rfl
       rotate_left
       ·simp only [Act.put,aA,aB,aC,WSUB];rfl
       refine take_ (i:=8) (N:=some 79) (v:=?_) (a':=?_) (bA 16 511) rfl rfl (by kernel_rfl) (fun _ _ _ h=>h) (Or.inl ⟨by rfl,?_⟩) (Below.refl _ _).drew ?_ ?_
       rotate_left
       ·intro w' hS;have d2:=(hS.cell (p:=⟨g,2,none⟩) HGL).trans c2;have d3:=(hS.cell (p:=⟨g,3,none⟩) HGL).trans c3;go_simp;with_reducible rfl
       rotate_left
       ·simp only [Act.put,aA,aB,aC,WSUB];rfl
       refine pure_ (i:=9) (N:=some 80) (v:=?_) (a':=?_) (bA 16 1023) rfl rfl (by kernel_rfl) (fun _ _ _ h=>h) (Or.inl ⟨by rfl,?_⟩) ?_ ?_
       rotate_left
       ·intro w';go_simp;with_reducible rfl
       rotate_left
       ·simp only [Act.put,aA,aB,aC,WSUB];rfl
       refine one_ (i:=10) (N:=some 81) (bA 16 2047) rfl rfl (by kernel_rfl) (by decide) (fun K hK=>?_)
       refine call_ 51 #[.string _] (by rfl) rfl (by go_simp;rfl) ?_
       refine (errors_new _).mono ?_
       rintro e wn ⟨rfl,hbn,hfre⟩
       have hbn2:Below (w37).heap.size (w37) wn:=(Below.refl _ _).drew.trans hbn
       refine ⟨_,rfl,hK.out _ _ hbn2 (fun _=>?_)⟩
       clear hK K
       have ATN:=Lib.hid (AT37.out.below hbn2).to_
       have HQN:Hid (Fre wn B (w37).drew.heap.size):=Lib.hid ⟨by have:=HR.out.base;have:=HGL;show B≤(w37).heap.size;omega,hfre⟩
       clear hfre
       generalize (w37).drew.heap.size=qn at *
       refine last_ (i:=11) (N:=some 82) (bA 16 4095) rfl rfl (by kernel_rfl) (by decide) (fun K hK=>?_)
       refine call_ 50 #[.pointer (some ⟨g,0,none⟩),.int .i64 (off:Int),.iface 167 (.pointer (some ⟨qn,0,none⟩))] (by rfl) rfl (by go_simp) ?_
       refine (at_syn ATN.out pk HOFF.out (Nat.le_refl _) HQN.out).mono ?_
       rintro e wf ⟨qe,AE,rfl,hfl,xe⟩
       have ATE:=Lib.hid xe.to_
       have HFL:=Lib.hid hfl
       refine ⟨_,rfl,hK.out _ _ ?_⟩
       clear hK K hfl xe
       refine pure_ (i:=12) (N:=some 2) (v:=?_) (a':=?_) (bA 16 8191) rfl rfl (by kernel_rfl) (fun _ _ _ h=>h) (Or.inl ⟨by rfl,?_⟩) ?_ ?_
       rotate_left
       ·intro w';go_simp;with_reducible rfl
       rotate_left
       ·simp only [Act.put,aA,aB,aC,WSUB];rfl
       refine pure_ (i:=13) (N:=some 3) (v:=?_) (a':=?_) (bA 16 16383) rfl rfl (by kernel_rfl) (fun _ _ _ h=>h) (Or.inl ⟨by rfl,?_⟩) ?_ ?_
       rotate_left
       ·intro w';go_simp;with_reducible rfl
       rotate_left
       ·simp only [Act.put,aA,aB,aC,WSUB];rfl
       refine pure_ (i:=14) (N:=some 4) (v:=?_) (a':=?_) (bA 16 32767) rfl rfl (by kernel_rfl) (fun _ _ _ h=>h) (Or.inl ⟨by rfl,?_⟩) ?_ ?_
       rotate_left
       ·intro w';go_simp;with_reducible rfl
       rotate_left
       ·simp only [Act.put,aA,aB,aC,WSUB];rfl
       refine pure_ (i:=15) (N:=some 5) (v:=?_) (a':=?_) (bA 16 65535) rfl rfl (by kernel_rfl) (fun _ _ _ h=>h) (Or.inl ⟨by rfl,?_⟩) ?_ ?_
       rotate_left
       ·intro w';go_simp;with_reducible rfl
       rotate_left
       ·simp only [Act.put,aA,aB,aC,WSUB];rfl
       refine done_ (by kernel_rfl) ?_
       go_wp2_with fail
       ((try simp only [Exit.inBlock,Exit.then]);refine bodyPost_ret (results_tmp4 rfl _ _ _) rfl ?_)
       exact FldPost.flt ATE.out HPL.out HFL.out
     ·skip
      rw [decide_eq_false q1]
      have HQ:=Lib.hid q1
      clear q1
      have HPL:=Lib.hid (fieldP_eq (f:=f) Hkv.out HPK.out HK.out HK0.out (by rw [getD_end HQ.out];decide))
      have HR:=Lib.hid AT36.out.rep
      have c2:=HR.out.c2
      have c3:=HR.out.c3
      have HGL:=HR.out.lt
      have e0:=AT36.out.at_
      have e5:=AT36.out.from_
      have e1:=HR.out.at_
      have e2:=HR.out.le01
      have e3:=HR.out.le1
      have e4:=HR.out.bl_le
      obtain ⟨off,hoff⟩:∃ off,pk-f=off:=⟨_,rfl⟩
      obtain ⟨p1,hp1⟩:∃ p1,C36.r1=p1:=⟨_,rfl⟩
      obtain ⟨p0,hp0⟩:∃ p0,C36.r0=p0:=⟨_,rfl⟩
      have WSUB:IntKind.i64.wrap ((p1:Int)-(p0:Int))=(off:Int):=by rw [IntWalk.i64_in _ (by omega)];omega
      rw [hp1] at c3
      rw [hp0] at c2
      have HOFF:Hid (f+off=pk):=Lib.hid (by omega)
      clear e0 e1 e2 e3 e4 e5 hoff hp1 hp0
      go_wp2_with fail
      refine start_ (n:=16) (S:=fun w'=>Below (w36).heap.size (w36) w') (ds:=[11]) (bA 16 0) (by kernel_rfl) rfl rfl (Below.refl _ _).drew (fun _=>?_)
      refine pure_ (i:=0) (N:=some 55) (v:=?_) (a':=?_) (bA 16 1) rfl rfl (by kernel_rfl) (fun _ _ _ h=>h) (Or.inl ⟨by rfl,?_⟩) ?_ ?_
      rotate_left
      ·intro w';go_simp;with_reducible rfl
      rotate_left
      ·simp only [Act.put,aA,aB,aC,WSUB];rfl
      refine pure_ (i:=1) (N:=some 56) (v:=?_) (a':=?_) (bA 16 3) rfl rfl (by kernel_rfl) (fun _ _ _ h=>h) (Or.inl ⟨by rfl,?_⟩) ?_ ?_
      rotate_left
      ·intro w';go_simp;with_reducible rfl
      rotate_left
      ·simp only [Act.put,aA,aB,aC,WSUB];rfl
      refine pure_ (i:=2) (N:=some 57) (v:=?_) (a':=?_) (bA 16 7) rfl rfl (by kernel_rfl) (fun _ _ _ h=>h) (Or.inl ⟨by rfl,?_⟩) ?_ ?_
      rotate_left
      ·intro w';go_simp;with_reducible rfl
      rotate_left
      ·simp only [Act.put,aA,aB,aC,WSUB];rfl
      refine pure_ (i:=3) (N:=some 58) (v:=?_) (a':=?_) (bA 16 15) rfl rfl (by kernel_rfl) (fun _ _ _ h=>h) (Or.inl ⟨by rfl,?_⟩) ?_ ?_
      rotate_left
      ·intro w';go_simp;with_reducible rfl
      rotate_left
      ·simp only [Act.put,aA,aB,aC,WSUB];rfl
      refine take_ (i:=4) (N:=some 59) (v:=?_) (a':=?_) (bA 16 31) rfl rfl (by kernel_rfl) (fun _ _ _ h=>h) (Or.inl ⟨by rfl,?_⟩) (Below.refl _ _).drew ?_ ?_
      rotate_left
      ·intro w' hS;have d2:=(hS.cell (p:=⟨g,2,none⟩) HGL).trans c2;have d3:=(hS.cell (p:=⟨g,3,none⟩) HGL).trans c3;go_simp;with_reducible rfl
      rotate_left
      ·simp only [Act.put,aA,aB,aC,WSUB];rfl
      refine pure_ (i:=5) (N:=some 60) (v:=?_) (a':=?_) (bA 16 63) rfl rfl (by kernel_rfl) (fun _ _ _ h=>h) (Or.inl ⟨by rfl,?_⟩) ?_ ?_
      rotate_left
      ·intro w';go_simp;with_reducible rfl
      rotate_left
      ·simp only [Act.put,aA,aB,aC,WSUB];rfl
      refine pure_ (i:=6) (N:=some 61) (v:=?_) (a':=?_) (bA 16 127) rfl rfl (by kernel_rfl) (fun _ _ _ h=>h) (Or.inl ⟨by rfl,?_⟩) ?_ ?_
      rotate_left
      ·intro w';go_simp;with_reducible rfl
      rotate_left
      ·simp only [Act.put,aA,aB,aC,WSUB];rfl
      refine pure_ (i:=7) (N:=some 62) (v:=?_) (a':=?_) (bA 16 255) rfl rfl (by kernel_rfl) (fun _ _ _ h=>h) (Or.inl ⟨by rfl,?_⟩) ?_ ?_
      rotate_left
      ·intro w';go_simp;with_reducible rfl
      rotate_left
      ·simp only [Act.put,aA,aB,aC,WSUB];rfl
      refine take_ (i:=8) (N:=some 63) (v:=?_) (a':=?_) (bA 16 511) rfl rfl (by kernel_rfl) (fun _ _ _ h=>h) (Or.inl ⟨by rfl,?_⟩) (Below.refl _ _).drew ?_ ?_
      rotate_left
      ·intro w' hS;have d2:=(hS.cell (p:=⟨g,2,none⟩) HGL).trans c2;have d3:=(hS.cell (p:=⟨g,3,none⟩) HGL).trans c3;go_simp;with_reducible rfl
      rotate_left
      ·simp only [Act.put,aA,aB,aC,WSUB];rfl
      refine pure_ (i:=9) (N:=some 64) (v:=?_) (a':=?_) (bA 16 1023) rfl rfl (by kernel_rfl) (fun _ _ _ h=>h) (Or.inl ⟨by rfl,?_⟩) ?_ ?_
      rotate_left
      ·intro w';go_simp;with_reducible rfl
      rotate_left
      ·simp only [Act.put,aA,aB,aC,WSUB];rfl
      refine one_ (i:=10) (N:=some 65) (bA 16 2047) rfl rfl (by kernel_rfl) (by decide) (fun K hK=>?_)
      refine call_ 51 #[.string _] (by rfl) rfl (by go_simp;rfl) ?_
      refine (errors_new _).mono ?_
      rintro e wn ⟨rfl,hbn,hfre⟩
      have hbn2:Below (w36).heap.size (w36) wn:=(Below.refl _ _).drew.trans hbn
      refine ⟨_,rfl,hK.out _ _ hbn2 (fun _=>?_)⟩
      clear hK K
      have ATN:=Lib.hid (AT36.out.below hbn2).to_
      have HQN:Hid (Fre wn B (w36).drew.heap.size):=Lib.hid ⟨by have:=HR.out.base;have:=HGL;show B≤(w36).heap.size;omega,hfre⟩
      clear hfre
      generalize (w36).drew.heap.size=qn at *
      refine last_ (i:=11) (N:=some 66) (bA 16 4095) rfl rfl (by kernel_rfl) (by decide) (fun K hK=>?_)
      refine call_ 50 #[.pointer (some ⟨g,0,none⟩),.int .i64 (off:Int),.iface 167 (.pointer (some ⟨qn,0,none⟩))] (by rfl) rfl (by go_simp) ?_
      refine (at_syn ATN.out pk HOFF.out (Nat.le_refl _) HQN.out).mono ?_
      rintro e wf ⟨qe,AE,rfl,hfl,xe⟩
      have ATE:=Lib.hid xe.to_
      have HFL:=Lib.hid hfl
      refine ⟨_,rfl,hK.out _ _ ?_⟩
      clear hK K hfl xe
      refine pure_ (i:=12) (N:=some 2) (v:=?_) (a':=?_) (bA 16 8191) rfl rfl (by kernel_rfl) (fun _ _ _ h=>h) (Or.inl ⟨by rfl,?_⟩) ?_ ?_
      rotate_left
      ·intro w';go_simp;with_reducible rfl
      rotate_left
      ·simp only [Act.put,aA,aB,aC,WSUB];rfl
      refine pure_ (i:=13) (N:=some 3) (v:=?_) (a':=?_) (bA 16 16383) rfl rfl (by kernel_rfl) (fun _ _ _ h=>h) (Or.inl ⟨by rfl,?_⟩) ?_ ?_
      rotate_left
      ·intro w';go_simp;with_reducible rfl
      rotate_left
      ·simp only [Act.put,aA,aB,aC,WSUB];rfl
      refine pure_ (i:=14) (N:=some 4) (v:=?_) (a':=?_) (bA 16 32767) rfl rfl (by kernel_rfl) (fun _ _ _ h=>h) (Or.inl ⟨by rfl,?_⟩) ?_ ?_
      rotate_left
      ·intro w';go_simp;with_reducible rfl
      rotate_left
      ·simp only [Act.put,aA,aB,aC,WSUB];rfl
      refine pure_ (i:=15) (N:=some 5) (v:=?_) (a':=?_) (bA 16 65535) rfl rfl (by kernel_rfl) (fun _ _ _ h=>h) (Or.inl ⟨by rfl,?_⟩) ?_ ?_
      rotate_left
      ·intro w';go_simp;with_reducible rfl
      rotate_left
      ·simp only [Act.put,aA,aB,aC,WSUB];rfl
      refine done_ (by kernel_rfl) ?_
      go_wp2_with fail
      ((try simp only [Exit.inBlock,Exit.then]);refine bodyPost_ret (results_tmp4 rfl _ _ _) rfl ?_)
      exact FldPost.flt ATE.out HPL.out HFL.out
   ·have HVAL:=Lib.hid hval
    have HFL:=Lib.hid hfl
    clear hval hfl
    have AT30:=Lib.hid x30.to_
    clear x30
    go_wp2_with fail
    ((try simp only [Exit.inBlock,Exit.then]);refine bodyPost_ret (results_tmp4 rfl _ _ _) rfl ?_)
    exact FldPost.flt AT30.out ((fieldP_bad Hkv.out (fun h3=>by rw [HVAL.out] at h3;exact absurd h3.1 (by decide)))) HFL.out
  ·rw [show decide ((none:Option Flt)=none∧k=2)=false from decide_eq_false (fun h=>hp h.2)]
   have e1:fieldP sk T ⟨p,f,k⟩=(⟨p,f,k⟩,.non):=by unfold fieldP;rw [if_neg hp]
   have HP:=Lib.hid e1
   clear hp e1
   go_wp2_with fail
   ((try simp only [Exit.inBlock,Exit.then]);refine bodyPost_ret (results_tmp4 rfl _ _ _) rfl ?_)
   exact FldPost.non AT1.out HP.out
end Go.Proofs.YtkfggfjdplnkpaaGreatDoor
end
