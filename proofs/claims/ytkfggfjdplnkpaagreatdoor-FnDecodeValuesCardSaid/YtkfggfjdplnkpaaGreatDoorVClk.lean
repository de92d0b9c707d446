/- A part of the proof that the law FnDecodeValues returns true; its conditions are those of the last part. -/
import Derived.Test.YtkfggfjdplnkpaaGreatDoorVNfl
set_option maxRecDepth 100000
set_option linter.unusedVariables false
set_option linter.unusedSimpArgs false
section
namespace Go.Proofs.YtkfggfjdplnkpaaGreatDoor
open Go Go.RowKit
structure TmB (w:World) (g:Nat) (s:Int) (n:Nat):Prop where
 blk:w.heap[g]?=some (.cells #[.int .u64 (n:Int),.int .i64 s,.pointer none] 132 (0,0))
 n9:n<1000000000
 s1:-4611686018427387904≤s
 s2:s≤4611686018427387904
def tmV (s:Int) (n:Nat):Value:=.agg #[.int .u64 (n:Int),.int .i64 s,.pointer none]
theorem nat_and_mul (n a k m:Nat) (e:m=a*2 ^ k) (h:n<2 ^ k):n &&& m=0:=by
 apply Nat.eq_of_testBit_eq
 intro i
 rw [Nat.testBit_and,Nat.zero_testBit,e,Nat.testBit_mul_two_pow]
 by_cases hi:k≤i
 ·rw [Nat.testBit_lt_two_pow (Nat.lt_of_lt_of_le h (Nat.pow_le_pow_right (by omega) hi))];rfl
 ·rw [decide_eq_false hi];simp
theorem nat_and_high (n:Nat) (h:n<1073741824):n &&& 9223372036854775808=0:=nat_and_mul n 1 63 _ rfl (by omega)
theorem nat_and_not (n:Nat) (h:n<1073741824):n &&& 18446744072635809792=0:=nat_and_mul n 17179869183 30 _ rfl (by omega)
theorem and_high (n:Nat) (h:n<1000000000):bits .and .u64 (n:Int) 9223372036854775808=0:=by
 have e:bits .and .u64 (n:Int) 9223372036854775808=IntKind.u64.wrap ((BitVec.ofInt 64 (n:Int) &&& BitVec.ofInt 64 9223372036854775808).toNat:Int):=rfl
 rw [e,BitVec.toNat_and,BitVec.toNat_ofInt,BitVec.toNat_ofInt]
 have h1:((n:Int) % (2 ^ 64:Nat)).toNat=n:=by omega
 have h2:((9223372036854775808:Int) % (2 ^ 64:Nat)).toNat=9223372036854775808:=by decide
 rw [h1,h2,nat_and_high n (by omega)]
 rfl
theorem and_ns (n:Nat) (h:n<1000000000):bits .and .u64 (n:Int) 1073741823=(n:Int):=by
 have e:bits .and .u64 (n:Int) 1073741823=IntKind.u64.wrap ((BitVec.ofInt 64 (n:Int) &&& BitVec.ofInt 64 1073741823).toNat:Int):=rfl
 rw [e,BitVec.toNat_and,BitVec.toNat_ofInt,BitVec.toNat_ofInt]
 have h1:((n:Int) % (2 ^ 64:Nat)).toNat=n:=by omega
 have h2:((1073741823:Int) % (2 ^ 64:Nat)).toNat=2 ^ 30-1:=by decide
 rw [h1,h2,Nat.and_two_pow_sub_one_eq_mod,Nat.mod_eq_of_lt (by omega)]
 exact IntWalk.u64_in _ (by omega)
theorem andNot_ns (n:Nat) (h:n<1000000000):bits .andNot .u64 (n:Int) 1073741823=0:=by
 have e:bits .andNot .u64 (n:Int) 1073741823=IntKind.u64.wrap ((BitVec.ofInt 64 (n:Int) &&& ~~~ BitVec.ofInt 64 1073741823).toNat:Int):=rfl
 rw [e,BitVec.toNat_and,BitVec.toNat_not,BitVec.toNat_ofInt,BitVec.toNat_ofInt]
 have h1:((n:Int) % (2 ^ 64:Nat)).toNat=n:=by omega
 have h2:2 ^ 64-1-((1073741823:Int) % (2 ^ 64:Nat)).toNat=18446744072635809792:=by decide
 rw [h1,h2,nat_and_not n (by omega)]
 rfl
theorem or_ns (n:Nat) (h:n<1000000000):bits .or .u64 0 (n:Int)=(n:Int):=by
 have e:bits .or .u64 0 (n:Int)=IntKind.u64.wrap ((BitVec.ofInt 64 0 ||| BitVec.ofInt 64 (n:Int)).toNat:Int):=rfl
 rw [e,BitVec.toNat_or,BitVec.toNat_ofInt,BitVec.toNat_ofInt]
 have h1:((n:Int) % (2 ^ 64:Nat)).toNat=n:=by omega
 have h2:((0:Int) % (2 ^ 64:Nat)).toNat=0:=by decide
 rw [h1,h2,Nat.zero_or]
 exact IntWalk.u64_in _ (by omega)
theorem nsec_spec {w:World} {g n:Nat} {s:Int} (h:TmB w g s n):Calls Tryz.prog 119 #[.pointer (some ⟨g,0,none⟩)] w fun e w'=>e=.returned (.int .i32 (n:Int))∧w'=w:=by
 have c0:w.cell? ⟨g,0,none⟩=some (.int .u64 (n:Int)):=blk_cell h.blk 0
 have a1:=and_ns n h.n9
 have a2:wrap32 (n:Int)=(n:Int):=by have:=h.n9;unfold wrap32;omega
 clear h
 go_enter Tryz.func119,Tryz.ntmps119
 go_wp2_with fail
 rw [a2]
 go_ret
 exact ⟨rfl,rfl⟩
theorem sec_spec {w:World} {g n:Nat} {s:Int} (h:TmB w g s n):Calls Tryz.prog 143 #[.pointer (some ⟨g,0,none⟩)] w fun e w'=>e=.returned (.int .i64 s)∧w'=w:=by
 have c0:w.cell? ⟨g,0,none⟩=some (.int .u64 (n:Int)):=blk_cell h.blk 0
 have c1:w.cell? ⟨g,1,none⟩=some (.int .i64 s):=blk_cell h.blk 1
 have a1:=and_high n h.n9
 clear h
 go_enter Tryz.func143,Tryz.ntmps143
 go_wp2_with fail
 go_ret
 exact ⟨rfl,rfl⟩
theorem strip_spec {w:World} {g n:Nat} {s:Int} (h:TmB w g s n):Calls Tryz.prog 140 #[.pointer (some ⟨g,0,none⟩)] w fun e w'=>e=.returned (.tuple #[])∧w'=w:=by
 have c0:w.cell? ⟨g,0,none⟩=some (.int .u64 (n:Int)):=blk_cell h.blk 0
 have a1:=and_high n h.n9
 clear h
 go_enter Tryz.func140,Tryz.ntmps140
 go_wp2_with fail
 go_end0
 exact ⟨rfl,rfl⟩
theorem unixSec_spec {w:World} {g n:Nat} {s:Int} (h:TmB w g s n):Calls Tryz.prog 118 #[.pointer (some ⟨g,0,none⟩)] w fun e w'=>e=.returned (.int .i64 (s+-62135596800))∧w'=w:=by
 have H:=Lib.hid (sec_spec h)
 have a1:IntKind.i64.wrap (s+-62135596800)=s+-62135596800:=by have:=h.s1;have:=h.s2;rw [IntWalk.i64_in _ (by omega)]
 clear h
 go_enter Tryz.func118,Tryz.ntmps118
 go_wp2_with fail
 refine (H.out).mono ?_
 rintro ex w2 ⟨rfl,rfl⟩
 go_wp2_with fail
 go_ret
 exact ⟨rfl,rfl⟩
theorem addSec_spec {w:World} {g n:Nat} {s d:Int} (h:TmB w g s n) (h1:-4611686018427387904≤s+d) (h2:s+d≤4611686018427387904) :
  Calls Tryz.prog 142 #[.pointer (some ⟨g,0,none⟩),.int .i64 d] w fun e w'=>e=.returned (.tuple #[])∧w'=w.setCell ⟨g,1,none⟩ (.int .i64 (s+d)):=by
 have c0:w.cell? ⟨g,0,none⟩=some (.int .u64 (n:Int)):=blk_cell h.blk 0
 have c1:w.cell? ⟨g,1,none⟩=some (.int .i64 s):=blk_cell h.blk 1
 have f1:=blk_frozen h.blk 1
 have a1:=and_high n h.n9
 have H:=Lib.hid (strip_spec h)
 obtain ⟨x,hx⟩:∃ x,s+d=x:=⟨_,rfl⟩
 have a2:IntKind.i64.wrap (s+d)=x:=by rw [IntWalk.i64_in _ (by omega)];exact hx
 have a3:(decide (s<x)==decide (0<d))=true:=by rw [beq_iff_eq,decide_eq_decide];omega
 rw [hx]
 clear h h1 h2 hx
 go_enter Tryz.func142,Tryz.ntmps142
 go_wp2_with fail
 go_end0
 exact ⟨rfl,rfl⟩
theorem wdiv (d:Int):d.tdiv 1000000000*1000000000+d.tmod 1000000000=d:=Int.tdiv_mul_add_tmod d 1000000000
def adS (s:Int) (n:Nat) (d:Int):Int:=s+((n:Int)+d)/1000000000
def adN (n:Nat) (d:Int):Nat:=(((n:Int)+d) % 1000000000).toNat
def TmOk (w:World) (s:Int) (n:Nat) (e:Ending) (w':World):Prop:=e=.returned (tmV s n)∧Below w.heap.size w w'
theorem TmB.alloc (w:World) {s:Int} {n:Nat} (hn:n<1000000000) (h1:-4611686018427387904≤s) (h2:s≤4611686018427387904):TmB (w.alloc (.cells #[.int .u64 (n:Int),.int .i64 s,.pointer none] 132)) w.heap.size s n:=⟨heap_alloc_new _ _,hn,h1,h2⟩
structure Two (w W:World) (s:Int) (n:Nat):Prop where
 t:TmB W w.heap.size s n
 r:W.heap[w.heap.size+1]?=some (.cells #[.int .u64 0,.int .i64 0,.pointer none] 132 (0,0))
 b:Below w.heap.size w W
def addW (w:World) (s:Int) (n:Nat):World:=(w.alloc (.cells #[.int .u64 (n:Int),.int .i64 s,.pointer none] 132)).alloc (.cells #[.int .u64 0,.int .i64 0,.pointer none] 132)
theorem alloc_two (w:World) (o:Obj):(w.alloc o).heap[w.heap.size]?=some o∧∀ r',r'<w.heap.size→(w.alloc o).heap[r']?=w.heap[r']?:=by
 have e:(w.alloc o).heap=w.heap.push o:=rfl
 rw [e]
 exact ⟨by simp,fun r' h=>by simp [Array.getElem?_push,Nat.ne_of_lt h]⟩
theorem res_c {fn:Func} {p:Tmp} {ty:TypeId} (h:fn.results=#[.cell p ty]) (tmps:Array Value) (w:World) (g:Nat) (t:TypeId) (cs:Array Value) (fr:Nat × Nat) {fs:Array Field}
  (hp:tmps.getD p undef=.pointer (some ⟨g,0,none⟩)) (hg:w.heap[g]?=some (.cells cs t fr))
  (hu:Tryz.prog.underlying ty=some (.struct fs)) (hi:(Tryz.prog.info? ty).map (·.size)=some cs.size) :
  (results fn tmps).run Tryz.prog w=.ok (.agg cs) w:=by
 have hp':tmps[p]?.getD undef=.pointer (some ⟨g,0,none⟩):=by simpa using hp
 simp only [results,h]
 simp [Sem.run_bind,hp',asAddr,run_loadVar_row w g t ty cs fr (.struct fs) hg hu rfl hi,Result.andThen]
theorem Two.start (w:World) {s:Int} {n:Nat} (hn:n<1000000000) (h1:-4611686018427387904≤s) (h2:s≤4611686018427387904):Two w (addW w s n) s n:=by
 have e1:=alloc_two w (.cells #[.int .u64 (n:Int),.int .i64 s,.pointer none] 132)
 have e2:=alloc_two (w.alloc (.cells #[.int .u64 (n:Int),.int .i64 s,.pointer none] 132)) (.cells #[.int .u64 0,.int .i64 0,.pointer none] 132)
 have e3:(w.alloc (.cells #[.int .u64 (n:Int),.int .i64 s,.pointer none] 132)).heap.size=w.heap.size+1:=Array.size_push _
 have hb:=((Below.refl w.heap.size w).alloc (Nat.le_refl _) (.cells #[.int .u64 (n:Int),.int .i64 s,.pointer none] 132)).alloc (by rw [e3];omega) (.cells #[.int .u64 0,.int .i64 0,.pointer none] 132)
 rw [e3] at e2
 exact ⟨⟨(e2.2 _ (by omega)).trans e1.1,hn,h1,h2⟩,e2.1,hb⟩
theorem Two.put0 {w W:World} {s:Int} {n N:Nat} (h:Two w W s n) (hN:N<1000000000):Two w (W.setCell ⟨w.heap.size,0,none⟩ (.int .u64 (N:Int))) s N:=
 ⟨⟨blk_set h.t.blk 0 _,hN,h.t.s1,h.t.s2⟩,(Below.heap_setCell _ _ _ _ (by show w.heap.size+1≠w.heap.size;omega)).trans h.r,h.b.setCell (Nat.le_refl _) _⟩
theorem Two.put1 {w W:World} {s S:Int} {n:Nat} (h:Two w W s n) (h1:-4611686018427387904≤S∧S≤4611686018427387904):Two w (W.setCell ⟨w.heap.size,1,none⟩ (.int .i64 S)) S n:=
 ⟨⟨blk_set h.t.blk 1 _,h.t.n9,h1.1,h1.2⟩,(Below.heap_setCell _ _ _ _ (by show w.heap.size+1≠w.heap.size;omega)).trans h.r,h.b.setCell (Nat.le_refl _) _⟩
theorem Two.facts {w W:World} {s:Int} {n:Nat} (h:Two w W s n):W.cell? ⟨w.heap.size,0,none⟩=some (.int .u64 (n:Int))∧W.cell? ⟨w.heap.size,1,none⟩=some (.int .i64 s)∧W.cell? ⟨w.heap.size,2,none⟩=some (.pointer none)∧
  W.cell? ⟨w.heap.size+1,0,none⟩=some (.int .u64 0)∧W.cell? ⟨w.heap.size+1,1,none⟩=some (.int .i64 0)∧W.cell? ⟨w.heap.size+1,2,none⟩=some (.pointer none)∧
  W.frozen? ⟨w.heap.size+1,0,none⟩=false∧W.frozen? ⟨w.heap.size+1,1,none⟩=false∧W.frozen? ⟨w.heap.size+1,2,none⟩=false:=
 ⟨blk_cell h.t.blk 0,blk_cell h.t.blk 1,blk_cell h.t.blk 2,blk_cell h.r 0,blk_cell h.r 1,blk_cell h.r 2,blk_frozen h.r 0,blk_frozen h.r 1,blk_frozen h.r 2⟩
theorem Two.putr {w W:World} {s:Int} {n:Nat} (h:Two w W s n) (a b c:Value):(((W.setCell ⟨w.heap.size+1,0,none⟩ a).setCell ⟨w.heap.size+1,1,none⟩ b).setCell ⟨w.heap.size+1,2,none⟩ c).heap[w.heap.size+1]?=some (.cells #[a,b,c] 132 (0,0))∧
  Below w.heap.size w (((W.setCell ⟨w.heap.size+1,0,none⟩ a).setCell ⟨w.heap.size+1,1,none⟩ b).setCell ⟨w.heap.size+1,2,none⟩ c):=
 ⟨blk_set (blk_set (blk_set h.r 0 a) 1 b) 2 c,((h.b.setCell (Nat.le_succ _) _).setCell (Nat.le_succ _) _).setCell (Nat.le_succ _) _⟩
set_option maxHeartbeats 4000000 in
theorem add_spec {w:World} {n:Nat} {s d:Int} (hn:n<1000000000) (h1:-400000000000≤s) (h2:s≤400000000000) (hd1:-9223372036854775808≤d) (hd2:d≤9223372036854775807) :
  Calls Tryz.prog 116 #[tmV s n,.int .i64 d] w (TmOk w (adS s n d) (adN n d)):=by
 have TW:=Lib.hid (Two.start w hn (s:=s) (by omega) (by omega))
 have hdd:=wdiv d
 obtain ⟨td,htd⟩:∃ x,d.tdiv 1000000000=x:=⟨_,rfl⟩
 obtain ⟨m,hm⟩:∃ x,d.tmod 1000000000=x:=⟨_,rfl⟩
 have hm1:m<1000000000:=by rw [←hm];exact Int.tmod_lt_of_pos d (by decide)
 have hm2:-1000000000<m:=by have:=Int.lt_tmod_of_pos d (b:=1000000000) (by decide);omega
 rw [htd,hm] at hdd
 have q1:wrap32 m=m:=by unfold wrap32;omega
 have q2:wrap32 ((n:Int)+m)=(n:Int)+m:=by unfold wrap32;omega
 have hS:adS s n d=s+td+((n:Int)+m)/1000000000:=by unfold adS;omega
 have hN:((adN n d:Nat):Int)=((n:Int)+m) % 1000000000:=by unfold adN;omega
 have hN9:adN n d<1000000000:=by omega
 obtain ⟨S,hSS⟩:∃ x,adS s n d=x:=⟨_,rfl⟩
 obtain ⟨N,hNN⟩:∃ x,adN n d=x:=⟨_,rfl⟩
 rw [hSS] at hS
 rw [hNN] at hN hN9
 rw [hSS,hNN]
 have a1:=andNot_ns n hn
 have a2:=or_ns N hN9
 have a3:IntKind.u64.wrap (N:Int)=(N:Int):=IntWalk.u64_in _ (by omega)
 have a4:=and_high N hN9
 have HB:=Lib.hid (show -4611686018427387904≤S∧S≤4611686018427387904 by omega)
 have HN9:=Lib.hid hN9
 have HNS:=Lib.hid (nsec_spec TW.out.t)
 have p1:wrap64 td=td:=by unfold wrap64;omega
 unfold tmV
 by_cases hA:1000000000≤(n:Int)+m
 ·obtain ⟨t2,ht2⟩:∃ x,td+1=x:=⟨_,rfl⟩
  have q4:wrap64 (td+1)=t2:=by unfold wrap64;omega
  obtain ⟨y,hy⟩:∃ x,(n:Int)+m=x:=⟨_,rfl⟩
  have q3:wrap32 (y-1000000000)=(N:Int):=by unfold wrap32;omega
  have c1:(1000000000≤y)=True:=eq_true (by omega)
  have c2:((N:Int)<0)=False:=eq_false (by omega)
  have HS:Hid (s+t2=S):=Lib.hid (by omega)
  replace q2:wrap32 ((n:Int)+m)=y:=by rw [q2];exact hy
  clear ht2 hy hA
  clear hdd hm1 hm2 hS hN hN9 hSS hNN hn h1 h2 hd1 hd2
  go_enter Tryz.func116,Tryz.ntmps116
  go_wp2_with fail
  refine HNS.out.mono ?_
  rintro ex W ⟨rfl,hw⟩
  have T1:=Lib.hid (show Two w W s n by rw [hw];exact TW.out)
  clear hw HNS TW
  have k0:W.cell? ⟨w.heap.size,0,none⟩=some (.int .u64 (n:Int)):=blk_cell T1.out.t.blk 0
  have f0:=blk_frozen T1.out.t.blk 0
  go_wp2_with fail
  have T2:=Lib.hid (T1.out.put0 HN9.out)
  have HAS:=Lib.hid (addSec_spec T2.out.t (d:=t2) (by rw [HS.out];exact HB.out.1) (by rw [HS.out];exact HB.out.2))
  rw [HS.out] at HAS
  refine HAS.out.mono ?_
  rintro ex W2 ⟨rfl,hw2⟩
  have T3:=Lib.hid (show Two w W2 S N by rw [hw2];exact T2.out.put1 HB.out)
  clear hw2 HAS T2 T1 k0 f0 HS W
  obtain ⟨k0,k1,k2,r0,r1,r2,g0,g1,g2⟩:=T3.out.facts
  go_wp2_with fail
  refine bodyPost_ret (res_c rfl _ _ (w.heap.size+1) 132 #[.int .u64 (N:Int),.int .i64 S,.pointer none] (0,0) rfl (T3.out.putr _ _ _).1 Tryz.underlying132 (by kernel_rfl)) rfl ?_
  exact ⟨rfl,(T3.out.putr _ _ _).2⟩
 ·by_cases hC:(n:Int)+m<0
  ·obtain ⟨t2,ht2⟩:∃ x,td-1=x:=⟨_,rfl⟩
   have q4:wrap64 (td-1)=t2:=by unfold wrap64;omega
   obtain ⟨y,hy⟩:∃ x,(n:Int)+m=x:=⟨_,rfl⟩
   have q3:wrap32 (y+1000000000)=(N:Int):=by unfold wrap32;omega
   have c1:(1000000000≤y)=False:=eq_false (by omega)
   have c2:(y<0)=True:=eq_true (by omega)
   have HS:Hid (s+t2=S):=Lib.hid (by omega)
   replace q2:wrap32 ((n:Int)+m)=y:=by rw [q2];exact hy
   clear ht2 hy hA hC
   clear hdd hm1 hm2 hS hN hN9 hSS hNN hn h1 h2 hd1 hd2
   go_enter Tryz.func116,Tryz.ntmps116
   go_wp2_with fail
   refine HNS.out.mono ?_
   rintro ex W ⟨rfl,hw⟩
   have T1:=Lib.hid (show Two w W s n by rw [hw];exact TW.out)
   clear hw HNS TW
   have k0:W.cell? ⟨w.heap.size,0,none⟩=some (.int .u64 (n:Int)):=blk_cell T1.out.t.blk 0
   have f0:=blk_frozen T1.out.t.blk 0
   go_wp2_with fail
   have T2:=Lib.hid (T1.out.put0 HN9.out)
   have HAS:=Lib.hid (addSec_spec T2.out.t (d:=t2) (by rw [HS.out];exact HB.out.1) (by rw [HS.out];exact HB.out.2))
   rw [HS.out] at HAS
   refine HAS.out.mono ?_
   rintro ex W2 ⟨rfl,hw2⟩
   have T3:=Lib.hid (show Two w W2 S N by rw [hw2];exact T2.out.put1 HB.out)
   clear hw2 HAS T2 T1 k0 f0 HS W
   obtain ⟨k0,k1,k2,r0,r1,r2,g0,g1,g2⟩:=T3.out.facts
   go_wp2_with fail
   refine bodyPost_ret (res_c rfl _ _ (w.heap.size+1) 132 #[.int .u64 (N:Int),.int .i64 S,.pointer none] (0,0) rfl (T3.out.putr _ _ _).1 Tryz.underlying132 (by kernel_rfl)) rfl ?_
   exact ⟨rfl,(T3.out.putr _ _ _).2⟩
  ·replace q2:wrap32 ((n:Int)+m)=(N:Int):=by rw [q2];omega
   have c1:(1000000000≤(N:Int))=False:=eq_false (by omega)
   have c2:((N:Int)<0)=False:=eq_false (by omega)
   have HS:Hid (s+td=S):=Lib.hid (by omega)
   clear hA hC
   clear hdd hm1 hm2 hS hN hN9 hSS hNN hn h1 h2 hd1 hd2
   go_enter Tryz.func116,Tryz.ntmps116
   go_wp2_with fail
   refine HNS.out.mono ?_
   rintro ex W ⟨rfl,hw⟩
   have T1:=Lib.hid (show Two w W s n by rw [hw];exact TW.out)
   clear hw HNS TW
   have k0:W.cell? ⟨w.heap.size,0,none⟩=some (.int .u64 (n:Int)):=blk_cell T1.out.t.blk 0
   have f0:=blk_frozen T1.out.t.blk 0
   go_wp2_with fail
   have T2:=Lib.hid (T1.out.put0 HN9.out)
   have HAS:=Lib.hid (addSec_spec T2.out.t (d:=td) (by rw [HS.out];exact HB.out.1) (by rw [HS.out];exact HB.out.2))
   rw [HS.out] at HAS
   refine HAS.out.mono ?_
   rintro ex W2 ⟨rfl,hw2⟩
   have T3:=Lib.hid (show Two w W2 S N by rw [hw2];exact T2.out.put1 HB.out)
   clear hw2 HAS T2 T1 k0 f0 HS W
   obtain ⟨k0,k1,k2,r0,r1,r2,g0,g1,g2⟩:=T3.out.facts
   go_wp2_with fail
   refine bodyPost_ret (res_c rfl _ _ (w.heap.size+1) 132 #[.int .u64 (N:Int),.int .i64 S,.pointer none] (0,0) rfl (T3.out.putr _ _ _).1 Tryz.underlying132 (by kernel_rfl)) rfl ?_
   exact ⟨rfl,(T3.out.putr _ _ _).2⟩
end Go.Proofs.YtkfggfjdplnkpaaGreatDoor
end
section
namespace Go.Proofs.YtkfggfjdplnkpaaGreatDoor
open Go Go.RowKit
structure Zz (w W:World) (s:Int) (n:Nat):Prop where
 r:W.heap[w.heap.size]?=some (.cells #[.int .u64 0,.int .i64 0,.pointer none] 132 (0,0))
 t:TmB W (w.heap.size+1) s n
 b:Below w.heap.size w W
theorem Zz.start (w:World):Zz w (addW w 0 0) 0 0:=by
 have e1:=alloc_two w (.cells #[.int .u64 ((0:Nat):Int),.int .i64 0,.pointer none] 132)
 have e2:=alloc_two (w.alloc (.cells #[.int .u64 ((0:Nat):Int),.int .i64 0,.pointer none] 132)) (.cells #[.int .u64 0,.int .i64 0,.pointer none] 132)
 have e3:(w.alloc (.cells #[.int .u64 ((0:Nat):Int),.int .i64 0,.pointer none] 132)).heap.size=w.heap.size+1:=Array.size_push _
 have hb:=((Below.refl w.heap.size w).alloc (Nat.le_refl _) (.cells #[.int .u64 ((0:Nat):Int),.int .i64 0,.pointer none] 132)).alloc (by rw [e3];omega) (.cells #[.int .u64 0,.int .i64 0,.pointer none] 132)
 rw [e3] at e2
 exact ⟨(e2.2 _ (by omega)).trans e1.1,⟨e2.1,by omega,by omega,by omega⟩,hb⟩
theorem Zz.facts {w W:World} {s:Int} {n:Nat} (h:Zz w W s n):W.cell? ⟨w.heap.size,0,none⟩=some (.int .u64 0)∧W.cell? ⟨w.heap.size,1,none⟩=some (.int .i64 0)∧W.cell? ⟨w.heap.size,2,none⟩=some (.pointer none)∧
  W.cell? ⟨w.heap.size+1,0,none⟩=some (.int .u64 (n:Int))∧W.cell? ⟨w.heap.size+1,1,none⟩=some (.int .i64 s)∧W.cell? ⟨w.heap.size+1,2,none⟩=some (.pointer none)∧
  W.frozen? ⟨w.heap.size,0,none⟩=false∧W.frozen? ⟨w.heap.size,1,none⟩=false∧W.frozen? ⟨w.heap.size,2,none⟩=false∧
  W.frozen? ⟨w.heap.size+1,0,none⟩=false∧W.frozen? ⟨w.heap.size+1,1,none⟩=false∧W.frozen? ⟨w.heap.size+1,2,none⟩=false:=
 ⟨blk_cell h.r 0,blk_cell h.r 1,blk_cell h.r 2,blk_cell h.t.blk 0,blk_cell h.t.blk 1,blk_cell h.t.blk 2,blk_frozen h.r 0,blk_frozen h.r 1,blk_frozen h.r 2,blk_frozen h.t.blk 0,blk_frozen h.t.blk 1,blk_frozen h.t.blk 2⟩
theorem Zz.below {w W W2:World} {s:Int} {n:Nat} (h:Zz w W s n) (hb:Below W.heap.size W W2):Zz w W2 s n:=
 ⟨(hb.block _ (blk_lt h.r)).trans h.r,⟨(hb.block _ (blk_lt h.t.blk)).trans h.t.blk,h.t.n9,h.t.s1,h.t.s2⟩,h.b.trans (hb.mono (by have:=h.b.size;omega))⟩
theorem Zz.putt {w W:World} {s S:Int} {n N:Nat} (h:Zz w W s n) (hN:N<1000000000) (h1:-4611686018427387904≤S) (h2:S≤4611686018427387904) :
  Zz w (((W.setCell ⟨w.heap.size+1,0,none⟩ (.int .u64 (N:Int))).setCell ⟨w.heap.size+1,1,none⟩ (.int .i64 S)).setCell ⟨w.heap.size+1,2,none⟩ (.pointer none)) S N:=
 ⟨(put_other _ _ _ (by omega)).trans h.r,⟨blk_set (blk_set (blk_set h.t.blk 0 _) 1 _) 2 _,hN,h1,h2⟩,((h.b.setCell (Nat.le_succ _) _).setCell (Nat.le_succ _) _).setCell (Nat.le_succ _) _⟩
theorem Zz.putr {w W:World} {s:Int} {n:Nat} (h:Zz w W s n) (a b c:Value):(((W.setCell ⟨w.heap.size,0,none⟩ a).setCell ⟨w.heap.size,1,none⟩ b).setCell ⟨w.heap.size,2,none⟩ c).heap[w.heap.size]?=some (.cells #[a,b,c] 132 (0,0))∧
  Below w.heap.size w (((W.setCell ⟨w.heap.size,0,none⟩ a).setCell ⟨w.heap.size,1,none⟩ b).setCell ⟨w.heap.size,2,none⟩ c):=
 ⟨blk_set (blk_set (blk_set h.r 0 a) 1 b) 2 c,((h.b.setCell (Nat.le_refl _) _).setCell (Nat.le_refl _) _).setCell (Nat.le_refl _) _⟩
def unS (ns:Int):Int:=62135596800+ns/1000000000
def unN (ns:Int):Nat:=(ns % 1000000000).toNat
set_option maxHeartbeats 4000000 in
theorem unix_spec {w:World} {ns:Int} (hd1:-9223372036854775808≤ns) (hd2:ns≤9223372036854775807) :
  Calls Tryz.prog 73 #[.int .i64 ns] w (TmOk w (unS ns) (unN ns)):=by
 have ZS:=Lib.hid (Zz.start w)
 have HD:=Lib.hid (And.intro hd1 hd2)
 have HU:=Lib.hid (show unN ns<1000000000∧∀ s:Int,s=62135596800→adS s 0 ns=unS ns∧adN 0 ns=unN ns from ⟨by unfold unN;omega,fun s hs=>⟨by unfold adS unS;omega,by unfold adN unN;congr 1;omega⟩⟩)
 clear hd1 hd2
 obtain ⟨S,hS⟩:∃ x,unS ns=x:=⟨_,rfl⟩
 obtain ⟨N,hN⟩:∃ x,unN ns=x:=⟨_,rfl⟩
 rw [hS,hN] at HU
 rw [hS,hN]
 clear hS hN
 go_enter Tryz.func73,Tryz.ntmps73
 go_wp2_with fail
 go_loopg [4] 8 (fun mq v4 wr=>∃ (i:Nat) (x:Int),v4=.int .i64 x∧x=(i:Int)∧i+mq=8∧Zz w wr ((i:Int)*7766949600) 0)
 case atStart=>exact ⟨0,0,rfl,rfl,by omega,ZS.out⟩
 case round=>
  obtain ⟨i,x,rfl,hx,hm,hz⟩:=hrel
  by_cases hi:i<8
  ·cases gk with
   | zero=>omega
   | succ m=>
    have p1:(x<8)=True:=eq_true (by omega)
    have WX:IntKind.i64.wrap (x+1)=x+1:=IntWalk.i64_in _ (by omega)
    obtain ⟨s,hs⟩:∃ s,(i:Int)*7766949600=s:=⟨_,rfl⟩
    have HAD:=Lib.hid (add_spec (w:=wr) (n:=0) (s:=s) (d:=7766949600000000000) (by omega) (by omega) (by omega) (by omega) (by omega))
    rw [show adS s 0 7766949600000000000=s+7766949600 by unfold adS;omega,show adN 0 7766949600000000000=0 from rfl] at HAD
    unfold tmV at HAD
    rw [hs] at hz
    have HH:=Lib.hid (And.intro hm (And.intro hx hs))
    have Z1:=Lib.hid hz
    have HS2:=Lib.hid (show -4611686018427387904≤s+7766949600∧s+7766949600≤4611686018427387904 by omega)
    clear hm hx hs hi hz
    obtain ⟨r0,r1,r2,k0,k1,k2,f0,f1,f2,g0,g1,g2⟩:=Z1.out.facts
    go_wp2_with fail
    refine HAD.out.mono ?_
    clear HAD
    rintro ex w2 ⟨he,hb⟩
    unfold tmV at he
    subst he
    have Z2:=Lib.hid (Z1.out.below hb)
    clear hb Z1 r0 r1 r2 k0 k1 k2 f0 f1 f2 g0 g1 g2
    obtain ⟨r0,r1,r2,k0,k1,k2,f0,f1,f2,g0,g1,g2⟩:=Z2.out.facts
    go_wp2_with fail
    go_roundg m
    case measure=>omega
    case rel=>
     obtain ⟨hm,hx,hs⟩:=HH.out
     refine ⟨i+1,x+1,rfl,by omega,by omega,?_⟩
     rw [show ((i+1:Nat):Int)*7766949600=s+7766949600 by omega]
     exact Z2.out.putt (N:=0) (by decide) HS2.out.1 HS2.out.2
  ·have hi8:i=8:=by omega
   have p1:(x<8)=False:=eq_false (by omega)
   obtain ⟨s,hs⟩:∃ s,(i:Int)*7766949600=s:=⟨_,rfl⟩
   rw [hs] at hz
   have hs2:s=62135596800:=by omega
   obtain ⟨hu1,hu2⟩:=HU.out
   have HAD:=Lib.hid (add_spec (w:=wr) (n:=0) (s:=s) (d:=ns) (by omega) (by omega) (by omega) HD.out.1 HD.out.2)
   rw [(hu2 s hs2).1,(hu2 s hs2).2] at HAD
   unfold tmV at HAD
   have Z1:=Lib.hid hz
   clear hm hx hi hz hi8 hs hs2 hu1 hu2
   obtain ⟨r0,r1,r2,k0,k1,k2,f0,f1,f2,g0,g1,g2⟩:=Z1.out.facts
   go_wp2_with fail
   refine HAD.out.mono ?_
   clear HAD
   rintro ex w2 ⟨he,hb⟩
   unfold tmV at he
   subst he
   have Z2:=Lib.hid (Z1.out.below hb)
   clear hb Z1 r0 r1 r2 k0 k1 k2 f0 f1 f2 g0 g1 g2
   obtain ⟨r0,r1,r2,k0,k1,k2,f0,f1,f2,g0,g1,g2⟩:=Z2.out.facts
   go_wp2_with fail
   refine bodyPost_ret (res_c rfl _ _ w.heap.size 132 #[.int .u64 (N:Int),.int .i64 S,.pointer none] (0,0) rfl (Z2.out.putr _ _ _).1 Tryz.underlying132 (by kernel_rfl)) rfl ?_
   exact ⟨rfl,(Z2.out.putr _ _ _).2⟩
theorem dur_spec {w:World} (k:Nat) (hk:k≤3):Calls Tryz.prog 114 #[.int .u8 (k:Int)] w fun e w'=>e=.returned (.int .i64 ((10 ^ (3*k):Nat):Int))∧w'=w:=by
 match k,hk with
 | 0,_=>
  go_enter Tryz.func114,Tryz.ntmps114
  go_wp2_with fail
  go_ret
  exact ⟨rfl,rfl⟩
 | 1,_=>
  go_enter Tryz.func114,Tryz.ntmps114
  go_wp2_with fail
  go_ret
  exact ⟨rfl,rfl⟩
 | 2,_=>
  go_enter Tryz.func114,Tryz.ntmps114
  go_wp2_with fail
  go_ret
  exact ⟨rfl,rfl⟩
 | 3,_=>
  go_enter Tryz.func114,Tryz.ntmps114
  go_wp2_with fail
  go_ret
  exact ⟨rfl,rfl⟩
end Go.Proofs.YtkfggfjdplnkpaaGreatDoor
end
section
namespace Go.Proofs.YtkfggfjdplnkpaaGreatDoor
open Go Go.RowKit
def tkN9 (k:Nat):Nat:=10 ^ (3*k)
def asN (k:Nat) (x:Int):Int × Bool:=if k=0 then (x,true) else if (wrap64 (x*(tkN9 k:Int))).tdiv (tkN9 k:Int)=x then (wrap64 (x*(tkN9 k:Int)),true) else (0,false)
theorem tk9 {k u:Nat} (hk:k≤3) (h0:k≠0) (hu:10 ^ (3*k)=u):u=1000∨u=1000000∨u=1000000000:=by
 match k,hk with
 | 0,_=>exact absurd rfl h0
 | 1,_=>exact .inl hu.symm
 | 2,_=>exact .inr (.inl hu.symm)
 | 3,_=>exact .inr (.inr hu.symm)
theorem quo_in {u:Nat} {y z:Int} (hu:u=1000∨u=1000000∨u=1000000000) (hz:y.tdiv (u:Int)=z) (h1:-9223372036854775808≤y) (h2:y≤9223372036854775807):-9223372036854776≤z∧z≤9223372036854776:=by
 have h3:=Int.tdiv_mul_add_tmod y (u:Int)
 have hp:(0:Int)<(u:Int):=by omega
 have h4:=Int.tmod_lt_of_pos y hp
 have h5:=Int.lt_tmod_of_pos y hp
 rw [hz] at h3
 rcases hu with rfl | rfl | rfl <;> omega
set_option maxHeartbeats 2000000 in
theorem asNano_spec {w:World} (k:Nat) (hk:k≤3) (x:Int) (h1:-9223372036854775808≤x) (h2:x≤9223372036854775807) :
  Calls Tryz.prog 115 #[.int .u8 (k:Int),.int .i64 x] w fun e w'=>e=.returned (.tuple #[.int .i64 (asN k x).1,.bool (asN k x).2])∧w'=w:=by
 by_cases h0:k=0
 ·subst h0
  go_enter Tryz.func115,Tryz.ntmps115
  go_wp2_with fail
  go_ret2
  exact ⟨rfl,rfl⟩
 ·have HDU:=Lib.hid (dur_spec (w:=w) k hk)
  obtain ⟨u,hu⟩:∃ u,tkN9 k=u:=⟨_,rfl⟩
  have hu2:10 ^ (3*k)=u:=hu
  rw [hu2] at HDU
  have hut:=tk9 hk h0 hu2
  obtain ⟨R,hR⟩:∃ R,asN k x=R:=⟨_,rfl⟩
  rw [hR]
  unfold asN at hR
  rw [if_neg h0,hu] at hR
  obtain ⟨y,hy⟩:∃ y,wrap64 (x*(u:Int))=y:=⟨_,rfl⟩
  have hyb:-9223372036854775808≤y∧y≤9223372036854775807:=by rw [←hy];unfold wrap64;omega
  obtain ⟨z,hz⟩:∃ z,y.tdiv (u:Int)=z:=⟨_,rfl⟩
  rw [hy,hz] at hR
  have hzb:=quo_in hut hz hyb.1 hyb.2
  have WZ:wrap64 z=z:=by unfold wrap64;omega
  have k0:((k:Int)=0)=False:=eq_false (by omega)
  have k1:(k=0)=False:=eq_false h0
  have k2:((k:Int)==0)=false:=beq_eq_false_iff_ne.2 (by omega)
  have u0:((u:Int)=0)=False:=eq_false (by omega)
  have u1:(u=0)=False:=eq_false (by omega)
  have u2:((u:Int)==0)=false:=beq_eq_false_iff_ne.2 (by omega)
  by_cases hc:z=x
  ·rw [if_pos hc] at hR
   subst hR
   subst hc
   clear hut hyb hzb h1 h2 h0 hu hu2
   go_enter Tryz.func115,Tryz.ntmps115
   go_wp2_with fail
   refine HDU.out.mono ?_
   rintro ex w2 ⟨rfl,rfl⟩
   go_wp2_with fail
   rw [hy]
   go_ret2
   exact ⟨rfl,rfl⟩
  ·rw [if_neg hc] at hR
   subst hR
   have c1:(z=x)=False:=eq_false hc
   have c2:(z==x)=false:=beq_eq_false_iff_ne.2 hc
   clear hut hyb hzb h1 h2 h0 hu hu2 hc
   go_enter Tryz.func115,Tryz.ntmps115
   go_wp2_with fail
   refine HDU.out.mono ?_
   rintro ex w2 ⟨rfl,rfl⟩
   go_wp2_with fail
   go_ret2
   exact ⟨rfl,rfl⟩
theorem Two.below {w W W2:World} {s:Int} {n:Nat} (h:Two w W s n) (hb:Below W.heap.size W W2):Two w W2 s n:=
 ⟨⟨(hb.block _ (blk_lt h.t.blk)).trans h.t.blk,h.t.n9,h.t.s1,h.t.s2⟩,(hb.block _ (blk_lt h.r)).trans h.r,h.b.trans (hb.mono (by have:=h.b.size;omega))⟩
def DivPost (w:World) (r:Nat) (e:Ending) (w':World):Prop:=∃ q:Int,e=.returned (.tuple #[.int .i64 q,.int .i64 (r:Int)])∧Below w.heap.size w w'
theorem DivPost.mk {w w':World} {r:Nat} {q r':Int} {e:Ending} (h1:e=.returned (.tuple #[.int .i64 q,.int .i64 r'])) (h2:r'=(r:Int)) (h3:Below w.heap.size w w'):DivPost w r e w':=⟨q,by rw [h1,h2],h3⟩
set_option maxHeartbeats 4000000 in
theorem div_0 {w:World} {n:Nat} {s:Int} (hn:n<1000000000) (h1:0≤s) (h2:s≤400000000000) :
  Calls Tryz.prog 141 #[tmV s n,.int .i64 1] w (DivPost w (0)):=by
 have hb:=(Below.refl w.heap.size w).alloc (Nat.le_refl _) (.cells #[.int .u64 (n:Int),.int .i64 s,.pointer none] 132)
 have TB:=TmB.alloc w hn (s:=s) (by omega) (by omega)
 have HB:=Lib.hid hb
 have HNS:=Lib.hid (nsec_spec TB)
 have HSE:=Lib.hid (sec_spec TB)
 have p1:(s<0)=False:=eq_false (by omega)
 have p2:wrap64 s=s:=by unfold wrap64;omega
 have p3:wrap64 (n:Int)=n:=by unfold wrap64;omega
 clear hb TB h1 h2
 unfold tmV
 go_enter Tryz.func141,Tryz.ntmps141
 go_wp2_with fail
 refine HNS.out.mono ?_
 rintro ex w2 ⟨rfl,rfl⟩
 go_wp2_with fail
 refine HSE.out.mono ?_
 rintro ex w2 ⟨rfl,rfl⟩
 clear HNS HSE
 go_wp2_with fail
 go_ret2
 refine DivPost.mk rfl ?_ HB.out
 first | rfl | omega | (simp;done)
set_option maxHeartbeats 4000000 in
theorem div_1 {w:World} {n:Nat} {s:Int} (hn:n<1000000000) (h1:0≤s) (h2:s≤400000000000) :
  Calls Tryz.prog 141 #[tmV s n,.int .i64 1000] w (DivPost w (n % 1000)):=by
 have hb:=(Below.refl w.heap.size w).alloc (Nat.le_refl _) (.cells #[.int .u64 (n:Int),.int .i64 s,.pointer none] 132)
 have TB:=TmB.alloc w hn (s:=s) (by omega) (by omega)
 have HB:=Lib.hid hb
 have HNS:=Lib.hid (nsec_spec TB)
 have HSE:=Lib.hid (sec_spec TB)
 have p1:(s<0)=False:=eq_false (by omega)
 have p2:wrap64 s=s:=by unfold wrap64;omega
 have p3:wrap64 (n:Int)=n:=by unfold wrap64;omega
 clear hb TB h1 h2
 unfold tmV
 go_enter Tryz.func141,Tryz.ntmps141
 go_wp2_with fail
 refine HNS.out.mono ?_
 rintro ex w2 ⟨rfl,rfl⟩
 go_wp2_with fail
 refine HSE.out.mono ?_
 rintro ex w2 ⟨rfl,rfl⟩
 clear HNS HSE
 go_wp2_with fail
 go_ret2
 refine DivPost.mk rfl ?_ HB.out
 first | rfl | omega | (simp;done)
set_option maxHeartbeats 4000000 in
theorem div_2 {w:World} {n:Nat} {s:Int} (hn:n<1000000000) (h1:0≤s) (h2:s≤400000000000) :
  Calls Tryz.prog 141 #[tmV s n,.int .i64 1000000] w (DivPost w (n % 1000000)):=by
 have hb:=(Below.refl w.heap.size w).alloc (Nat.le_refl _) (.cells #[.int .u64 (n:Int),.int .i64 s,.pointer none] 132)
 have TB:=TmB.alloc w hn (s:=s) (by omega) (by omega)
 have HB:=Lib.hid hb
 have HNS:=Lib.hid (nsec_spec TB)
 have HSE:=Lib.hid (sec_spec TB)
 have p1:(s<0)=False:=eq_false (by omega)
 have p2:wrap64 s=s:=by unfold wrap64;omega
 have p3:wrap64 (n:Int)=n:=by unfold wrap64;omega
 clear hb TB h1 h2
 unfold tmV
 go_enter Tryz.func141,Tryz.ntmps141
 go_wp2_with fail
 refine HNS.out.mono ?_
 rintro ex w2 ⟨rfl,rfl⟩
 go_wp2_with fail
 refine HSE.out.mono ?_
 rintro ex w2 ⟨rfl,rfl⟩
 clear HNS HSE
 go_wp2_with fail
 go_ret2
 refine DivPost.mk rfl ?_ HB.out
 first | rfl | omega | (simp;done)
set_option maxHeartbeats 4000000 in
theorem div_3 {w:World} {n:Nat} {s:Int} (hn:n<1000000000) (h1:0≤s) (h2:s≤400000000000) :
  Calls Tryz.prog 141 #[tmV s n,.int .i64 1000000000] w (DivPost w (n)):=by
 have hb:=(Below.refl w.heap.size w).alloc (Nat.le_refl _) (.cells #[.int .u64 (n:Int),.int .i64 s,.pointer none] 132)
 have TB:=TmB.alloc w hn (s:=s) (by omega) (by omega)
 have HB:=Lib.hid hb
 have HNS:=Lib.hid (nsec_spec TB)
 have HSE:=Lib.hid (sec_spec TB)
 have p1:(s<0)=False:=eq_false (by omega)
 have p2:wrap64 s=s:=by unfold wrap64;omega
 have p3:wrap64 (n:Int)=n:=by unfold wrap64;omega
 clear hb TB h1 h2
 unfold tmV
 go_enter Tryz.func141,Tryz.ntmps141
 go_wp2_with fail
 refine HNS.out.mono ?_
 rintro ex w2 ⟨rfl,rfl⟩
 go_wp2_with fail
 refine HSE.out.mono ?_
 rintro ex w2 ⟨rfl,rfl⟩
 clear HNS HSE
 go_wp2_with fail
 go_ret2
 refine DivPost.mk rfl ?_ HB.out
 first | rfl | omega | (simp;done)
theorem div_spec {w:World} {n:Nat} {s:Int} (k:Nat) (hk:k≤3) (hn:n<1000000000) (h1:0≤s) (h2:s≤400000000000) :
  Calls Tryz.prog 141 #[tmV s n,.int .i64 ((tkN9 k:Nat):Int)] w (DivPost w (n % tkN9 k)):=by
 match k,hk with
 | 0,_=>
  have e:n % tkN9 0=0:=Nat.mod_one n
  rw [e]
  exact div_0 hn h1 h2
 | 1,_=>exact div_1 hn h1 h2
 | 2,_=>exact div_2 hn h1 h2
 | 3,_=>
  have e:n % tkN9 3=n:=Nat.mod_eq_of_lt hn
  rw [e]
  exact div_3 hn h1 h2
set_option maxHeartbeats 4000000 in
theorem trunc_spec {w:World} {n:Nat} {s:Int} (k:Nat) (hk:k≤3) (hn:n<1000000000) (h1:0≤s) (h2:s≤400000000000) :
  Calls Tryz.prog 113 #[tmV s n,.int .i64 ((tkN9 k:Nat):Int)] w (TmOk w s (n-n % tkN9 k)):=by
 have TW:=Lib.hid (Two.start w hn (s:=s) (by omega) (by omega))
 have HST:=Lib.hid (strip_spec TW.out.t)
 have HDV:=Lib.hid (div_spec (w:=addW w s n) k hk hn h1 h2)
 have hle:=Nat.mod_le n (tkN9 k)
 obtain ⟨u,hu⟩:∃ u,tkN9 k=u:=⟨_,rfl⟩
 have hu1:1≤u:=by rw [←hu];exact Nat.pow_pos (by omega)
 have hu9:u≤1000000000:=by
  rw [←hu]
  exact Nat.pow_le_pow_right (n:=10) (by omega) (show 3*k≤9 by omega)
 rw [hu] at HDV hle
 rw [hu]
 obtain ⟨r,hr⟩:∃ r,n % u=r:=⟨_,rfl⟩
 rw [hr] at HDV hle
 rw [hr]
 have c0:((u:Int)≤0)=False:=eq_false (by omega)
 have c1:(u=0)=False:=eq_false (by omega)
 have c2:(u≤0)=False:=eq_false (by omega)
 have W1:wrap64 (-(r:Int))=-(r:Int):=by unfold wrap64;omega
 have HAD:=Lib.hid (fun W=>add_spec (w:=W) (n:=n) (s:=s) (d:=-(r:Int)) hn (by omega) h2 (by omega) (by omega))
 have e1:adS s n (-(r:Int))=s:=by unfold adS;omega
 have e2:adN n (-(r:Int))=n-r:=by unfold adN;omega
 rw [e1,e2] at HAD
 unfold tmV at HAD HDV
 unfold tmV
 clear e1 e2 hle hu hu1 hu9 hr h1 h2 hn
 go_enter Tryz.func113,Tryz.ntmps113
 go_wp2_with fail
 refine HST.out.mono ?_
 rintro ex W ⟨rfl,hw⟩
 have T1:=Lib.hid (show Two w W s n by rw [hw];exact TW.out)
 rw [←hw] at HDV
 clear hw HST TW
 obtain ⟨k0,k1,k2,r0,r1,r2,g0,g1,g2⟩:=T1.out.facts
 go_wp2_with fail
 refine HDV.out.mono ?_
 rintro ex W2 ⟨qq,rfl,hb⟩
 have T2:=Lib.hid (T1.out.below hb)
 clear HDV T1 hb k0 k1 k2 r0 r1 r2 g0 g1 g2
 obtain ⟨k0,k1,k2,r0,r1,r2,g0,g1,g2⟩:=T2.out.facts
 go_wp2_with fail
 refine (HAD.out _).mono ?_
 rintro ex W3 ⟨he,hb⟩
 unfold tmV at he
 subst he
 have T3:=Lib.hid (T2.out.below hb)
 clear HAD T2 hb k0 k1 k2 r0 r1 r2 g0 g1 g2
 obtain ⟨k0,k1,k2,r0,r1,r2,g0,g1,g2⟩:=T3.out.facts
 go_wp2_with fail
 refine bodyPost_ret (res_c rfl _ _ (w.heap.size+1) 132 #[.int .u64 ((n-r:Nat):Int),.int .i64 s,.pointer none] (0,0) rfl (T3.out.putr _ _ _).1 Tryz.underlying132 (by kernel_rfl)) rfl ?_
 exact ⟨rfl,(T3.out.putr _ _ _).2⟩
theorem unixNano_spec {w:World} {n:Nat} {s:Int} (hn:n<1000000000) (h1:0≤s) (h2:s≤400000000000) :
  Calls Tryz.prog 74 #[tmV s n] w fun e w'=>e=.returned (.int .i64 (wrap64 (wrap64 ((s+-62135596800)*1000000000)+(n:Int))))∧Below w.heap.size w w':=by
 have hb:=(Below.refl w.heap.size w).alloc (Nat.le_refl _) (.cells #[.int .u64 (n:Int),.int .i64 s,.pointer none] 132)
 have TB:=TmB.alloc w hn (s:=s) (by omega) (by omega)
 have HB:=Lib.hid hb
 have HUS:=Lib.hid (unixSec_spec TB)
 have HNS:=Lib.hid (nsec_spec TB)
 clear hb TB h1 h2
 unfold tmV
 go_enter Tryz.func74,Tryz.ntmps74
 go_wp2_with fail
 refine HUS.out.mono ?_
 rintro ex w2 ⟨rfl,rfl⟩
 go_wp2_with fail
 refine HNS.out.mono ?_
 rintro ex w2 ⟨rfl,rfl⟩
 go_wp2_with fail
 go_ret
 exact ⟨rfl,HB.out⟩
end Go.Proofs.YtkfggfjdplnkpaaGreatDoor
end
