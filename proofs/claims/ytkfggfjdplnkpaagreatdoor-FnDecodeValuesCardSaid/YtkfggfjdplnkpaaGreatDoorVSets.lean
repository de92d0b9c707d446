/- A part of the proof that the law FnDecodeValues returns true; its conditions are those of the last part. -/
import Derived.Test.YtkfggfjdplnkpaaGreatDoorProg
import Derived.WalkKit
import Derived.WalkSpells
import Derived.WalkLawsBesides
import Derived.Deep.QuietTactic
import Derived.BigQuiet
import Derived.Outline
import Derived.Laws.Tables
import Derived.Laws.Rows
import Derived.Deep.LoopGhost
import Derived.StillTailTactics
import Derived.Lib.Hide
import Derived.Deep.CutRange
set_option maxRecDepth 100000
set_option linter.unusedVariables false
set_option linter.unusedSimpArgs false
section
namespace Go.Proofs.YtkfggfjdplnkpaaGreatDoor
open Go.RowKit
def SetAt (w:World) (a:Nat) (p:Nat→Bool):Prop:=
 ∃ cs:Array Value,w.heap[a]?=some (.cells cs 197 (0,0))∧cs.size=256∧∀ i,i<256→cs[i]?=some (.bool (p i))
theorem SetAt.cell {w:World} {a:Nat} {p:Nat→Bool} (h:SetAt w a p) (i:Nat) (hi:i<256):w.cell? ⟨a,i,none⟩=some (.bool (p i)):=by
 obtain ⟨cs,h1,h2,h3⟩:=h
 rw [cell_of_row w a i cs 197 (0,0) h1];exact h3 i hi
theorem SetAt.frozen {w:World} {a:Nat} {p:Nat→Bool} (h:SetAt w a p) (i:Nat):w.frozen? ⟨a,i,none⟩=false:=by
 obtain ⟨cs,h1,_,_⟩:=h
 exact frozen_of_row w a i cs 197 h1
theorem SetAt.of_block {w w':World} {a:Nat} {p:Nat→Bool} (h:SetAt w a p) (hb:w'.heap[a]?=w.heap[a]?):SetAt w' a p:=by
 obtain ⟨cs,h1,h2,h3⟩:=h
 exact ⟨cs,hb.trans h1,h2,h3⟩
theorem SetAt.lt {w:World} {a:Nat} {p:Nat→Bool} (h:SetAt w a p):a<w.heap.size:=by
 obtain ⟨cs,h1,_,_⟩:=h
 exact (Array.getElem?_eq_some_iff.1 h1).1
theorem SetAt.below {w w':World} {B a:Nat} {p:Nat→Bool} (h:SetAt w a p) (hb:Below B w w') (ha:a<B):SetAt w' a p:=h.of_block (hb.block a ha)
theorem SetAt.set {w:World} {a:Nat} {p:Nat→Bool} (h:SetAt w a p) (i:Nat) (b:Bool):SetAt (w.setCell ⟨a,i,none⟩ (.bool b)) a (fun j=>if j=i then b else p j):=by
 obtain ⟨cs,h1,h2,h3⟩:=h
 refine ⟨_,heap_setCell_same w a i cs 197 _ h1,by simpa using h2,fun j hj=>?_⟩
 rw [Array.getElem?_setIfInBounds]
 by_cases hji:j=i
 ·subst hji;rw [if_pos rfl,if_pos (by omega)];simp
 ·rw [if_neg (Ne.symm hji),h3 j hj];simp [hji]
theorem SetAt.congr {w:World} {a:Nat} {p q:Nat→Bool} (h:SetAt w a p) (hpq:∀ i,i<256→p i=q i):SetAt w a q:=by
 obtain ⟨cs,h1,h2,h3⟩:=h
 exact ⟨cs,h1,h2,fun i hi=>by rw [h3 i hi,hpq i hi]⟩
theorem SetAt.fresh (w:World):SetAt (w.alloc (.cells Tryz.zeroCells197 197)) w.heap.size (fun _=>false):=by
 refine ⟨Tryz.zeroCells197,heap_alloc_new _ _,by kernel_rfl,fun i hi=>?_⟩
 have:Tryz.zeroCells197=Array.replicate 256 (.bool false):=by kernel_rfl
 rw [this];simp [hi]
theorem set_get (a:Nat) (p:Nat→Bool) (c:Int) (h0:0≤c) (h1:c<256) (w:World) (h:SetAt w a p) :
  Calls Tryz.prog 54 #[.pointer (some ⟨a,0,none⟩),.int .u8 c] w fun e w'=>e=.returned (.bool (p c.toNat))∧w=w':=by
 have hc:=h.cell c.toNat (by omega)
 clear h
 go_enter Tryz.func54,Tryz.ntmps54
 go_wp2
 go_ret
 exact ⟨rfl,rfl⟩
theorem set_set (a:Nat) (p:Nat→Bool) (c:Int) (h0:0≤c) (h1:c<256) (w:World) (h:SetAt w a p) :
  Calls Tryz.prog 135 #[.pointer (some ⟨a,0,none⟩),.int .u8 c] w fun e w'=>e=.returned (.tuple #[])∧w'=w.setCell ⟨a,c.toNat,none⟩ (.bool true):=by
 have hc:=h.cell c.toNat (by omega)
 have hf:=h.frozen c.toNat
 clear h
 go_enter Tryz.func135,Tryz.ntmps135
 go_wp2
 go_end0
 exact ⟨rfl,rfl⟩
def inS (s:List UInt8) (i:Nat):Bool:=s.any fun b=>b.toNat==i
theorem take_sn (s:ByteArray) (k:Nat) (h:k<s.size):s.data.toList.take (k+1)=s.data.toList.take k++[s[k]]:=by
 rw [List.take_succ_eq_append_getElem (by simpa using h)];rfl
set_option maxHeartbeats 400000 in
theorem set_new (s:ByteArray) (hs:s.size≤maxLen) (w:World) :
  Calls Tryz.prog 105 #[.string s] w fun e w'=>∃ a,e=.returned (.pointer (some ⟨a,0,none⟩))∧SetAt w' a (inS s.data.toList)∧Below w.heap.size w w':=by
 unfold maxLen at hs
 have hfr:=SetAt.fresh w
 go_enter Tryz.func105,Tryz.ntmps105
 go_wp2_with fail
 go_loopw [4] (fun i wr=>∃ k:Nat,k≤s.size∧i=.int .i64 k∧SetAt wr w.heap.size (inS (s.data.toList.take k))∧Below w.heap.size w wr) (fun i _=>s.size-(intOf i).toNat)
 case atStart=>exact ⟨0,Nat.zero_le _,rfl,hfr.congr (fun _ _=>by simp [inS]),(Below.refl _ _).alloc (Nat.le_refl _) _⟩
 case round=>
  obtain ⟨k,hk,rfl,hset,hbel⟩:=hrel
  clear hfr
  by_cases hlt:k<s.size
  ·have hb:(s[k].toNat:Int)<256:=by have:=s[k].toNat_lt;omega
   have hset':=hset
   go_wp2_with fail
   refine (set_set _ (inS (s.data.toList.take k)) _ (by omega) hb _ (by assumption)).mono ?_
   rintro e w' ⟨rfl,rfl⟩
   go_wp2_with fail
   go_roundw
   case rel=>exact ⟨k+1,by omega,by go_num,(hset.set _ true).congr (fun i hi=>by rw [take_sn s k hlt]; simp [inS]; by_cases h:i=s[k].toNat <;> simp [h]; omega),hbel.setCell (Nat.le_refl _) _⟩
   case measure=>simp [intOf];omega
  ·go_wp2_with fail
   go_ret
   exact ⟨_,rfl,hset.congr (fun _ _=>by rw [List.take_of_length_le (by simp;omega)]),hbel⟩
theorem below_setRow {B:Nat} {a w:World} (h:Below B a w) {g:Nat} (hp:B≤g) (cs:Array Value):Below B a (w.setRow g cs):=
 h.trans ⟨rfl,rfl,rfl,by simp [World.setRow],fun k hk=>by simp only [World.setRow,Array.getElem?_modify];rw [if_neg (by omega)]⟩
theorem SetAt.copied {w:World} {a g:Nat} {p:Nat→Bool} {cs:Array Value} (h:w.heap[a]?=some (.cells cs 197 (0,0))∧cs.size=256∧∀ i,i<256→cs[i]?=some (.bool (p i))) {old:Array Value} (hg:w.heap[g]?=some (.cells old 197 (0,0))) :
  SetAt (w.setRow g cs) g p:=⟨cs,by simp only [World.setRow,Array.getElem?_modify,if_pos];rw [hg];rfl,h.2⟩
theorem all_bools {cs:Array Value} {p:Nat→Bool} (hn:cs.size=256) (h:∀ i,i<256→cs[i]?=some (.bool (p i))):cs.all (·.oneCell')=true:=by
 rw [Array.all_eq_true_iff_forall_mem]
 intro v hv
 obtain ⟨i,hi,rfl⟩:=Array.mem_iff_getElem.1 hv
 have:=h i (by omega)
 rw [Array.getElem?_eq_getElem hi] at this
 injection this with this
 rw [this];rfl
theorem info197:(Tryz.prog.info? 197).map (·.size)=some 256:=by kernel_rfl
theorem zc197_size:Tryz.zeroCells197.size=256:=by kernel_rfl
set_option maxHeartbeats 400000 in
theorem set_invert (a:Nat) (p:Nat→Bool) (w:World) (h:SetAt w a p) :
  Calls Tryz.prog 108 #[.pointer (some ⟨a,0,none⟩)] w fun e w'=>∃ a,e=.returned (.pointer (some ⟨a,0,none⟩))∧SetAt w' a (fun i=>!p i)∧Below w.heap.size w w':=by
 obtain ⟨cs,h1,h2,h3⟩:=h
 have hal:=all_bools h2 h3
 have ha:=(Array.getElem?_eq_some_iff.1 h1).1
 have hnew:=SetAt.copied (w:=w.alloc (.cells Tryz.zeroCells197 197)) (a:=a) (p:=p) (cs:=cs) ⟨(heap_alloc_old w _ ha).trans h1,h2,h3⟩ (heap_alloc_new w _)
 go_enter Tryz.func108,Tryz.ntmps108
 go_wp2_with (first
  | (with_reducible refine wpList_load_row rfl 197 (.tmp 6) rfl a rfl 197 cs (0,0) _ h1 Tryz.underlying197 rfl (by rw [h2];exact info197) ?_)
  | (with_reducible refine wpList_store_row rfl 197 (.tmp 3) (.tmp 7) rfl w.heap.size cs rfl rfl 197 Tryz.zeroCells197 (heap_alloc_new w _) (by rw [h2];exact info197) (zc197_size.trans h2.symm) hal ?_))
 have hbel:Below w.heap.size w ((w.alloc (.cells Tryz.zeroCells197 197)).setRow w.heap.size cs):=below_setRow ((Below.refl _ _).alloc (Nat.le_refl _) _) (Nat.le_refl _) _
 clear h1 h2 h3 hal
 go_loopw [8] (fun i wr=>∃ k:Nat,k≤256∧i=.int .i64 k∧SetAt wr w.heap.size (fun i=>if i<k then !p i else p i)∧Below w.heap.size w wr) (fun i _=>256-(intOf i).toNat)
 case atStart=>exact ⟨0,Nat.zero_le _,rfl,hnew.congr (fun _ _=>by simp),hbel⟩
 case round=>
  clear hnew hbel
  obtain ⟨k,hk,rfl,hset,hbel⟩:=hrel
  by_cases hlt:k<256
  ·have hc:=hset.cell k hlt
   have hf:=hset.frozen k
   rw [if_neg (by omega)] at hc
   go_wp2
   go_roundw
   case rel=>exact ⟨k+1,by omega,by go_num,(hset.set k (!p k)).congr (fun i _=>by by_cases e:i=k <;> by_cases e2:i<k <;> simp [e,e2] <;> omega),hbel.setCell (Nat.le_refl _) _⟩
   case measure=>simp [intOf];omega
  ·go_wp2
   go_ret
   exact ⟨_,rfl,hset.congr (fun i hi=>by rw [if_pos (by omega)]),hbel⟩
set_option maxHeartbeats 400000 in
theorem set_union (a b:Nat) (p q:Nat→Bool) (w:World) (h:SetAt w a p) (h':SetAt w b q) :
  Calls Tryz.prog 106 #[.pointer (some ⟨a,0,none⟩),.pointer (some ⟨b,0,none⟩)] w fun e w'=>∃ a,e=.returned (.pointer (some ⟨a,0,none⟩))∧SetAt w' a (fun i=>p i||q i)∧Below w.heap.size w w':=by
 obtain ⟨cs,h1,h2,h3⟩:=h
 have hal:=all_bools h2 h3
 have ha:=(Array.getElem?_eq_some_iff.1 h1).1
 have hb:=h'.lt
 have hnew:=SetAt.copied (w:=w.alloc (.cells Tryz.zeroCells197 197)) (a:=a) (p:=p) (cs:=cs) ⟨(heap_alloc_old w _ ha).trans h1,h2,h3⟩ (heap_alloc_new w _)
 go_enter Tryz.func106,Tryz.ntmps106
 go_wp2_with (first
  | (with_reducible refine wpList_load_row rfl 197 (.tmp 8) rfl a rfl 197 cs (0,0) _ h1 Tryz.underlying197 rfl (by rw [h2];exact info197) ?_)
  | (with_reducible refine wpList_store_row rfl 197 (.tmp 5) (.tmp 9) rfl w.heap.size cs rfl rfl 197 Tryz.zeroCells197 (heap_alloc_new w _) (by rw [h2];exact info197) (zc197_size.trans h2.symm) hal ?_))
 have hbel:Below w.heap.size w ((w.alloc (.cells Tryz.zeroCells197 197)).setRow w.heap.size cs):=below_setRow ((Below.refl _ _).alloc (Nat.le_refl _) _) (Nat.le_refl _) _
 clear h1 h2 h3 hal
 go_loopw [10] (fun i wr=>∃ k:Nat,k≤256∧i=.int .i64 k∧SetAt wr w.heap.size (fun i=>if i<k then p i||q i else p i)∧Below w.heap.size w wr) (fun i _=>256-(intOf i).toNat)
 case atStart=>exact ⟨0,Nat.zero_le _,rfl,hnew.congr (fun _ _=>by simp),hbel⟩
 case round=>
  clear hnew hbel
  obtain ⟨k,hk,rfl,hset,hbel⟩:=hrel
  by_cases hlt:k<256
  ·have hc:=hset.cell k hlt
   have hf:=hset.frozen k
   have hd:=(h'.below hbel hb).cell k hlt
   rw [if_neg (by omega)] at hc
   cases hp:p k
   all_goals
    rw [hp] at hc
    go_wp2
    go_roundw
    case rel=>exact ⟨k+1,by omega,by go_num,(hset.set k _).congr (fun i _=>by by_cases e:i=k <;> by_cases e2:i<k <;> simp [e,e2,hp] <;> omega),hbel.setCell (Nat.le_refl _) _⟩
    case measure=>simp [intOf];omega
  ·go_wp2
   go_ret
   exact ⟨_,rfl,hset.congr (fun i hi=>by rw [if_pos (by omega)]),hbel⟩
set_option maxHeartbeats 400000 in
theorem set_inter (a b:Nat) (p q:Nat→Bool) (w:World) (h:SetAt w a p) (h':SetAt w b q) :
  Calls Tryz.prog 154 #[.pointer (some ⟨a,0,none⟩),.pointer (some ⟨b,0,none⟩)] w fun e w'=>∃ a,e=.returned (.pointer (some ⟨a,0,none⟩))∧SetAt w' a (fun i=>p i&&q i)∧Below w.heap.size w w':=by
 obtain ⟨cs,h1,h2,h3⟩:=h
 have hal:=all_bools h2 h3
 have ha:=(Array.getElem?_eq_some_iff.1 h1).1
 have hb:=h'.lt
 have hnew:=SetAt.copied (w:=w.alloc (.cells Tryz.zeroCells197 197)) (a:=a) (p:=p) (cs:=cs) ⟨(heap_alloc_old w _ ha).trans h1,h2,h3⟩ (heap_alloc_new w _)
 go_enter Tryz.func154,Tryz.ntmps154
 go_wp2_with (first
  | (with_reducible refine wpList_load_row rfl 197 (.tmp 8) rfl a rfl 197 cs (0,0) _ h1 Tryz.underlying197 rfl (by rw [h2];exact info197) ?_)
  | (with_reducible refine wpList_store_row rfl 197 (.tmp 5) (.tmp 9) rfl w.heap.size cs rfl rfl 197 Tryz.zeroCells197 (heap_alloc_new w _) (by rw [h2];exact info197) (zc197_size.trans h2.symm) hal ?_))
 have hbel:Below w.heap.size w ((w.alloc (.cells Tryz.zeroCells197 197)).setRow w.heap.size cs):=below_setRow ((Below.refl _ _).alloc (Nat.le_refl _) _) (Nat.le_refl _) _
 clear h1 h2 h3 hal
 go_loopw [10] (fun i wr=>∃ k:Nat,k≤256∧i=.int .i64 k∧SetAt wr w.heap.size (fun i=>if i<k then p i&&q i else p i)∧Below w.heap.size w wr) (fun i _=>256-(intOf i).toNat)
 case atStart=>exact ⟨0,Nat.zero_le _,rfl,hnew.congr (fun _ _=>by simp),hbel⟩
 case round=>
  clear hnew hbel
  obtain ⟨k,hk,rfl,hset,hbel⟩:=hrel
  by_cases hlt:k<256
  ·have hc:=hset.cell k hlt
   have hf:=hset.frozen k
   have hd:=(h'.below hbel hb).cell k hlt
   rw [if_neg (by omega)] at hc
   cases hp:p k
   all_goals
    rw [hp] at hc
    go_wp2
    go_roundw
    case rel=>exact ⟨k+1,by omega,by go_num,(hset.set k _).congr (fun i _=>by by_cases e:i=k <;> by_cases e2:i<k <;> simp [e,e2,hp] <;> omega),hbel.setCell (Nat.le_refl _) _⟩
    case measure=>simp [intOf];omega
  ·go_wp2
   go_ret
   exact ⟨_,rfl,hset.congr (fun i hi=>by rw [if_pos (by omega)]),hbel⟩
set_option maxHeartbeats 400000 in
theorem set_range (m n:Nat) (hm:m≤n) (hn:n<255) (w:World) :
  Calls Tryz.prog 136 #[.int .u8 m,.int .u8 n] w fun e w'=>∃ a,e=.returned (.pointer (some ⟨a,0,none⟩))∧SetAt w' a (fun j=>decide (m≤j∧j≤n))∧Below w.heap.size w w':=by
 have hfr:=SetAt.fresh w
 go_enter Tryz.func136,Tryz.ntmps136
 go_wp2_with fail
 go_loopw [6] (fun i wr=>∃ k:Nat,m≤k∧k≤n+1∧i=.int .u8 k∧SetAt wr w.heap.size (fun j=>decide (m≤j∧j<k))∧Below w.heap.size w wr) (fun i _=>n+1-(intOf i).toNat)
 case atStart=>exact ⟨m,Nat.le_refl _,by omega,rfl,hfr.congr (fun j _=>by symm;rw [decide_eq_false_iff_not];omega),(Below.refl _ _).alloc (Nat.le_refl _) _⟩
 case round=>
  obtain ⟨k,hk0,hk,rfl,hset,hbel⟩:=hrel
  clear hfr
  by_cases hlt:k≤n
  ·go_wp2_with fail
   refine (set_set _ _ (k:Int) (by omega) (by omega) _ hset).mono ?_
   rintro e w' ⟨rfl,rfl⟩
   go_wp2_with fail
   go_roundw
   case rel=>exact ⟨k+1,by omega,by omega,by go_num,(hset.set _ true).congr (fun i hi=>by
    by_cases h:i=k
    ·subst h;rw [if_pos rfl];symm;rw [decide_eq_true_iff];omega
    ·rw [if_neg h];exact decide_eq_decide.2 (by omega)),hbel.setCell (Nat.le_refl _) _⟩
   case measure=>simp [intOf];omega
  ·go_wp2_with fail
   go_ret
   exact ⟨_,rfl,hset.congr (fun j _=>by congr 1; apply propext; constructor <;> intro h <;> omega),hbel⟩
set_option maxHeartbeats 400000 in
theorem set_without (a b:Nat) (p q:Nat→Bool) (w:World) (h:SetAt w a p) (h':SetAt w b q) :
  Calls Tryz.prog 133 #[.pointer (some ⟨a,0,none⟩),.pointer (some ⟨b,0,none⟩)] w fun e w'=>∃ a,e=.returned (.pointer (some ⟨a,0,none⟩))∧SetAt w' a (fun i=>p i&&!q i)∧Below w.heap.size w w':=by
 go_enter Tryz.func133,Tryz.ntmps133
 go_wp2_with fail
 refine (set_invert _ _ _ h').mono ?_
 rintro e w1 ⟨a1,rfl,s1,b1⟩
 go_wp2_with fail
 refine (set_inter _ _ _ _ _ (h.below b1 h.lt) s1).mono ?_
 rintro e w2 ⟨a2,rfl,s2,b2⟩
 go_wp2_with fail
 go_ret
 exact ⟨_,rfl,s2,b1.trans (b2.mono b1.size)⟩
def oddB (c:Nat):Bool:=decide (c<32)||c==127
def whiteB (c:Nat):Bool:=c==32||c==13||c==10
def inSet:Nat→Nat→Bool
 | 0,c=>c==32
 | 1,c=>whiteB c
 | 2,c=>c != 44&&c != 61&&c != 32&&!oddB c
 | 3,c=>oddB c
 | 4,c=>c==13||c==10
 | 5,c=>c != 44&&c != 32&&!oddB c
 | 6,c=>c != 44&&c != 61&&c != 32&&!oddB c
 | 7,c=>c != 44&&c != 61&&c != 32&&!oddB c
 | 8,c=>c != 34
 | 9,c=>c != 44&&!whiteB c
 | 10,c=>c==45||(decide (48≤c)&&decide (c≤57))
 | 11,c=>!oddB c
 | 12,c=>c != 13&&c != 10
 | _,c=>c != 10
def MakesSet (f:FuncId) (p:Nat→Bool):Prop:=∀ w,Calls Tryz.prog f #[] w fun e w'=>∃ a,e=.returned (.pointer (some ⟨a,0,none⟩))∧SetAt w' a p∧Below w.heap.size w w'
set_option maxHeartbeats 400000 in
theorem mk_53:MakesSet 53 (inSet 0):=by
 intro w
 go_enter Tryz.func53,Tryz.ntmps53
 go_wp2_with fail
 refine (set_new ⟨#[32]⟩ (by decide) _).mono ?_
 rintro e w0 ⟨a0,rfl,s0,b0⟩
 go_wp2_with fail
 go_ret
 exact ⟨_,rfl,s0.congr (by decide +kernel),b0⟩
set_option maxHeartbeats 400000 in
theorem mk_112:MakesSet 112 (inSet 4):=by
 intro w
 go_enter Tryz.func112,Tryz.ntmps112
 go_wp2_with fail
 refine (set_new ⟨#[13,10]⟩ (by decide) _).mono ?_
 rintro e w0 ⟨a0,rfl,s0,b0⟩
 go_wp2_with fail
 go_ret
 exact ⟨_,rfl,s0.congr (by decide +kernel),b0⟩
set_option maxHeartbeats 400000 in
theorem mk_107:MakesSet 107 (inSet 3):=by
 intro w
 go_enter Tryz.func107,Tryz.ntmps107
 go_wp2_with fail
 refine (set_range 0 31 (by omega) (by omega) _).mono ?_
 rintro e w0 ⟨a0,rfl,s0,b0⟩
 go_wp2_with fail
 refine (set_new ⟨#[127]⟩ (by decide) _).mono ?_
 rintro e w1 ⟨a1,rfl,s1,b1⟩
 go_wp2_with fail
 refine (set_union _ _ _ _ _ (s0.below b1 s0.lt) s1).mono ?_
 rintro e w2 ⟨a2,rfl,s2,b2⟩
 go_wp2_with fail
 go_ret
 exact ⟨_,rfl,s2.congr (by decide +kernel),((b0.trans (b1.mono b0.size)).trans (b2.mono (b0.trans (b1.mono b0.size)).size))⟩
set_option maxHeartbeats 400000 in
theorem mk_68:MakesSet 68 (inSet 1):=by
 intro w
 go_enter Tryz.func68,Tryz.ntmps68
 go_wp2_with fail
 refine (mk_53 _).mono ?_
 rintro e w0 ⟨a0,rfl,s0,b0⟩
 go_wp2_with fail
 refine (set_new ⟨#[13,10]⟩ (by decide) _).mono ?_
 rintro e w1 ⟨a1,rfl,s1,b1⟩
 go_wp2_with fail
 refine (set_union _ _ _ _ _ (s0.below b1 s0.lt) s1).mono ?_
 rintro e w2 ⟨a2,rfl,s2,b2⟩
 go_wp2_with fail
 go_ret
 exact ⟨_,rfl,s2.congr (by decide +kernel),((b0.trans (b1.mono b0.size)).trans (b2.mono (b0.trans (b1.mono b0.size)).size))⟩
set_option maxHeartbeats 400000 in
theorem mk_57:MakesSet 57 (inSet 2):=by
 intro w
 go_enter Tryz.func57,Tryz.ntmps57
 go_wp2_with fail
 refine (set_new ⟨#[44,61]⟩ (by decide) _).mono ?_
 rintro e w0 ⟨a0,rfl,s0,b0⟩
 go_wp2_with fail
 refine (mk_68 _).mono ?_
 rintro e w1 ⟨a1,rfl,s1,b1⟩
 go_wp2_with fail
 refine (set_union _ _ _ _ _ (s0.below b1 s0.lt) s1).mono ?_
 rintro e w2 ⟨a2,rfl,s2,b2⟩
 go_wp2_with fail
 refine (mk_107 _).mono ?_
 rintro e w3 ⟨a3,rfl,s3,b3⟩
 go_wp2_with fail
 refine (set_union _ _ _ _ _ (s2.below b3 s2.lt) s3).mono ?_
 rintro e w4 ⟨a4,rfl,s4,b4⟩
 go_wp2_with fail
 refine (set_invert _ _ _ s4).mono ?_
 rintro e w5 ⟨a5,rfl,s5,b5⟩
 go_wp2_with fail
 go_ret
 exact ⟨_,rfl,s5.congr (by decide +kernel),(((((b0.trans (b1.mono b0.size)).trans (b2.mono (b0.trans (b1.mono b0.size)).size)).trans (b3.mono ((b0.trans (b1.mono b0.size)).trans (b2.mono (b0.trans (b1.mono b0.size)).size)).size)).trans (b4.mono (((b0.trans (b1.mono b0.size)).trans (b2.mono (b0.trans (b1.mono b0.size)).size)).trans (b3.mono ((b0.trans (b1.mono b0.size)).trans (b2.mono (b0.trans (b1.mono b0.size)).size)).size)).size)).trans (b5.mono ((((b0.trans (b1.mono b0.size)).trans (b2.mono (b0.trans (b1.mono b0.size)).size)).trans (b3.mono ((b0.trans (b1.mono b0.size)).trans (b2.mono (b0.trans (b1.mono b0.size)).size)).size)).trans (b4.mono (((b0.trans (b1.mono b0.size)).trans (b2.mono (b0.trans (b1.mono b0.size)).size)).trans (b3.mono ((b0.trans (b1.mono b0.size)).trans (b2.mono (b0.trans (b1.mono b0.size)).size)).size)).size)).size))⟩
set_option maxHeartbeats 400000 in
theorem mk_48:MakesSet 48 (inSet 5):=by
 intro w
 go_enter Tryz.func48,Tryz.ntmps48
 go_wp2_with fail
 refine (set_new ⟨#[44,32]⟩ (by decide) _).mono ?_
 rintro e w0 ⟨a0,rfl,s0,b0⟩
 go_wp2_with fail
 refine (mk_107 _).mono ?_
 rintro e w1 ⟨a1,rfl,s1,b1⟩
 go_wp2_with fail
 refine (set_union _ _ _ _ _ (s0.below b1 s0.lt) s1).mono ?_
 rintro e w2 ⟨a2,rfl,s2,b2⟩
 go_wp2_with fail
 refine (set_invert _ _ _ s2).mono ?_
 rintro e w3 ⟨a3,rfl,s3,b3⟩
 go_wp2_with fail
 go_ret
 exact ⟨_,rfl,s3.congr (by decide +kernel),(((b0.trans (b1.mono b0.size)).trans (b2.mono (b0.trans (b1.mono b0.size)).size)).trans (b3.mono ((b0.trans (b1.mono b0.size)).trans (b2.mono (b0.trans (b1.mono b0.size)).size)).size))⟩
set_option maxHeartbeats 400000 in
theorem mk_60:MakesSet 60 (inSet 6):=by
 intro w
 go_enter Tryz.func60,Tryz.ntmps60
 go_wp2_with fail
 refine (set_new ⟨#[44,61]⟩ (by decide) _).mono ?_
 rintro e w0 ⟨a0,rfl,s0,b0⟩
 go_wp2_with fail
 refine (mk_68 _).mono ?_
 rintro e w1 ⟨a1,rfl,s1,b1⟩
 go_wp2_with fail
 refine (set_union _ _ _ _ _ (s0.below b1 s0.lt) s1).mono ?_
 rintro e w2 ⟨a2,rfl,s2,b2⟩
 go_wp2_with fail
 refine (mk_107 _).mono ?_
 rintro e w3 ⟨a3,rfl,s3,b3⟩
 go_wp2_with fail
 refine (set_union _ _ _ _ _ (s2.below b3 s2.lt) s3).mono ?_
 rintro e w4 ⟨a4,rfl,s4,b4⟩
 go_wp2_with fail
 refine (set_invert _ _ _ s4).mono ?_
 rintro e w5 ⟨a5,rfl,s5,b5⟩
 go_wp2_with fail
 go_ret
 exact ⟨_,rfl,s5.congr (by decide +kernel),(((((b0.trans (b1.mono b0.size)).trans (b2.mono (b0.trans (b1.mono b0.size)).size)).trans (b3.mono ((b0.trans (b1.mono b0.size)).trans (b2.mono (b0.trans (b1.mono b0.size)).size)).size)).trans (b4.mono (((b0.trans (b1.mono b0.size)).trans (b2.mono (b0.trans (b1.mono b0.size)).size)).trans (b3.mono ((b0.trans (b1.mono b0.size)).trans (b2.mono (b0.trans (b1.mono b0.size)).size)).size)).size)).trans (b5.mono ((((b0.trans (b1.mono b0.size)).trans (b2.mono (b0.trans (b1.mono b0.size)).size)).trans (b3.mono ((b0.trans (b1.mono b0.size)).trans (b2.mono (b0.trans (b1.mono b0.size)).size)).size)).trans (b4.mono (((b0.trans (b1.mono b0.size)).trans (b2.mono (b0.trans (b1.mono b0.size)).size)).trans (b3.mono ((b0.trans (b1.mono b0.size)).trans (b2.mono (b0.trans (b1.mono b0.size)).size)).size)).size)).size))⟩
set_option maxHeartbeats 400000 in
theorem mk_63:MakesSet 63 (inSet 7):=by
 intro w
 go_enter Tryz.func63,Tryz.ntmps63
 go_wp2_with fail
 refine (mk_57 _).mono ?_
 rintro e w0 ⟨a0,rfl,s0,b0⟩
 go_wp2_with fail
 go_ret
 exact ⟨_,rfl,s0.congr (by decide +kernel),b0⟩
set_option maxHeartbeats 400000 in
theorem mk_65:MakesSet 65 (inSet 8):=by
 intro w
 go_enter Tryz.func65,Tryz.ntmps65
 go_wp2_with fail
 refine (set_new ⟨#[34]⟩ (by decide) _).mono ?_
 rintro e w0 ⟨a0,rfl,s0,b0⟩
 go_wp2_with fail
 refine (set_invert _ _ _ s0).mono ?_
 rintro e w1 ⟨a1,rfl,s1,b1⟩
 go_wp2_with fail
 go_ret
 exact ⟨_,rfl,s1.congr (by decide +kernel),(b0.trans (b1.mono b0.size))⟩
set_option maxHeartbeats 400000 in
theorem mk_67:MakesSet 67 (inSet 9):=by
 intro w
 go_enter Tryz.func67,Tryz.ntmps67
 go_wp2_with fail
 refine (set_new ⟨#[44]⟩ (by decide) _).mono ?_
 rintro e w0 ⟨a0,rfl,s0,b0⟩
 go_wp2_with fail
 refine (mk_68 _).mono ?_
 rintro e w1 ⟨a1,rfl,s1,b1⟩
 go_wp2_with fail
 refine (set_union _ _ _ _ _ (s0.below b1 s0.lt) s1).mono ?_
 rintro e w2 ⟨a2,rfl,s2,b2⟩
 go_wp2_with fail
 refine (set_invert _ _ _ s2).mono ?_
 rintro e w3 ⟨a3,rfl,s3,b3⟩
 go_wp2_with fail
 go_ret
 exact ⟨_,rfl,s3.congr (by decide +kernel),(((b0.trans (b1.mono b0.size)).trans (b2.mono (b0.trans (b1.mono b0.size)).size)).trans (b3.mono ((b0.trans (b1.mono b0.size)).trans (b2.mono (b0.trans (b1.mono b0.size)).size)).size))⟩
set_option maxHeartbeats 400000 in
theorem mk_70:MakesSet 70 (inSet 10):=by
 intro w
 go_enter Tryz.func70,Tryz.ntmps70
 go_wp2_with fail
 refine (set_new ⟨#[45,48,49,50,51,52,53,54,55,56,57]⟩ (by decide) _).mono ?_
 rintro e w0 ⟨a0,rfl,s0,b0⟩
 go_wp2_with fail
 go_ret
 exact ⟨_,rfl,s0.congr (by decide +kernel),b0⟩
set_option maxHeartbeats 400000 in
theorem mk_102:MakesSet 102 (inSet 11):=by
 intro w
 go_enter Tryz.func102,Tryz.ntmps102
 go_wp2_with fail
 refine (mk_107 _).mono ?_
 rintro e w0 ⟨a0,rfl,s0,b0⟩
 go_wp2_with fail
 refine (set_invert _ _ _ s0).mono ?_
 rintro e w1 ⟨a1,rfl,s1,b1⟩
 go_wp2_with fail
 refine (mk_112 _).mono ?_
 rintro e w2 ⟨a2,rfl,s2,b2⟩
 go_wp2_with fail
 refine (set_without _ _ _ _ _ (s1.below b2 s1.lt) s2).mono ?_
 rintro e w3 ⟨a3,rfl,s3,b3⟩
 go_wp2_with fail
 go_ret
 exact ⟨_,rfl,s3.congr (by decide +kernel),(((b0.trans (b1.mono b0.size)).trans (b2.mono (b0.trans (b1.mono b0.size)).size)).trans (b3.mono ((b0.trans (b1.mono b0.size)).trans (b2.mono (b0.trans (b1.mono b0.size)).size)).size))⟩
set_option maxHeartbeats 400000 in
theorem mk_71:MakesSet 71 (inSet 12):=by
 intro w
 go_enter Tryz.func71,Tryz.ntmps71
 go_wp2_with fail
 refine (mk_112 _).mono ?_
 rintro e w0 ⟨a0,rfl,s0,b0⟩
 go_wp2_with fail
 refine (set_invert _ _ _ s0).mono ?_
 rintro e w1 ⟨a1,rfl,s1,b1⟩
 go_wp2_with fail
 go_ret
 exact ⟨_,rfl,s1.congr (by decide +kernel),(b0.trans (b1.mono b0.size))⟩
set_option maxHeartbeats 400000 in
theorem mk_153:MakesSet 153 (inSet 13):=by
 intro w
 go_enter Tryz.func153,Tryz.ntmps153
 go_wp2_with fail
 refine (set_new ⟨#[10]⟩ (by decide) _).mono ?_
 rintro e w0 ⟨a0,rfl,s0,b0⟩
 go_wp2_with fail
 refine (set_invert _ _ _ s0).mono ?_
 rintro e w1 ⟨a1,rfl,s1,b1⟩
 go_wp2_with fail
 go_ret
 exact ⟨_,rfl,s1.congr (by decide +kernel),(b0.trans (b1.mono b0.size))⟩
end Go.Proofs.YtkfggfjdplnkpaaGreatDoor
end
section
namespace Go.Proofs.YtkfggfjdplnkpaaGreatDoor
open Go.RowKit
def bcell (b:UInt8):Value:=.int .u8 (b.toNat:Int)
structure Only (S:Nat→Prop) (w w':World):Prop where
 os:w'.os=w.os
 tape:w'.tape=w.tape
 output:w'.output=w.output
 size:w.heap.size≤w'.heap.size
 block:∀ k,k<w.heap.size→¬S k→w'.heap[k]?=w.heap[k]?
theorem Only.refl (S:Nat→Prop) (w:World):Only S w w:=⟨rfl,rfl,rfl,Nat.le_refl _,fun _ _ _=>rfl⟩
theorem Only.mono {S S':Nat→Prop} {w w':World} (h:Only S w w') (hs:∀ k,k<w.heap.size→S k→S' k):Only S' w w':=
 ⟨h.os,h.tape,h.output,h.size,fun k hk hn=>h.block k hk (fun e=>hn (hs k hk e))⟩
theorem Only.trans {S S2:Nat→Prop} {w w1 w2:World} (h:Only S w w1) (k:Only S2 w1 w2) (hs:∀ k,S2 k→S k∨w.heap.size≤k):Only S w w2:=
 ⟨k.os.trans h.os,k.tape.trans h.tape,k.output.trans h.output,Nat.le_trans h.size k.size,fun i hi hn=>(k.block i (Nat.lt_of_lt_of_le hi h.size) (fun e=>by
  rcases hs i e with h1 | h1
  ·exact hn h1
  ·omega)).trans (h.block i hi hn)⟩
theorem Only.of_below {w w':World} (h:Below w.heap.size w w') (S:Nat→Prop):Only S w w':=⟨h.os,h.tape,h.output,h.size,fun k hk _=>h.block k hk⟩
theorem Only.below {S:Nat→Prop} {w w':World} (h:Only S w w') (hs:∀ k,S k→w.heap.size≤k):Below w.heap.size w w':=⟨h.os,h.tape,h.output,h.size,fun k hk=>h.block k hk (fun e=>by have:=hs k e;omega)⟩
theorem Only.setCell {S:Nat→Prop} {w w':World} (h:Only S w w') {p:Addr} (hp:S p.block∨w.heap.size≤p.block) (u:Value):Only S w (w'.setCell p u):=
 h.trans (S2:=fun k=>k=p.block) ⟨rfl,rfl,rfl,by simp [World.setCell],fun k _ hk=>Below.heap_setCell _ _ _ _ hk⟩ (fun k hk=>by subst hk;exact hp)
theorem Only.alloc {S:Nat→Prop} {w w':World} (h:Only S w w') (o:Obj):Only S w (w'.alloc o):=
 h.trans (Only.of_below ((Below.refl _ _).alloc (Nat.le_refl _) o) (fun _=>False)) (fun _ hk=>hk.elim)
theorem Only.drewN {S:Nat→Prop} {w w':World} (h:Only S w w') (n:Nat):Only S w (w'.drewN n):=⟨h.os,h.tape,h.output,h.size,h.block⟩
theorem Only.drew {S:Nat→Prop} {w w':World} (h:Only S w w'):Only S w w'.drew:=⟨h.os,h.tape,h.output,h.size,h.block⟩
theorem Only.grown {S:Nat→Prop} {w w' w'':World} (h:Only S w w') {row:Option Nat} (hg:w'.grownBy w'' row) (hr:∀ k,row=some k→S k∨w.heap.size≤k):Only S w w'':=
 h.trans (S2:=fun k=>row=some k) ⟨hg.os,hg.tape,hg.output,hg.size,fun k hk hn=>hg.block k hk (fun e=>hn e.symm)⟩ hr
theorem Only.then_below {S:Nat→Prop} {w w' w'':World} (h:Only S w w') (k:Below w'.heap.size w' w''):Only S w w'':=
 h.trans (Only.of_below k (fun _=>False)) (fun _ hk=>hk.elim)
theorem blk_cell {w:World} {g:Nat} {t:TypeId} {cs:Array Value} (h:w.heap[g]?=some (.cells cs t (0,0))) (i:Nat):w.cell? ⟨g,i,none⟩=cs[i]?:=cell_of_row w g i cs t (0,0) h
theorem blk_frozen {w:World} {g:Nat} {t:TypeId} {cs:Array Value} (h:w.heap[g]?=some (.cells cs t (0,0))) (i:Nat):w.frozen? ⟨g,i,none⟩=false:=frozen_of_row w g i cs t h
theorem blk_lt {w:World} {g:Nat} {o:Obj} (h:w.heap[g]?=some o):g<w.heap.size:=(Array.getElem?_eq_some_iff.1 h).1
theorem blk_set {w:World} {g:Nat} {t:TypeId} {cs:Array Value} (h:w.heap[g]?=some (.cells cs t (0,0))) (i:Nat) (u:Value):(w.setCell ⟨g,i,none⟩ u).heap[g]?=some (.cells (cs.setIfInBounds i u) t (0,0)):=heap_setCell_same w g i cs t u h
theorem blk_only {S:Nat→Prop} {w w':World} {g:Nat} {o:Obj} (h:w.heap[g]?=some o) (hk:Only S w w') (hn:¬S g):w'.heap[g]?=some o:=(hk.block g (blk_lt h) hn).trans h
theorem blk_type {w:World} {g g':Nat} {t t':TypeId} {cs cs':Array Value} {f f':Nat × Nat} (h:w.heap[g]?=some (.cells cs t f)) (h':w.heap[g']?=some (.cells cs' t' f')) (hne:t≠t'):g≠g':=by
 rintro rfl
 rw [h] at h'
 injection h' with h'
 injection h' with _ ht
 exact hne ht
section
variable {P:Program}
theorem run_append_stay (w:World) (base:Nat) (t ty e:TypeId) (i:TypeInfo) (z:Value) (bytes:Nat) (ht:P.underlying t=some (.slice e)) (hi:P.info? e=some i) (hz:i.zero=some z)
  (hsize:i.size=1) (hby:i.bytes=bytes) (hzs:z.cells.size=1)
  (v:Value) (n:Nat) (xs:List Value) (hown:w.ownsRow base e 1 v n xs)
  (a:Addr) (m c:Nat) (news:List Value) (hl:news.length=m*1) (hnews:∀ j u,news[j]?=some u→w.cell? (a.add j)=some u) (h1:∀ u∈news,u.oneCell'=true)
  (h63:n+m≤maxLen) (hbytes:(n+m)*bytes≤140737488355328) (hbase:base≤w.heap.size) :
  ∃ v' w',(Builtin.append_ #[t,t] ty #[v,.slice (some a) m c]).run P w=.ok v' w'∧w'.ownsRow base e 1 v' (n+m) (xs++news)∧w.grownBy w' v.ownBlock∧
   (∀ b,v.ownBlock=some b→∀ j,j<n→w'.cell? ⟨b,j,none⟩=w.cell? ⟨b,j,none⟩)∧
   (v'.ownBlock=v.ownBlock∨∃ b,v'.ownBlock=some b∧w.heap.size≤b):=by
 have hsmall:n+m≤9223372036854775807:=by simp only [maxLen] at h63;omega
 obtain ⟨v',w',hr,h2,h3,h4⟩:=run_append_own (P:=P) w base t ty e i z 1 bytes ht hi hz hsize hby hzs (by decide) v n xs hown a m c news hl hnews h1 h63 hbytes hbase
 rcases hown.2 with ⟨rfl,rfl⟩ | ⟨g,cap,cur,rfl,hbg,hg,hnc,hcm,hcs,htake⟩
 ·refine ⟨v',w',hr,h2,h3,fun b hb=>by simp [Value.ownBlock] at hb,?_⟩
  have hx:xs=[]:=List.eq_nil_of_length_eq_zero (by simpa using hown.1)
  subst hx
  by_cases hm:m=0
  ·left
   rw [(h4.2 ⟨rfl,hm⟩)]
  ·right
   have hr':=run_append_nil (P:=P) w t ty e i z ht hi hz a m c news (by rw [hsize];exact hl) hnews (by omega) (by omega) (by rw [hby];have hb:=hbytes;simp only [Nat.zero_add] at hb;omega)
   rw [hr'] at hr
   injection hr with hv hw
   subst hv
   exact ⟨_,rfl,Nat.le_refl _⟩
 ·by_cases hroom:n+m≤cap
  ·have hfit:n*i.size+news.length≤cur.size:=by rw [hl,hcs,hsize];omega
   have hr':=run_append_room (P:=P) w t ty e i ht hi g n cap cur hg a m c news (by rw [hsize];exact hl) hnews h1 hroom hfit
   rw [hr'] at hr
   injection hr with hv hw
   subst hv
   refine ⟨_,w',by rw [hr',hw],h2,h3,fun b hb j hj=>?_,.inl rfl⟩
   obtain rfl:g=b:=by simpa [Value.ownBlock] using hb
   subst hw
   rw [cell_of_row _ _ j _ e (0,0) (setRow_heap w g cur _ e _ hg),cell_of_row _ _ j _ e (0,0) hg]
   simp only [hsize,Nat.mul_one,List.getElem?_toArray]
   rw [List.append_assoc,List.getElem?_append_left (by rw [List.length_take];simp;omega),List.getElem?_take,if_pos hj]
   simp
  ·have holds:∀ j u,xs[j]?=some u→w.cell? ((⟨g,0,none⟩:Addr).add j)=some u:=hown.cells (g:=g) rfl
   have hr':=run_append_grow (P:=P) w t ty e i z ht hi hz ⟨g,0,none⟩ n cap xs (by rw [hsize];exact hown.1) holds a m c news (by rw [hsize];exact hl) hnews (by omega) (by omega) (by rw [hby];exact growslice_fits (by omega) hbytes)
   rw [hr'] at hr
   injection hr with hv hw
   subst hv
   refine ⟨_,w',by rw [hr',hw],h2,h3,fun b hb j hj=>?_,.inr ⟨_,rfl,Nat.le_refl _⟩⟩
   obtain rfl:g=b:=by simpa [Value.ownBlock] using hb
   subst hw
   exact World.cell?_of_block (heap_alloc_old w.drew _ (blk_lt hg))
theorem wpList_append_stay {ops:Array Oper} {rest:List Oper} {o:Oper} {a:Act} {Q:Exit→Act→World→Prop} (w:World) (hgd:o.guard=none) (s x:Operand) (t:TypeId)
  (ho:o.op=.call { callee:=.builtin .append,args:=#[s,x],argTypes:=#[t,t] })
  (base:Nat) (e:TypeId) (i:TypeInfo) (z:Value) (bytes:Nat) (ht:P.underlying t=some (.slice e)) (hi:P.info? e=some i) (hz:i.zero=some z)
  (hsize:i.size=1) (hby:i.bytes=bytes) (hzs:z.cells.size=1)
  (v:Value) (n:Nat) (xs:List Value) (hs:a.eval s=v) (hown:w.ownsRow base e 1 v n xs)
  (ad:Addr) (m c:Nat) (news:List Value) (hx:a.eval x=.slice (some ad) m c) (hl:news.length=m*1) (hnews:∀ j u,news[j]?=some u→w.cell? (ad.add j)=some u) (h1:∀ u∈news,u.oneCell'=true)
  (h63:n+m≤maxLen) (hbytes:(n+m)*bytes≤140737488355328) (hbase:base≤w.heap.size)
  (h:∀ v' w',w'.ownsRow base e 1 v' (n+m) (xs++news)→w.grownBy w' v.ownBlock→(∀ b,v.ownBlock=some b→∀ j,j<n→w'.cell? ⟨b,j,none⟩=w.cell? ⟨b,j,none⟩)→
   (v'.ownBlock=v.ownBlock∨∃ b,v'.ownBlock=some b∧w.heap.size≤b)→wpList P ops Q rest (a.put o.dst v') w'):wpList P ops Q (o::rest) a w:=
 wpList_plain hgd fun _ hK=>by
  obtain ⟨v',w',hr,h2,h3,h4,h5⟩:=run_append_stay (P:=P) w base t o.type e i z bytes ht hi hz hsize hby hzs v n xs hown ad m c news hl hnews h1 h63 hbytes hbase
  unfold Oper.wp execOp
  simp only [ho,resolve,invoke,builtin,Sem.run_bind,Sem.run_pure,Result.andThen_ok,List.map_toArray,List.map_cons,List.map_nil,hs,hx,hr]
  exact hK _ _ (h v' w' h2 h3 h4 h5)
end
end Go.Proofs.YtkfggfjdplnkpaaGreatDoor
end
section
namespace Go.Proofs.YtkfggfjdplnkpaaGreatDoor
open Go.RowKit
structure DecB (w:World) (g:Nat) (f:Nat→Nat) (nd:Nat) (dp:Int) (ng tr:Bool):Prop where
 ex:∃ cs,w.heap[g]?=some (.cells cs 244 (0,0))∧cs.size=804∧(∀ i,i<800→cs[i]?=some (.int .u8 (f i:Int)))∧
  cs[800]?=some (.int .i64 (nd:Int))∧cs[801]?=some (.int .i64 dp)∧cs[802]?=some (.bool ng)∧cs[803]?=some (.bool tr)
namespace DecB
variable {w w':World} {g nd:Nat} {f:Nat→Nat} {dp:Int} {ng tr:Bool}
theorem d (h:DecB w g f nd dp ng tr) (i:Nat) (hi:i<800):w.cell? ⟨g,i,none⟩=some (.int .u8 (f i:Int)):=by
 obtain ⟨cs,h1,h2,h3,_⟩:=h.ex
 rw [blk_cell h1,h3 i hi]
theorem c800 (h:DecB w g f nd dp ng tr):w.cell? ⟨g,800,none⟩=some (.int .i64 (nd:Int)):=by
 obtain ⟨cs,h1,h2,h3,h4,h5,h6,h7⟩:=h.ex
 rw [blk_cell h1,h4]
theorem c801 (h:DecB w g f nd dp ng tr):w.cell? ⟨g,801,none⟩=some (.int .i64 dp):=by
 obtain ⟨cs,h1,h2,h3,h4,h5,h6,h7⟩:=h.ex
 rw [blk_cell h1,h5]
theorem c802 (h:DecB w g f nd dp ng tr):w.cell? ⟨g,802,none⟩=some (.bool ng):=by
 obtain ⟨cs,h1,h2,h3,h4,h5,h6,h7⟩:=h.ex
 rw [blk_cell h1,h6]
theorem c803 (h:DecB w g f nd dp ng tr):w.cell? ⟨g,803,none⟩=some (.bool tr):=by
 obtain ⟨cs,h1,h2,h3,h4,h5,h6,h7⟩:=h.ex
 rw [blk_cell h1,h7]
theorem fz (h:DecB w g f nd dp ng tr) (i:Nat):w.frozen? ⟨g,i,none⟩=false:=by
 obtain ⟨cs,h1,_⟩:=h.ex
 exact blk_frozen h1 i
theorem lt (h:DecB w g f nd dp ng tr):g<w.heap.size:=by
 obtain ⟨cs,h1,_⟩:=h.ex
 exact blk_lt h1
theorem of_block (h:DecB w g f nd dp ng tr) (hb:w'.heap[g]?=w.heap[g]?):DecB w' g f nd dp ng tr:=by
 obtain ⟨cs,h1,h2⟩:=h.ex
 exact ⟨cs,hb.trans h1,h2⟩
theorem drewN (h:DecB w g f nd dp ng tr) (n:Nat):DecB (w.drewN n) g f nd dp ng tr:=h.of_block rfl
theorem congr {f':Nat→Nat} (h:DecB w g f nd dp ng tr) (e:∀ i,i<800→f i=f' i):DecB w g f' nd dp ng tr:=by
 obtain ⟨cs,h1,h2,h3,h4⟩:=h.ex
 exact ⟨cs,h1,h2,fun i hi=>by rw [h3 i hi,e i hi],h4⟩
theorem setD (h:DecB w g f nd dp ng tr) (j:Nat) (hj:j<800) (v:Nat):DecB (w.setCell ⟨g,j,none⟩ (.int .u8 (v:Int))) g (fun i=>if i=j then v else f i) nd dp ng tr:=by
 obtain ⟨cs,h1,h2,h3,h4,h5,h6,h7⟩:=h.ex
 refine ⟨_,blk_set h1 j _,by simp [h2],fun i hi=>?_,?_,?_,?_,?_⟩
 ·by_cases e:i=j
  ·subst e
   rw [if_pos rfl,Array.getElem?_setIfInBounds_self_of_lt (by omega)]
  ·rw [if_neg e,Array.getElem?_setIfInBounds_ne (by omega)]
   exact h3 i hi
 ·rw [Array.getElem?_setIfInBounds_ne (by omega)];exact h4
 ·rw [Array.getElem?_setIfInBounds_ne (by omega)];exact h5
 ·rw [Array.getElem?_setIfInBounds_ne (by omega)];exact h6
 ·rw [Array.getElem?_setIfInBounds_ne (by omega)];exact h7
theorem setN (h:DecB w g f nd dp ng tr) (n:Nat):DecB (w.setCell ⟨g,800,none⟩ (.int .i64 (n:Int))) g f n dp ng tr:=by
 obtain ⟨cs,h1,h2,h3,h4,h5,h6,h7⟩:=h.ex
 refine ⟨_,blk_set h1 800 _,by simp [h2],fun i hi=>?_,?_,?_,?_,?_⟩
 ·rw [Array.getElem?_setIfInBounds_ne (by omega)];exact h3 i hi
 ·rw [Array.getElem?_setIfInBounds_self_of_lt (by omega)]
 ·rw [Array.getElem?_setIfInBounds_ne (by omega)];exact h5
 ·rw [Array.getElem?_setIfInBounds_ne (by omega)];exact h6
 ·rw [Array.getElem?_setIfInBounds_ne (by omega)];exact h7
theorem setP (h:DecB w g f nd dp ng tr) (n:Int):DecB (w.setCell ⟨g,801,none⟩ (.int .i64 n)) g f nd n ng tr:=by
 obtain ⟨cs,h1,h2,h3,h4,h5,h6,h7⟩:=h.ex
 refine ⟨_,blk_set h1 801 _,by simp [h2],fun i hi=>?_,?_,?_,?_,?_⟩
 ·rw [Array.getElem?_setIfInBounds_ne (by omega)];exact h3 i hi
 ·rw [Array.getElem?_setIfInBounds_ne (by omega)];exact h4
 ·rw [Array.getElem?_setIfInBounds_self_of_lt (by omega)]
 ·rw [Array.getElem?_setIfInBounds_ne (by omega)];exact h6
 ·rw [Array.getElem?_setIfInBounds_ne (by omega)];exact h7
theorem setG (h:DecB w g f nd dp ng tr) (b:Bool):DecB (w.setCell ⟨g,802,none⟩ (.bool b)) g f nd dp b tr:=by
 obtain ⟨cs,h1,h2,h3,h4,h5,h6,h7⟩:=h.ex
 refine ⟨_,blk_set h1 802 _,by simp [h2],fun i hi=>?_,?_,?_,?_,?_⟩
 ·rw [Array.getElem?_setIfInBounds_ne (by omega)];exact h3 i hi
 ·rw [Array.getElem?_setIfInBounds_ne (by omega)];exact h4
 ·rw [Array.getElem?_setIfInBounds_ne (by omega)];exact h5
 ·rw [Array.getElem?_setIfInBounds_self_of_lt (by omega)]
 ·rw [Array.getElem?_setIfInBounds_ne (by omega)];exact h7
theorem setT (h:DecB w g f nd dp ng tr) (b:Bool):DecB (w.setCell ⟨g,803,none⟩ (.bool b)) g f nd dp ng b:=by
 obtain ⟨cs,h1,h2,h3,h4,h5,h6,h7⟩:=h.ex
 refine ⟨_,blk_set h1 803 _,by simp [h2],fun i hi=>?_,?_,?_,?_,?_⟩
 ·rw [Array.getElem?_setIfInBounds_ne (by omega)];exact h3 i hi
 ·rw [Array.getElem?_setIfInBounds_ne (by omega)];exact h4
 ·rw [Array.getElem?_setIfInBounds_ne (by omega)];exact h5
 ·rw [Array.getElem?_setIfInBounds_ne (by omega)];exact h6
 ·rw [Array.getElem?_setIfInBounds_self_of_lt (by omega)]
end DecB
abbrev OnlyG (g:Nat) (w w':World):Prop:=Only (fun k=>k=g) w w'
theorem onlyG_set {g:Nat} {w w':World} (h:OnlyG g w w') (j:Nat) (v:Value):OnlyG g w (w'.setCell ⟨g,j,none⟩ v):=Only.setCell h (.inl rfl) v
def trimN (f:Nat→Nat):Nat→Nat
 | 0=>0
 | n+1=>if f n=48 then trimN f n else n+1
theorem trimN_le (f:Nat→Nat):∀ n,trimN f n≤n
 | 0=>Nat.le_refl _
 | n+1=>by
  unfold trimN
  split
  ·have:=trimN_le f n;omega
  ·exact Nat.le_refl _
def TrimPost (w:World) (g:Nat) (f:Nat→Nat) (nd:Nat) (dp:Int) (ng tr:Bool) (e:Ending) (w':World):Prop:=
 e=.returned (.tuple #[])∧DecB w' g f (trimN f nd) (if trimN f nd=0 then 0 else dp) ng tr∧OnlyG g w w'
set_option maxHeartbeats 4000000 in
theorem trim_spec {w:World} {g nd:Nat} {f:Nat→Nat} {dp:Int} {ng tr:Bool} (h:DecB w g f nd dp ng tr) (hn:nd≤800) :
  Calls Tryz.prog 216 #[.pointer (some ⟨g,0,none⟩)] w (TrimPost w g f nd dp ng tr):=by
 have HH:=Lib.hid h
 clear h
 go_enter Tryz.func216,Tryz.ntmps216
 go_wp2_with fail
 go_loopg [] nd (fun mq wr=>mq≤nd∧DecB wr g f mq dp ng tr∧trimN f mq=trimN f nd∧OnlyG g w wr)
 case atStart=>exact ⟨Nat.le_refl _,HH.out,rfl,Only.refl _ _⟩
 case round=>
  obtain ⟨h1,h2,h3,h4⟩:=hrel
  have H2:=Lib.hid h2
  have H3:=Lib.hid h3
  have H4:=Lib.hid h4
  have c8:=h2.c800
  have f8:=h2.fz 800
  cases gk with
  | zero=>
   clear h2 h3 h4 h1 f8
   rw [Int.natCast_zero] at c8
   go_wp2
   go_quiet (fail)
   clear c8
   have D2:=Lib.hid (H2.out.drewN nq)
   have O2:=Lib.hid (H4.out.drewN nq)
   revert D2 O2
   generalize wr.drewN nq=w2
   intro D2 O2
   have e0:=H3.out
   have c8:=D2.out.c800
   rw [Int.natCast_zero] at c8
   have f8:=D2.out.fz 801
   have c81:=D2.out.c801
   go_wp2
   go_end0
   refine ⟨rfl,?_,onlyG_set O2.out 801 _⟩
   rw [←H3.out,if_pos (show trimN f 0=0 from rfl)]
   exact D2.out.setP 0
  | succ m=>
   have hm:m<800:=by omega
   have cd:=h2.d m hm
   have WS:IntKind.i64.wrap (((m+1:Nat):Int)-1)=(m:Int):=by rw [IntWalk.i64_in _ (by omega)];omega
   have b1:(0:Int)<((m+1:Nat):Int):=by omega
   have b2:(m:Int)<800:=by omega
   have HM:=Lib.hid h1
   clear h2 h3 h4 h1
   obtain ⟨v,hv⟩:∃ v,f m=v:=⟨_,rfl⟩
   rw [hv] at cd
   have HV:=Lib.hid hv
   clear hv
   by_cases hz:v=48
   ·rw [hz] at cd
    have HZ:=Lib.hid (HV.out.trans hz)
    clear hz
    go_wp2
    go_quiet (fail)
    go_wp2
    go_roundg m
    case measure=>omega
    case rel=>
     refine ⟨by have:=HM.out;omega,(H2.out.drewN nq).setN m,?_,onlyG_set (H4.out.drewN nq) 800 _⟩
     rw [←H3.out]
     show trimN f m=if f m=48 then trimN f m else m+1
     rw [if_pos HZ.out]
   ·have d1:¬(v:Int)=48:=by omega
    have HZ:Hid (¬f m=48):=Lib.hid (by rw [HV.out];exact hz)
    clear hz
    go_wp2
    go_quiet (fail)
    clear cd
    have b3:¬((m:Int)+1)=0:=by omega
    go_wp2
    go_end0
    have e:trimN f nd=m+1:=by
     rw [←H3.out]
     show (if f m=48 then trimN f m else m+1)=m+1
     rw [if_neg HZ.out]
    refine ⟨rfl,?_,H4.out.drewN nq⟩
    rw [e,if_neg (by omega)]
    exact H2.out.drewN nq
end Go.Proofs.YtkfggfjdplnkpaaGreatDoor
end
section
namespace Go.Proofs.YtkfggfjdplnkpaaGreatDoor
def valN (f:Nat→Nat):Nat→Nat
 | 0=>0
 | n+1=>valN f n*10+(f n-48)
def sufN (f:Nat→Nat) (n:Nat):Nat→Nat
 | 0=>0
 | j+1=>(f (n-(j+1))-48)*10 ^ j+sufN f n j
def dg (V j:Nat):Nat:=V/10 ^ j % 10
def Digs (f:Nat→Nat) (n:Nat):Prop:=∀ i,i<n→48≤f i∧f i≤57
theorem pow10_pos (n:Nat):0<10 ^ n:=Nat.pow_pos (by decide)
theorem valN_lt {f:Nat→Nat}:∀ {n:Nat},Digs f n→valN f n<10 ^ n
 | 0,_=>by simp [valN]
 | n+1,h=>by
  have h1:=valN_lt (f:=f) (n:=n) (fun i hi=>h i (by omega))
  have h2:=h n (by omega)
  show valN f n*10+(f n-48)<10 ^ (n+1)
  rw [Nat.pow_succ]
  omega
theorem sufN_lt {f:Nat→Nat} {n:Nat} (h:Digs f n):∀ {j:Nat},j≤n→sufN f n j<10 ^ j
 | 0,_=>by simp [sufN]
 | j+1,hj=>by
  have h1:=sufN_lt h (j:=j) (by omega)
  have h2:=h (n-(j+1)) (by omega)
  show (f (n-(j+1))-48)*10 ^ j+sufN f n j<10 ^ (j+1)
  have h3:(f (n-(j+1))-48)*10 ^ j≤9*10 ^ j:=Nat.mul_le_mul_right _ (by omega)
  rw [Nat.pow_succ]
  omega
theorem valN_split (f:Nat→Nat) (n:Nat):∀ j,j≤n→valN f n=valN f (n-j)*10 ^ j+sufN f n j
 | 0,_=>by simp [sufN]
 | j+1,hj=>by
  rw [valN_split f n j (by omega)]
  have e:n-j=(n-(j+1))+1:=by omega
  show valN f (n-j)*10 ^ j+sufN f n j=valN f (n-(j+1))*10 ^ (j+1)+((f (n-(j+1))-48)*10 ^ j+sufN f n j)
  rw [e]
  show (valN f (n-(j+1))*10+(f (n-(j+1))-48))*10 ^ j+sufN f n j=_
  rw [Nat.pow_succ,Nat.add_mul,Nat.mul_assoc,Nat.mul_comm 10 (10 ^ j)]
  omega
theorem sufN_all (f:Nat→Nat) (n:Nat):sufN f n n=valN f n:=by
 have:=valN_split f n n (Nat.le_refl _)
 rw [Nat.sub_self] at this
 simp [valN] at this
 omega
theorem valN_ge {f:Nat→Nat}:∀ {n:Nat},0<n→f 0≠48→48≤f 0→10 ^ (n-1)≤valN f n
 | 0,h,_,_=>absurd h (by omega)
 | 1,_,h0,h1=>by
  show 10 ^ 0≤0*10+(f 0-48)
  simp
  omega
 | n+2,_,h0,h1=>by
  have:=valN_ge (f:=f) (n:=n+1) (by omega) h0 h1
  show 10 ^ (n+1)≤valN f (n+1)*10+(f (n+1)-48)
  rw [Nat.pow_succ]
  have e:n+1-1=n:=by omega
  rw [e] at this
  omega
theorem valN_congr {f g:Nat→Nat}:∀ {n:Nat},(∀ i,i<n→f i=g i)→valN f n=valN g n
 | 0,_=>rfl
 | n+1,h=>by
  show valN f n*10+(f n-48)=valN g n*10+(g n-48)
  rw [valN_congr (fun i hi=>h i (by omega)),h n (by omega)]
theorem valN_less {f g:Nat→Nat} {i:Nat}:∀ {n:Nat},Digs f n→Digs g n→i<n→(∀ j,j<i→f j=g j)→f i<g i→valN f n<valN g n
 | 0,_,_,h,_,_=>absurd h (by omega)
 | n+1,hf,hg,hi,he,hl=>by
  show valN f n*10+(f n-48)<valN g n*10+(g n-48)
  have h1:=hf n (by omega)
  have h2:=hg n (by omega)
  by_cases hin:i=n
  ·subst hin
   rw [valN_congr he]
   omega
  ·have:=valN_less (f:=f) (g:=g) (i:=i) (n:=n) (fun i hi=>hf i (by omega)) (fun i hi=>hg i (by omega)) (by omega) he hl
   omega
theorem first_diff {f g:Nat→Nat}:∀ n:Nat,(∀ i,i<n→f i=g i)∨∃ i,i<n∧(∀ j,j<i→f j=g j)∧f i≠g i
 | 0=>.inl (fun i hi=>absurd hi (by omega))
 | n+1=>by
  rcases first_diff (f:=f) (g:=g) n with h | ⟨i,h1,h2,h3⟩
  ·by_cases e:f n=g n
   ·exact .inl (fun i hi=>by
     by_cases hin:i=n
     ·rw [hin];exact e
     ·exact h i (by omega))
   ·exact .inr ⟨n,by omega,h,e⟩
  ·exact .inr ⟨i,by omega,h2,h3⟩
theorem less_iff {f g:Nat→Nat} {n:Nat} (hf:Digs f n) (hg:Digs g n):valN f n<valN g n↔∃ i,i<n∧(∀ j,j<i→f j=g j)∧f i<g i:=by
 constructor
 ·intro h
  rcases first_diff (f:=f) (g:=g) n with e | ⟨i,h1,h2,h3⟩
  ·rw [valN_congr e] at h;omega
  ·refine ⟨i,h1,h2,?_⟩
   rcases Nat.lt_or_ge (f i) (g i) with h4 | h4
   ·exact h4
   ·have:=valN_less (f:=g) (g:=f) hg hf h1 (fun j hj=>(h2 j hj).symm) (by omega)
    omega
 ·rintro ⟨i,h1,h2,h3⟩
  exact valN_less hf hg h1 h2 h3
def pad (f:Nat→Nat) (n i:Nat):Nat:=if i<n then f i else 48
theorem pad_digs {f:Nat→Nat} {n:Nat} (h:Digs f n) (m:Nat):Digs (pad f n) m:=fun i hi=>by
 unfold pad
 split
 ·exact h i ‹_›
 ·omega
theorem valN_pad (f:Nat→Nat) (n:Nat):∀ k,valN (pad f n) (n+k)=valN f n*10 ^ k
 | 0=>by
  rw [Nat.pow_zero,Nat.mul_one]
  exact valN_congr (fun i hi=>by unfold pad;exact if_pos hi)
 | k+1=>by
  show valN (pad f n) (n+k)*10+(pad f n (n+k)-48)=_
  rw [valN_pad f n k]
  have:pad f n (n+k)=48:=by unfold pad;rw [if_neg (by omega)]
  rw [this,Nat.pow_succ,Nat.mul_assoc]
  rfl
def Less (f:Nat→Nat) (nd:Nat) (t:Nat→Nat) (m:Nat):Prop:=∃ i,i<m∧(∀ j,j<i→j<nd∧f j=t j)∧(nd≤i∨f i<t i)
theorem less_val {f t:Nat→Nat} {nd m:Nat} (hf:Digs f nd) (ht:Digs t m) (hm:0<m) (hl:t (m-1)≠48) :
  Less f nd t m↔valN f nd*10 ^ m<valN t m*10 ^ nd:=by
 have e1:valN (pad f nd) (nd+m)=valN f nd*10 ^ m:=valN_pad f nd m
 have e2:valN (pad t m) (nd+m)=valN t m*10 ^ nd:=by rw [Nat.add_comm];exact valN_pad t m nd
 rw [←e1,←e2,less_iff (pad_digs hf _) (pad_digs ht _)]
 constructor
 ·rintro ⟨i,h1,h2,h3⟩
  by_cases hi:i<nd
  ·refine ⟨i,by omega,fun j hj=>?_,?_⟩
   ·obtain ⟨h4,h5⟩:=h2 j hj
    unfold pad
    rw [if_pos h4,if_pos (by omega),h5]
   ·unfold pad
    rw [if_pos hi,if_pos h1]
    rcases h3 with h3 | h3
    ·omega
    ·exact h3
  ·-- the text ends: a digit of the other that is none 0 follows
   have hnd:i=nd:=by
    rcases Nat.lt_or_ge nd i with h4 | h4
    ·have:=(h2 nd h4).1;omega
    ·omega
   subst hnd
   rcases first_diff (f:=pad f i) (g:=pad t m) m with e | ⟨k,h4,h5,h6⟩
   ·have:=e (m-1) (by omega)
    unfold pad at this
    rw [if_neg (by omega),if_pos (by omega)] at this
    exact absurd this.symm hl
   ·refine ⟨k,by omega,h5,?_⟩
    have h7:i≤k:=by
     rcases Nat.lt_or_ge k i with h8 | h8
     ·have:=h2 k h8
      exfalso
      apply h6
      unfold pad
      rw [if_pos h8,if_pos h4,this.2]
     ·exact h8
    have h8:=ht k h4
    unfold pad at h6 ⊢
    rw [if_neg (by omega),if_pos h4] at h6 ⊢
    omega
 ·rintro ⟨i,h1,h2,h3⟩
  have him:i<m:=by
   rcases Nat.lt_or_ge i m with h | h
   ·exact h
   ·have:pad t m i=48:=by unfold pad;rw [if_neg (by omega)]
    have h4:=pad_digs hf (nd+m) i h1
    omega
  by_cases hi:i≤nd
  ·refine ⟨i,him,fun j hj=>⟨by omega,?_⟩,?_⟩
   ·have:=h2 j hj
    unfold pad at this
    rw [if_pos (by omega),if_pos (by omega)] at this
    exact this
   ·by_cases hin:i=nd
    ·exact .inl (by omega)
    ·unfold pad at h3
     rw [if_pos (by omega),if_pos him] at h3
     exact .inr h3
  ·refine ⟨nd,by omega,fun j hj=>⟨hj,?_⟩,.inl (Nat.le_refl _)⟩
   have:=h2 j (by omega)
   unfold pad at this
   rw [if_pos hj,if_pos (by omega)] at this
   exact this
def dlt (k:Nat):Nat:=if k=0 then 0 else k*30103/100000+1
def len5 (k:Nat):Nat:=k+1-dlt k
theorem dlt_bounds:∀ k:Fin 61,0<k.val→10 ^ (dlt k.val-1)≤2 ^ k.val∧2 ^ k.val<10 ^ dlt k.val∧1≤dlt k.val∧dlt k.val≤k.val:=by decide
theorem less_two {f t:Nat→Nat} {nd k:Nat} (hf:Digs f nd) (hk:0<k) (hk2:k≤60) (ht:Digs t (len5 k)) (hv:valN t (len5 k)=5 ^ k) (hl:t (len5 k-1)≠48) (hn:0<nd) :
  Less f nd t (len5 k)↔valN f nd*2 ^ k<10 ^ (nd+dlt k-1):=by
 have hb:=dlt_bounds ⟨k,by omega⟩ hk
 dsimp only at hb
 rw [less_val hf ht (by unfold len5;omega) hl,hv]
 have e:(10:Nat) ^ k=2 ^ k*5 ^ k:=by rw [←Nat.mul_pow]
 have e2:10 ^ (nd+dlt k-1)*10 ^ len5 k=10 ^ nd*10 ^ k:=by
  rw [←Nat.pow_add,←Nat.pow_add]
  congr 1
  unfold len5
  omega
 have h5:0<5 ^ k:=Nat.pow_pos (by decide)
 have h2:0<2 ^ k:=Nat.pow_pos (by decide)
 constructor
 ·intro h
  have h1:valN f nd*10 ^ len5 k*2 ^ k<5 ^ k*10 ^ nd*2 ^ k:=Nat.mul_lt_mul_of_pos_right h h2
  have h3:valN f nd*2 ^ k*10 ^ len5 k<10 ^ (nd+dlt k-1)*10 ^ len5 k:=by
   rw [e2,e]
   calc valN f nd*2 ^ k*10 ^ len5 k=valN f nd*10 ^ len5 k*2 ^ k:=by rw [Nat.mul_assoc,Nat.mul_comm (2 ^ k),←Nat.mul_assoc]
    _<5 ^ k*10 ^ nd*2 ^ k:=h1
    _=10 ^ nd*(2 ^ k*5 ^ k):=by rw [Nat.mul_comm (5 ^ k),Nat.mul_assoc,Nat.mul_comm (5 ^ k)]
  exact Nat.lt_of_mul_lt_mul_right h3
 ·intro h
  have h3:valN f nd*2 ^ k*10 ^ len5 k<10 ^ (nd+dlt k-1)*10 ^ len5 k:=Nat.mul_lt_mul_of_pos_right h (pow10_pos _)
  rw [e2,e] at h3
  have h4:valN f nd*10 ^ len5 k*2 ^ k<5 ^ k*10 ^ nd*2 ^ k:=by
   calc valN f nd*10 ^ len5 k*2 ^ k=valN f nd*2 ^ k*10 ^ len5 k:=by rw [Nat.mul_assoc,Nat.mul_comm (10 ^ len5 k),←Nat.mul_assoc]
    _<10 ^ nd*(2 ^ k*5 ^ k):=h3
    _=5 ^ k*10 ^ nd*2 ^ k:=by rw [Nat.mul_comm (5 ^ k),Nat.mul_assoc,Nat.mul_comm (5 ^ k)]
  exact Nat.lt_of_mul_lt_mul_right h4
end Go.Proofs.YtkfggfjdplnkpaaGreatDoor
end
