/- A part of the proof that the law FnDecodeValues returns true; its conditions are those of the last part. -/
import Derived.Below
import Derived.Deep.Draws
import Derived.Deep.AppendLies
import Derived.Maps.AppendAt
import Derived.OwnWalk
import Derived.Laws.BytesArg
import Derived.Laws.MakeOwn
import Derived.Laws.OwnMore
import Derived.Deep.OwnRows
import Derived.Tactics
import Derived.Lib.ConvBytes
import Derived.Laws.Slices
import Derived.WalkKit
import Derived.KernelRfl
import Derived.RowKit3
import Derived.Deep.LoopGhost
import Derived.Deep.QuietTactic
import Derived.BigQuiet
import Derived.WideLaws
import Derived.Deep.DeepCutAuto
import Derived.Deep.CutBlock
import Derived.Deep.RegionHeld3
import Derived.Laws.Rows
import Derived.Lib.AppendStr
import Derived.ArgAppend
import Derived.Laws.IdiomCopy
import Derived.RowKit
import Derived.Test.YtkfggfjdplnkpaaGreatDoorVWLast
import Derived.Laws.StructEq
set_option maxRecDepth 100000
set_option linter.unusedVariables false
set_option linter.unusedSimpArgs false
section
namespace Go.Proofs.YtkfggfjdplnkpaaGreatDoorW.PrintWords
open Go.RowKit
structure Aside0 (p:Prop):Prop where mk::(out:p)
structure Drawn0 (w w':World):Prop where mk::(out:∃ n,w'=w.drewN n)
theorem Drawn0.refl (w:World):Drawn0 w w:=⟨⟨0,rfl⟩⟩
theorem Drawn0.step {w w':World} (h:Drawn0 w w') (n:Nat):Drawn0 w (w'.drewN n):=by
 obtain ⟨m,rfl⟩:=h
 exact ⟨⟨m+n,World.drewN_drewN ..⟩⟩
theorem Drawn0.below {w w':World} (h:Drawn0 w w'):Below w.heap.size w w':=by
 obtain ⟨n,rfl⟩:=h
 induction n with
 | zero=>exact Below.refl _ _
 | succ n ih=>rw [←World.drew_drewN];exact ih.drew
def rd (xs:List Int) (i:Int):Int:=xs.getD i.toNat 0
def nums (k:IntKind) (xs:List Int):List Value:=xs.map fun x=>.int k x
theorem below_alloc {w W:World} (h:Below w.heap.size w W) (o:Obj):Below w.heap.size w (W.alloc o):=h.alloc h.size o
theorem pw_below_drewN {B:Nat} {w W:World} (h:Below B w W) (n:Nat):Below B w (W.drewN n):=⟨h.os,h.tape,h.output,h.size,h.block⟩
theorem grown_of_below {w w1:World} (h:Below w.heap.size w w1) (row:Option Nat):w.grownBy w1 row:=⟨h.os,h.tape,h.output,h.size,fun i hi _=>h.block i hi⟩
theorem pw_cell_below {w w1:World} (h:Below w.heap.size w w1) {a:Addr} {v:Value} (hc:w.cell? a=some v):w1.cell? a=some v:=(h.cell (World.block_lt_of_cell? w a hc)).trans hc
def ReadsInt (w:World) (k:IntKind) (A:Option Addr) (n:Nat) (xs:List Int):Prop:=
 xs.length=n∧n≤9223372036854775807∧(0<n→∃ ad,A=some ad∧∀ j,j<n→w.cell? (ad.add j)=some (.int k (xs.getD j 0)))
theorem ReadsInt.below {w w1:World} {k:IntKind} {A:Option Addr} {n:Nat} {xs:List Int} (h:ReadsInt w k A n xs) (hb:Below w.heap.size w w1):ReadsInt w1 k A n xs:=
 ⟨h.1,h.2.1,fun hn=>by
  obtain ⟨ad,e,hc⟩:=h.2.2 hn
  exact ⟨ad,e,fun j hj=>pw_cell_below hb (hc j hj)⟩⟩
theorem pw_own_below {w w1:World} {base:Nat} {e:TypeId} {size n:Nat} {v:Value} {xs:List Value} (h:w.ownsRow base e size v n xs) (hb:Below w.heap.size w w1):w1.ownsRow base e size v n xs:=
 h.kept (grown_of_below hb none) (by cases v.ownBlock <;> simp)
theorem own_slice {w:World} {base n:Nat} {e:TypeId} {size:Nat} {v:Value} {xs:List Value} (h:w.ownsRow base e size v n xs):∃ A c,v=.slice A n c:=by
 rcases h.2 with ⟨rfl,rfl⟩ | ⟨g,cap,cur,rfl,_⟩
 ·exact ⟨none,0,rfl⟩
 ·exact ⟨_,cap,rfl⟩
theorem bytes_below {B:Nat} {w W:World} (h:Below B w W) (hB:B≤W.heap.size) (e:TypeId) (s:ByteArray):Below B w (Lib.bytesWorld W e s):=
 h.trans ⟨rfl,rfl,rfl,by rw [Lib.bytesWorld_size];omega,fun i hi=>Lib.bytesWorld_at_old W e s i (by omega)⟩
theorem ReadsInt.take_ {w:World} {k:IntKind} {A:Option Addr} {n:Nat} {xs:List Int} (h:ReadsInt w k A n xs) (i:Nat) (hi:i≤n):ReadsInt w k A i (xs.take i):=by
 refine ⟨by rw [List.length_take,h.1];omega,by have:=h.2.1;omega,fun hp=>?_⟩
 obtain ⟨ad,e,hc⟩:=h.2.2 (by omega)
 refine ⟨ad,e,fun j hj=>?_⟩
 rw [hc j (by omega)]
 simp [List.getD_eq_getElem?_getD,hj]
def Reps {α:Type} (R:α→List Value→Prop) (size:Nat) (ps:List α) (cs:List Value):Prop:=
 cs.length=ps.length*size∧∀ j p,ps[j]?=some p→R p ((cs.drop (j*size)).take size)
def ReadsRow {α:Type} (R:α→List Value→Prop) (size:Nat) (w:World) (A:Option Addr) (n:Nat) (ps:List α):Prop:=
 ps.length=n∧n≤9223372036854775807∧(0<n→∃ ad,A=some ad∧∀ j p,ps[j]?=some p→∃ c,c.length=size∧R p c∧∀ i u,c[i]?=some u→w.cell? (ad.add (j*size+i))=some u)
theorem own_ne {w:World} {base:Nat} {e t:TypeId} {size n g:Nat} {v:Value} {xs:List Value} {cs:Array Value} (h:w.ownsRow base e size v n xs) (hg:w.heap[g]?=some (.cells cs t (0,0))) (hne:e≠t):some g≠v.ownBlock:=by
 rcases h.2 with ⟨rfl,_⟩ | ⟨g',cap,cur,rfl,_,hh,_⟩
 ·simp [Value.ownBlock]
 ·intro he
  have:g=g':=by simpa [Value.ownBlock] using he
  subst this
  rw [hg] at hh
  injection hh with hh
  injection hh with _ ht
  exact hne ht.symm
theorem blk_set {w:World} {g:Nat} {t:TypeId} {cs:Array Value} (h:w.heap[g]?=some (.cells cs t (0,0))) (i:Nat) (u:Value):(w.setCell ⟨g,i,none⟩ u).heap[g]?=some (.cells (cs.setIfInBounds i u) t (0,0)):=by
 simp [World.setCell,Array.getElem?_modify,h]
theorem blk_lt {w:World} {g:Nat} {o:Obj} (h:w.heap[g]?=some o):g<w.heap.size:=(Array.getElem?_eq_some_iff.1 h).1
theorem blk_cell {w:World} {g:Nat} {t:TypeId} {cs:Array Value} (h:w.heap[g]?=some (.cells cs t (0,0))) (i:Nat):w.cell? ⟨g,i,none⟩=cs[i]?:=cell_of_row w g i cs t (0,0) h
theorem blk_frozen {w:World} {g:Nat} {t:TypeId} {cs:Array Value} (h:w.heap[g]?=some (.cells cs t (0,0))) (i:Nat):w.frozen? ⟨g,i,none⟩=false:=by simp [World.frozen?,h]
def KeepBut (w w':World) (g:Nat) (row:Option Nat):Prop:=w.heap.size≤w'.heap.size∧∀ i,i<w.heap.size→i≠g→some i≠row→w'.heap[i]?=w.heap[i]?
theorem KeepBut.blk {w w1:World} {g g':Nat} {row:Option Nat} {o:Obj} (h:KeepBut w w1 g row) (hb:w.heap[g']?=some o) (hg:g'≠g) (hr:some g'≠row):w1.heap[g']?=some o:=(h.2 g' (blk_lt hb) hg hr).trans hb
theorem KeepBut.own {w w1:World} {g:Nat} {row:Option Nat} {base:Nat} {e:TypeId} {size n:Nat} {v:Value} {xs:List Value} (h:KeepBut w w1 g row) (ho:w.ownsRow base e size v n xs) (hg:v.ownBlock≠some g) (hr:v.ownBlock=none∨v.ownBlock≠row):w1.ownsRow base e size v n xs:=by
 obtain ⟨h1,h2⟩:=ho
 refine ⟨h1,?_⟩
 rcases h2 with h2 | ⟨b,cap,cur,rfl,hb,hh,r⟩
 ·exact .inl h2
 ·refine .inr ⟨b,cap,cur,rfl,hb,h.blk hh ?_ ?_,r⟩
  ·intro e
   exact hg (by rw [←e];rfl)
  ·rcases hr with hr | hr
   ·simp [Value.ownBlock] at hr
   ·exact hr
def Ev {α:Type} (g:Nat→Option α) (r:α):Prop:=∃ K,∀ k,K≤k→g k=some r
theorem Ev.congr {α:Type} {g f:Nat→Option α} {r:α} (h:∀ k,g k=f k) (k:Ev f r):Ev g r:=by
 obtain ⟨K,k⟩:=k
 exact ⟨K,fun n hn=>(h n).trans (k n hn)⟩
section
variable {α:Type} {enc:α→Value} {d:α}
def rdOf (d:α) (xs:List α) (i:Int):α:=xs.getD i.toNat d
def ReadsOf (enc:α→Value) (d:α) (w:World) (A:Option Addr) (n:Nat) (xs:List α):Prop:=
 xs.length=n∧n≤9223372036854775807∧(0<n→∃ ad,A=some ad∧∀ j,j<n→w.cell? (ad.add j)=some (enc (xs.getD j d)))
theorem ReadsOf.at_ {w:World} {A:Option Addr} {n:Nat} {xs:List α} (h:ReadsOf enc d w A n xs) (i:Int) (h0:0≤i) (h1:i<n):∃ ad,A=some ad∧w.cell? (ad.add i.toNat)=some (enc (rdOf d xs i)):=by
 obtain ⟨ad,e,hc⟩:=h.2.2 (by omega)
 exact ⟨ad,e,hc _ (by omega)⟩
theorem ReadsOf.below {w w1:World} {A:Option Addr} {n:Nat} {xs:List α} (h:ReadsOf enc d w A n xs) (hb:Below w.heap.size w w1):ReadsOf enc d w1 A n xs:=
 ⟨h.1,h.2.1,fun hn=>by
  obtain ⟨ad,e,hc⟩:=h.2.2 hn
  exact ⟨ad,e,fun j hj=>pw_cell_below hb (hc j hj)⟩⟩
theorem ReadsOf.take_ {w:World} {A:Option Addr} {n:Nat} {xs:List α} (h:ReadsOf enc d w A n xs) (i:Nat) (hi:i≤n):ReadsOf enc d w A i (xs.take i):=by
 refine ⟨by rw [List.length_take,h.1];omega,by have:=h.2.1;omega,fun hp=>?_⟩
 obtain ⟨ad,e,hc⟩:=h.2.2 (by omega)
 refine ⟨ad,e,fun j hj=>?_⟩
 rw [hc j (by omega)]
 simp [List.getD_eq_getElem?_getD,hj]
end
theorem blk_new (w:World) (o:Obj):(w.alloc o).heap[w.heap.size]?=some o:=heap_alloc_new w o
def OwnRow {α:Type} (R:α→List Value→Prop) (e:TypeId) (size:Nat) (w:World) (base:Nat) (v:Value) (ps:List α):Prop:=
 ∃ inner,w.ownsRow base e size v ps.length inner∧Reps R size ps inner
section
variable {α:Type} {R R':α→List Value→Prop} {e:TypeId} {size:Nat} {w w1:World} {base:Nat} {v:Value} {ps:List α}
theorem OwnRow.below (h:OwnRow R e size w base v ps) (hb:Below w.heap.size w w1):OwnRow R e size w1 base v ps:=by
 obtain ⟨inner,ho,hr⟩:=h
 exact ⟨inner,pw_own_below ho hb,hr⟩
theorem OwnRow.keep (h:OwnRow R e size w base v ps) {g:Nat} {t:TypeId} {cells:Array Value} (hb:w.heap[g]?=some (.cells cells t (0,0))) (ht:e≠t) (hk:KeepBut w w1 g none):OwnRow R e size w1 base v ps:=by
 obtain ⟨inner,ho,hr⟩:=h
 exact ⟨inner,hk.own ho (Ne.symm (own_ne ho hb ht)) (by cases v.ownBlock <;> simp),hr⟩
end
structure Kd (α:Type) where
 sz:Nat
 E:List Nat
 K:World→α→List Value→Prop
 M:World→Nat→(Nat→Prop)→α→List Value→Prop
 K_len:∀ {w x cs},K w x cs→cs.length=sz
 K_one:∀ {w x cs},K w x cs→∀ u∈cs,u.oneCell'=true
 K_below:∀ {w w1:World} {x cs},Below w.heap.size w w1→K w x cs→K w1 x cs
 K_of_M:∀ {w base ok x cs},M w base ok x cs→K w x cs
 M_mono:∀ {w base ok ok' x cs},(∀ k,ok k→ok' k)→M w base ok x cs→M w base ok' x cs
 M_bound:∀ {w:World} {base ok x cs},M w base ok x cs→M w base (fun k=>ok k∧base≤k∧k<w.heap.size∧∃ q,q∈E∧∃ cells,w.heap[k]?=some (.cells cells q (0,0))) x cs
 M_move:∀ {w w1:World} {base ok x cs},(∀ k,ok k→w1.heap[k]?=w.heap[k]?)→M w base ok x cs→M w1 base ok x cs
 M_lower:∀ {w base base' ok x cs},base'≤base→M w base ok x cs→M w base' ok x cs
namespace Kd
def C {α:Type} (d:Kd α) (w:World) (A:Option Addr) (n:Nat) (xs:List α):Prop:=ReadsRow (d.K w) d.sz w A n xs
def scalar {α:Type} (enc:α→Value) (h1:∀ x,(enc x).oneCell'=true):Kd α where
 sz:=1
 E:=[]
 K:=fun _ x cs=>cs=[enc x]
 M:=fun _ _ _ x cs=>cs=[enc x]
 K_len:=fun h=>by rw [h];rfl
 K_one:=fun h u hu=>by
  rw [h] at hu
  rw [List.mem_singleton.1 hu]
  exact h1 _
 K_below:=fun _ h=>h
 K_of_M:=fun h=>h
 M_mono:=fun _ h=>h
 M_bound:=fun h=>h
 M_move:=fun _ h=>h
 M_lower:=fun _ h=>h
def int (k:IntKind):Kd Int:=scalar (Value.int k) (fun _=>rfl)
theorem reads_of_C {α:Type} {enc:α→Value} {d:α} {h1:∀ x,(enc x).oneCell'=true} {w:World} {A:Option Addr} {n:Nat} {xs:List α} (h:(scalar enc h1).C w A n xs):ReadsOf enc d w A n xs:=by
 refine ⟨h.1,h.2.1,fun hn=>?_⟩
 obtain ⟨ad,e,hc⟩:=h.2.2 hn
 refine ⟨ad,e,fun j hj=>?_⟩
 have hl:j<xs.length:=by have:=h.1;omega
 obtain ⟨c,_,hK,hcell⟩:=hc j _ (List.getElem?_eq_getElem hl)
 have hK':c=[enc xs[j]]:=hK
 subst hK'
 have:=hcell 0 _ rfl
 simpa [scalar,List.getD_eq_getElem?_getD,List.getElem?_eq_getElem hl] using this
end Kd
namespace Kd
section
variable {w W:World} {A:Option Addr} {n:Nat}
theorem at_int {k:IntKind} {xs:List Int} (h:(Kd.int k).C w A n xs) (i:Int) (h0:0≤i) (h1:i<n):∃ ad,A=some ad∧w.cell? (ad.add i.toNat)=some (.int k (rd xs i)):=
 ReadsOf.at_ (reads_of_C (enc:=Value.int k) (d:=(0:Int)) (h1:=fun _=>rfl) h) i h0 h1
variable {α:Type} {enc:α→Value} {h1:∀ x,(enc x).oneCell'=true} {e base g cap:Nat} {ok:Nat→Prop} {xs:List α}
end
end Kd
theorem ReadsInt.drewN {W:World} {k:IntKind} {A:Option Addr} {n:Nat} {xs:List Int} (h:ReadsInt W k A n xs) (m:Nat):ReadsInt (W.drewN m) k A n xs:=h
theorem keep_cell {w W:World} {g:Nat} (h:KeepBut w W g none) {a:Addr} {v:Value} (hc:w.cell? a=some v) (hne:a.block≠g):W.cell? a=some v:=by
 have:=h.2 a.block (World.block_lt_of_cell? w a hc) hne (by simp)
 simpa [World.cell?,this] using hc
theorem add_block (a:Addr) (i:Nat):(a.add i).block=a.block:=by unfold Addr.add; split <;> rfl
theorem ReadsOf.drewN {α:Type} {enc:α→Value} {d:α} {W:World} {A:Option Addr} {n:Nat} {xs:List α} (h:ReadsOf enc d W A n xs) (m:Nat):ReadsOf enc d (W.drewN m) A n xs:=h
theorem ReadsInt.keep {w W:World} {k:IntKind} {A:Option Addr} {n g:Nat} {xs:List Int} (h:ReadsInt w k A n xs) (hk:KeepBut w W g none) (hf:∀ ad,A=some ad→0<n→ad.block≠g):ReadsInt W k A n xs:=
 ⟨h.1,h.2.1,fun hn=>by
  obtain ⟨ad,e,hc⟩:=h.2.2 hn
  exact ⟨ad,e,fun j hj=>keep_cell hk (hc j hj) (by rw [add_block];exact hf ad e hn)⟩⟩
theorem ReadsOf.keep {α:Type} {enc:α→Value} {d:α} {w W:World} {A:Option Addr} {n g:Nat} {xs:List α} (h:ReadsOf enc d w A n xs) (hk:KeepBut w W g none) (hf:∀ ad,A=some ad→0<n→ad.block≠g):ReadsOf enc d W A n xs:=
 ⟨h.1,h.2.1,fun hn=>by
  obtain ⟨ad,e,hc⟩:=h.2.2 hn
  exact ⟨ad,e,fun j hj=>keep_cell hk (hc j hj) (by rw [add_block];exact hf ad e hn)⟩⟩
inductive Vals (P:Program) (tmps:Array Value) (w:World):List ResultVar→List Value→Prop where
 | nil:Vals P tmps w [] []
 | tmp {u:Tmp} {rs:List ResultVar} {vs:List Value} (h:Vals P tmps w rs vs):Vals P tmps w (.tmp u::rs) (tmps.getD u undef::vs)
 | cell {p:Tmp} {ty:TypeId} {rs:List ResultVar} {vs:List Value} (g:Nat) (t:TypeId) (cs:Array Value) (fr:Nat × Nat) (d:TypeDesc)
   (hp:tmps.getD p undef=.pointer (some ⟨g,0,none⟩)) (hg:w.heap[g]?=some (.cells cs t fr))
   (hu:P.underlying ty=some d) (hd:(match d with | .struct _ | .array _ _=>true | _=>false)=true) (hi:(P.info? ty).map (·.size)=some cs.size)
   (h:Vals P tmps w rs vs):Vals P tmps w (.cell p ty::rs) (.agg cs::vs)
end Go.Proofs.YtkfggfjdplnkpaaGreatDoorW.PrintWords
end
section
namespace Go.Proofs.YtkfggfjdplnkpaaGreatDoorW.PrintWords
open Go.RowKit
namespace Kd
structure Heap {α:Type} (d:Kd α):Prop where
 K:∀ {w w1:World} {x:α} {cs:List Value},(∀ k,k<w.heap.size→w1.heap[k]?=w.heap[k]?)→d.K w x cs→d.K w1 x cs
theorem cell_heap {w w1:World} (hb:∀ k,k<w.heap.size→w1.heap[k]?=w.heap[k]?) {a:Addr} {v:Value} (h:w.cell? a=some v):w1.cell? a=some v:=by
 have:=hb a.block (World.block_lt_of_cell? w a h)
 simpa [World.cell?,this] using h
theorem Heap.C {α:Type} {d:Kd α} (hd:Heap d) {w w1:World} {A:Option Addr} {n:Nat} {xs:List α} (hb:∀ k,k<w.heap.size→w1.heap[k]?=w.heap[k]?) (h:d.C w A n xs):d.C w1 A n xs:=
 ⟨h.1,h.2.1,fun hn=>by
  obtain ⟨ad,e,hc⟩:=h.2.2 hn
  refine ⟨ad,e,fun j p hj=>?_⟩
  obtain ⟨c,hs,hr,hcell⟩:=hc j p hj
  exact ⟨c,hs,hd.K hb hr,fun i u hu=>cell_heap hb (hcell i u hu)⟩⟩
end Kd
end Go.Proofs.YtkfggfjdplnkpaaGreatDoorW.PrintWords
end
section
namespace Go.Proofs.YtkfggfjdplnkpaaGreatDoorW.PrintWords
open Go.RowKit
def Kept (w W:World) (S:Nat→Prop):Prop:=w.heap.size≤W.heap.size∧∀ i,i<w.heap.size→¬S i→W.heap[i]?=w.heap[i]?
section
variable {w W W2:World} {S S2 S':Nat→Prop}
theorem Kept.of_below (h:Below w.heap.size w W) (S:Nat→Prop):Kept w W S:=⟨h.size,fun i hi _=>h.block i hi⟩
theorem Kept.then_ (h:Kept w W S) (k:Kept W W2 S2) (hs:∀ k,S2 k→S k∨w.heap.size≤k):Kept w W2 S:=
 ⟨Nat.le_trans h.1 k.1,fun i hi hn=>(k.2 i (Nat.lt_of_lt_of_le hi h.1) (fun h2=>(hs i h2).elim hn (fun h3=>by omega))).trans (h.2 i hi hn)⟩
theorem Kept.below (h:Kept w W S) (hb:Below W.heap.size W W2):Kept w W2 S:=h.then_ (Kept.of_below hb (fun _=>False)) (fun _ hk=>hk.elim)
theorem Kept.drewN (h:Kept w W S) (m:Nat):Kept w (W.drewN m) S:=h
theorem Kept.keep {g:Nat} (h:KeepBut w W g none) (k:Kept W W2 S2) (hs:∀ k,S2 k→w.heap.size≤k):KeepBut w W2 g none:=
 ⟨Nat.le_trans h.1 k.1,fun i hi hg hr=>(k.2 i (Nat.lt_of_lt_of_le hi h.1) (fun h2=>by have:=hs i h2;omega)).trans (h.2 i hi hg hr)⟩
end
end Go.Proofs.YtkfggfjdplnkpaaGreatDoorW.PrintWords
end
section
namespace Go.Proofs.YtkfggfjdplnkpaaGreatDoorW.PrintWords
theorem Reps.front {α:Type} {R:α→List Value→Prop} {size:Nat} {ps:List α} {cs c all:List Value} {p:α} (hp:R p c) (hc:c.length=size) (h:Reps R size ps cs) (ha:c++cs=all):Reps R size (p::ps) all:=by
 subst ha
 refine ⟨by rw [List.length_append,hc,h.1,List.length_cons,Nat.succ_mul,Nat.add_comm],fun j q hq=>?_⟩
 cases j with
 | zero=>
  simp only [List.getElem?_cons_zero,Option.some.injEq] at hq
  subst hq
  rw [Nat.zero_mul,List.drop_zero,List.take_append_of_le_length (by omega),List.take_of_length_le (by omega)]
  exact hp
 | succ j=>
  simp only [List.getElem?_cons_succ] at hq
  have h1:=h.2 j q hq
  rw [Nat.succ_mul,List.drop_append,List.drop_of_length_le (by rw [hc];exact Nat.le_add_left _ _),List.nil_append,hc,Nat.add_sub_cancel]
  exact h1
theorem Reps.c2 {α:Type} {R:α→List Value→Prop} {ps:List α} {cs:List Value} {p:α} {va vb:Value} (hp:R p [va,vb]) (h:Reps R 2 ps cs):Reps R 2 (p::ps) (va::vb::cs):=Reps.front hp rfl h rfl
theorem Reps.c3 {α:Type} {R:α→List Value→Prop} {ps:List α} {cs:List Value} {p:α} {va vb vc:Value} (hp:R p [va,vb,vc]) (h:Reps R 3 ps cs):Reps R 3 (p::ps) (va::vb::vc::cs):=Reps.front hp rfl h rfl
theorem Reps.c4 {α:Type} {R:α→List Value→Prop} {ps:List α} {cs:List Value} {p:α} {va vb vc vd:Value} (hp:R p [va,vb,vc,vd]) (h:Reps R 4 ps cs):Reps R 4 (p::ps) (va::vb::vc::vd::cs):=Reps.front hp rfl h rfl
theorem Reps.c5 {α:Type} {R:α→List Value→Prop} {ps:List α} {cs:List Value} {p:α} {va vb vc vd ve:Value} (hp:R p [va,vb,vc,vd,ve]) (h:Reps R 5 ps cs):Reps R 5 (p::ps) (va::vb::vc::vd::ve::cs):=Reps.front hp rfl h rfl
theorem Reps.c6 {α:Type} {R:α→List Value→Prop} {ps:List α} {cs:List Value} {p:α} {va vb vc vd ve vf:Value} (hp:R p [va,vb,vc,vd,ve,vf]) (h:Reps R 6 ps cs):Reps R 6 (p::ps) (va::vb::vc::vd::ve::vf::cs):=Reps.front hp rfl h rfl
theorem Reps.c7 {α:Type} {R:α→List Value→Prop} {ps:List α} {cs:List Value} {p:α} {va vb vc vd ve vf vg:Value} (hp:R p [va,vb,vc,vd,ve,vf,vg]) (h:Reps R 7 ps cs):Reps R 7 (p::ps) (va::vb::vc::vd::ve::vf::vg::cs):=Reps.front hp rfl h rfl
theorem Reps.c8 {α:Type} {R:α→List Value→Prop} {ps:List α} {cs:List Value} {p:α} {va vb vc vd ve vf vg vh:Value} (hp:R p [va,vb,vc,vd,ve,vf,vg,vh]) (h:Reps R 8 ps cs):Reps R 8 (p::ps) (va::vb::vc::vd::ve::vf::vg::vh::cs):=Reps.front hp rfl h rfl
theorem Reps.c9 {α:Type} {R:α→List Value→Prop} {ps:List α} {cs:List Value} {p:α} {va vb vc vd ve vf vg vh vi:Value} (hp:R p [va,vb,vc,vd,ve,vf,vg,vh,vi]) (h:Reps R 9 ps cs):Reps R 9 (p::ps) (va::vb::vc::vd::ve::vf::vg::vh::vi::cs):=Reps.front hp rfl h rfl
end Go.Proofs.YtkfggfjdplnkpaaGreatDoorW.PrintWords
end
section
namespace Go.Proofs.YtkfggfjdplnkpaaGreatDoorW.PrintWords
open Go.RowKit
section
variable {P:Program} {ops:Array Oper} {rest:List Oper} {o:Oper} {a:Act} {Q:Exit→Act→World→Prop} {W:World}
theorem gate_callee {f:FuncId} {as:Array Operand} {ts:Array TypeId} (_ho:o.op=.call { callee:=.value (.func f),args:=as,argTypes:=ts }) (h:wpList P ops Q (o::rest) a W):wpList P ops Q (o::rest) a W:=h
end
end Go.Proofs.YtkfggfjdplnkpaaGreatDoorW.PrintWords
end
