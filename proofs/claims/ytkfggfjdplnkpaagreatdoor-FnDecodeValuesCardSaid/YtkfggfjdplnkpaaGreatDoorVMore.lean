/- A part of the proof that the law FnDecodeValues returns true; its conditions are those of the last part. -/
import Derived.Test.YtkfggfjdplnkpaaGreatDoorVRead
import Derived.Deep.RegionWith
import Derived.Test.YtkfggfjdplnkpaaGreatDoorVWLast
import Derived.Laws.CopyOwn
set_option maxRecDepth 100000
set_option linter.unusedVariables false
set_option linter.unusedSimpArgs false
section
namespace Go.Proofs.YtkfggfjdplnkpaaGreatDoor
open Go.RowKit Go.Proofs.YtkfggfjdplnkpaaGreatDoorW.PrintLast
def readN (L:List UInt8) (sizes:List Int) (n pn:Nat):Nat:=
 if sizes=[] then L.length else Nat.min L.length (Nat.min (max 0 (sizes.getD (n % sizes.length) 0)).toNat pn)
theorem readN_le (L:List UInt8) (sizes:List Int) (n pn:Nat):readN L sizes n pn≤L.length:=by
 unfold readN;split
 ·exact Nat.le_refl _
 ·exact Nat.min_le_left _ _
theorem read_any (rb:Nat) (L:List UInt8) (A1:Option Addr) (scap n pb po pn pc:Nat) (sizes:List Int) (ve:Value) (cur:Array Value) (w:World) (hl:L.length≤1000) (hp:4096≤pn) (hpc:pn≤pc) (hpm:pc≤9223372036854775807)
  (hslm:sizes.length≤1000) (hn:n≤10000000)
  (hb:w.heap[rb]?=some (.cells #[.string ⟨L.toArray⟩,.slice A1 sizes.length scap,.int .i64 n,.bool false] 105 (0,0)))
  (hsz:∀ j,j<sizes.length→∃ ad,A1=some ad∧w.cell? (ad.add j)=some (.int .i64 (sizes.getD j 0))∧sizes.getD j 0≤9223372036854775807)
  (hcur:w.heap[pb]?=some (.cells cur 5 (0,0))) (hfit:po+pn≤cur.size) (he:w.cell? ⟨6,0,none⟩=some ve) :
  Calls Tryz.prog 239 #[.pointer (some ⟨rb,0,none⟩),.slice (some ⟨pb,po,none⟩) pn pc] w fun e w'=>
   e=.returned (.tuple #[.int .i64 (readN L sizes n pn),if L=[] then ve else .nilIface])∧
   w'.heap[rb]?=some (.cells #[.string ⟨(L.drop (readN L sizes n pn)).toArray⟩,.slice A1 sizes.length scap,.int .i64 ((if L=[]∨sizes=[] then n else n+1:Nat):Int),.bool false] 105 (0,0))∧
   w'.heap[pb]?=some (.cells (cur.toList.take po++((L.map bcell).take (readN L sizes n pn)++cur.toList.drop (po+readN L sizes n pn))).toArray 5 (0,0))∧Only (fun k=>k=rb∨k=pb) w w':=by
 by_cases hL:L=[]
 ·subst hL
  refine (read_eof rb A1 sizes.length scap n _ ve w hb he).mono ?_
  rintro e w' ⟨rfl,m,rfl⟩
  have h0:readN [] sizes n pn=0:=by have:=readN_le [] sizes n pn;simpa using this
  rw [h0]
  refine ⟨by simp,?_,?_,(Only.refl _ _).drewN m⟩
  ·show w.heap[rb]?=_
   rw [hb];simp
  ·show w.heap[pb]?=_
   rw [hcur];simp
 ·by_cases hs:sizes=[]
  ·subst hs
   refine (read_all rb L A1 scap n pb po pn pc cur w hL hl hp hpc hpm hb hcur hfit).mono ?_
   rintro e w' ⟨rfl,h1,h2,h3⟩
   have h0:readN L [] n pn=L.length:=by simp [readN]
   rw [h0]
   refine ⟨by simp [hL],?_,?_,h3⟩
   ·rw [h1];simp
   ·rw [h2,List.take_of_length_le (l:=L.map bcell) (by simp)]
  ·have hsl:0<sizes.length:=List.length_pos_iff.2 hs
   obtain ⟨ad,rfl,hc,hle⟩:=hsz (n % sizes.length) (Nat.mod_lt _ hsl)
   have h0:readN L sizes n pn=Nat.min L.length (Nat.min (max 0 (sizes.getD (n % sizes.length) 0)).toNat pn):=by simp [readN,hs]
   have hi:(if L=[]∨sizes=[] then n else n+1)=n+1:=if_neg (by simp [hL,hs])
   rw [hi,if_neg hL]
   generalize sizes.getD (n % sizes.length) 0=z at *
   generalize readN L sizes n pn=k at *
   have go:∀ (e:Ending) (w':World),(e=.returned (.tuple #[.int .i64 k,.nilIface])∧
    w'.heap[rb]?=some (.cells #[.string ⟨(L.drop k).toArray⟩,.slice (some ad) sizes.length scap,.int .i64 ((n+1:Nat):Int),.bool false] 105 (0,0))∧
    w'.heap[pb]?=some (.cells (cur.toList.take po++((L.map bcell).take k++cur.toList.drop (po+k))).toArray 5 (0,0))∧Only (fun k=>k=rb∨k=pb) w w')→_:=fun _ _ h=>h
   by_cases hz:z≤0
   ·exact (read_sized_neg rb L ad sizes.length scap n pb po pn pc z hz k cur w hL hl hp hpc hpm hsl hslm hn (by rw [h0,show (max 0 z).toNat=0 by omega];simp) hb hc hcur hfit).mono go
   ·obtain ⟨m,rfl⟩:∃ m:Nat,z=m:=⟨z.toNat,by omega⟩
    have hmm:(max 0 (m:Int)).toNat=m:=by omega
    rw [hmm] at h0
    by_cases hmp:m≤pn
    ·exact (read_sized_fit rb L ad sizes.length scap n pb po pn pc m (by omega) hmp k cur w hL hl hp hpc hpm hsl hslm hn (by rw [h0,show Nat.min m pn=m from Nat.min_eq_left hmp]) hb hc hcur hfit).mono go
    ·exact (read_sized_big rb L ad sizes.length scap n pb po pn pc m (by omega) (by omega) k cur w hL hl hp hpc hpm hsl hslm hn (by rw [h0,show Nat.min m pn=pn from Nat.min_eq_right (by omega)]) hb hc hcur hfit).mono go
theorem nil_read (a:Addr) (w:World):(nilAhead 429 64 (.pointer (some a)) "Read").run Tryz.prog w=.ok (some false) w:=by kernel_rfl
theorem method_read (a:Addr) (w:World):(method 429 64 (.pointer (some a)) "Read").run Tryz.prog w=.ok (239,.pointer (some a)) w:=by kernel_rfl
def ReadPost (w:World) (rb pb po:Nat) (L:List UInt8) (A1:Option Addr) (scap n pn:Nat) (sizes:List Int) (ve:Value) (cur:Array Value) (k:Nat) (ev:Value) (w':World):Prop:=
 k=readN L sizes n pn∧ev=(if L=[] then ve else .nilIface)∧
 w'.heap[rb]?=some (.cells #[.string ⟨(L.drop k).toArray⟩,.slice A1 sizes.length scap,.int .i64 ((if L=[]∨sizes=[] then n else n+1:Nat):Int),.bool false] 105 (0,0))∧
 w'.heap[pb]?=some (.cells (cur.toList.take po++((L.map bcell).take k++cur.toList.drop (po+k))).toArray 5 (0,0))∧Only (fun k=>k=rb∨k=pb) w w'
theorem read_named (rb:Nat) (L:List UInt8) (A1:Option Addr) (scap n pb po pn pc:Nat) (sizes:List Int) (ve:Value) (cur:Array Value) (w:World) (hl:L.length≤1000) (hp:4096≤pn) (hpc:pn≤pc) (hpm:pc≤9223372036854775807)
  (hslm:sizes.length≤1000) (hn:n≤10000000)
  (hb:w.heap[rb]?=some (.cells #[.string ⟨L.toArray⟩,.slice A1 sizes.length scap,.int .i64 n,.bool false] 105 (0,0)))
  (hsz:∀ j,j<sizes.length→∃ ad,A1=some ad∧w.cell? (ad.add j)=some (.int .i64 (sizes.getD j 0))∧sizes.getD j 0≤9223372036854775807)
  (hcur:w.heap[pb]?=some (.cells cur 5 (0,0))) (hfit:po+pn≤cur.size) (he:w.cell? ⟨6,0,none⟩=some ve) :
  Calls Tryz.prog 239 #[.pointer (some ⟨rb,0,none⟩),.slice (some ⟨pb,po,none⟩) pn pc] w fun e w'=>∃ k ev,e=.returned (.tuple #[.int .i64 (k:Nat),ev])∧ReadPost w rb pb po L A1 scap n pn sizes ve cur k ev w':=by
 refine (read_any rb L A1 scap n pb po pn pc sizes ve cur w hl hp hpc hpm hslm hn hb hsz hcur hfit he).mono ?_
 rintro e w' ⟨rfl,h1,h2,h3⟩
 exact ⟨_,_,rfl,rfl,rfl,h1,h2,h3⟩
def MorePost (g:Nat) (w:World) (bb bl rb:Nat) (L:List UInt8) (A1:Option Addr) (scap n:Nat) (sizes:List Int) (cur:Array Value) (v2 v3 v5 v6 v7 v8 v9:Value) (e:Ending) (w':World):Prop:=
 e=.returned (.tuple #[])∧∃ k,k=readN L sizes n (8192-bl)∧
   w'.heap[g]?=some (.cells #[.iface 64 (.pointer (some ⟨rb,0,none⟩)),.slice (some ⟨bb,0,none⟩) (bl+k) 8192,v2,v3,.bool (decide (L=[])),v5,v6,v7,v8,v9] 83 (0,0))∧
   w'.heap[rb]?=some (.cells #[.string ⟨(L.drop k).toArray⟩,.slice A1 sizes.length scap,.int .i64 ((if L=[]∨sizes=[] then n else n+1:Nat):Int),.bool false] 105 (0,0))∧
   w'.heap[bb]?=some (.cells (cur.toList.take bl++((L.map bcell).take k++cur.toList.drop (bl+k))).toArray 5 (0,0))∧Only (fun k=>k=g∨k=rb∨k=bb) w w'
theorem run_neq_ptr_same (w:World) (a:Addr):(binOp .neq 48 (.iface 167 (.pointer (some a))) (.iface 167 (.pointer (some a)))).run Tryz.prog w=.ok (.bool false) w:=by
 obtain ⟨i,hi⟩:∃ i,Tryz.prog.info? 167=some i:=Option.isSome_iff_exists.1 (by kernel_rfl)
 have hc:i.comparable=true:=by
  have:(Tryz.prog.info? 167).map (·.comparable)=some true:=by kernel_rfl
  rw [hi] at this;simpa using this
 obtain ⟨j,hj⟩:∃ j,Tryz.prog.info? 169=some j:=Option.isSome_iff_exists.1 (by kernel_rfl)
 simp only [binOp]
 simp [Op.equal,Op.maxDepth,run_equalIn_iface_ptr_same w 9998 a Tryz.underlying48 Tryz.underlying167 hi hc hj]
set_option maxHeartbeats 1000000 in
theorem more_go (g:Nat) (w:World) (bb bl rb:Nat) (hbl:bl≤1000)
  (L:List UInt8) (A1:Option Addr) (scap n:Nat) (sizes:List Int) (ea:Addr) (cur:Array Value) (hl:L.length≤1000)
  (v2 v3 v5 v6 v7 v8 v9:Value)
  (hslm:sizes.length≤1000) (hn:n≤10000000)
  (hb:w.heap[rb]?=some (.cells #[.string ⟨L.toArray⟩,.slice A1 sizes.length scap,.int .i64 n,.bool false] 105 (0,0)))
  (hsz:∀ j,j<sizes.length→∃ ad,A1=some ad∧w.cell? (ad.add j)=some (.int .i64 (sizes.getD j 0))∧sizes.getD j 0≤9223372036854775807)
  (hcur:w.heap[bb]?=some (.cells cur 5 (0,0))) (hfit:cur.size=8192) (he:w.cell? ⟨6,0,none⟩=some (.iface 167 (.pointer (some ea)))) (h6:6≠g∧6≠rb∧6≠bb)
  (hg:w.heap[g]?=some (.cells #[.iface 64 (.pointer (some ⟨rb,0,none⟩)),.slice (some ⟨bb,0,none⟩) bl 8192,v2,v3,.bool false,v5,v6,v7,v8,v9] 83 (0,0))) :
  Calls Tryz.prog 134 #[.pointer (some ⟨g,0,none⟩)] w (MorePost g w bb bl rb L A1 scap n sizes cur v2 v3 v5 v6 v7 v8 v9):=by
 have b0:(0:Int)≤(bl:Int):=by omega
 have b1:(bl:Int)≤1000:=by omega
 have b2:((8192:Int)-(bl:Int)<4096)=False:=by simp;omega
 have b3:(bl:Int)≤8192:=by omega
 have b4:¬8192=bl:=by omega
 have h1:=nil_read ⟨rb,0,none⟩
 have h2:=method_read ⟨rb,0,none⟩
 have hgr:g≠rb:=blk_type hg hb (by decide)
 have hgb:g≠bb:=blk_type hg hcur (by decide)
 have hcon:=Lib.hid (fun (m:Nat)=>read_named rb L A1 scap n bb bl (8192-bl) (8192-bl) sizes (.iface 167 (.pointer (some ea))) cur (w.drewN m) hl (by omega) (Nat.le_refl _) (by omega) hslm hn hb hsz hcur (by omega) he)
 have HE:=Lib.hid he
 have HG:=Lib.hid hg
 have H6:=Lib.hid h6
 have c0:w.cell? ⟨g,0,none⟩=some (.iface 64 (.pointer (some ⟨rb,0,none⟩))):=blk_cell hg 0
 have c1:w.cell? ⟨g,1,none⟩=some (.slice (some ⟨bb,0,none⟩) bl 8192):=blk_cell hg 1
 have c4:w.cell? ⟨g,4,none⟩=some (.bool false):=blk_cell hg 4
 clear hb hsz hcur he hg h6
 have hkl:=readN_le L sizes n (8192-bl)
 go_enter Tryz.func134,Tryz.ntmps134
 go_wp2
 go_quiet (fail)
 go_wp2
 refine start_ (n:=27) (S:=fun w'=>w'=(w.drewN nq).drew) (ds:=[21]) (bA 27 0) (by kernel_rfl) rfl rfl rfl (fun _=>?_)
 refine pure_ (i:=0) (N:=some 79) (v:=?_) (a':=?_) (bA 27 1) rfl rfl (by kernel_rfl) (fun _ _ _ h=>h) (Or.inl ⟨by rfl,?_⟩) ?_ ?_
 rotate_left
 ·intro w';go_simp;with_reducible rfl
 rotate_left
 ·simp only [Act.put,aA,aB,aC,i64_w,i32_w];rfl
 refine pure_ (i:=1) (N:=some 80) (v:=?_) (a':=?_) (bA 27 3) rfl rfl (by kernel_rfl) (fun _ _ _ h=>h) (Or.inl ⟨by rfl,?_⟩) ?_ ?_
 rotate_left
 ·intro w';go_simp;with_reducible rfl
 rotate_left
 ·simp only [Act.put,aA,aB,aC,i64_w,i32_w];rfl
 refine pure_ (i:=2) (N:=some 81) (v:=?_) (a':=?_) (bA 27 7) rfl rfl (by kernel_rfl) (fun _ _ _ h=>h) (Or.inl ⟨by rfl,?_⟩) ?_ ?_
 rotate_left
 ·intro w';go_simp;with_reducible rfl
 rotate_left
 ·simp only [Act.put,aA,aB,aC,i64_w,i32_w];rfl
 refine take_ (i:=3) (N:=some 82) (v:=?_) (a':=?_) (bA 27 15) rfl rfl (by kernel_rfl) (fun _ _ _ h=>h) (Or.inl ⟨by rfl,?_⟩) rfl ?_ ?_
 rotate_left
 ·rintro w' rfl;go_simp;with_reducible rfl
 rotate_left
 ·simp only [Act.put,aA,aB,aC,i64_w,i32_w];rfl
 refine pure_ (i:=4) (N:=some 83) (v:=?_) (a':=?_) (bA 27 31) rfl rfl (by kernel_rfl) (fun _ _ _ h=>h) (Or.inl ⟨by rfl,?_⟩) ?_ ?_
 rotate_left
 ·intro w';go_simp;with_reducible rfl
 rotate_left
 ·simp only [Act.put,aA,aB,aC,i64_w,i32_w];rfl
 refine pure_ (i:=5) (N:=some 84) (v:=?_) (a':=?_) (bA 27 63) rfl rfl (by kernel_rfl) (fun _ _ _ h=>h) (Or.inl ⟨by rfl,?_⟩) ?_ ?_
 rotate_left
 ·intro w';go_simp;with_reducible rfl
 rotate_left
 ·simp only [Act.put,aA,aB,aC,i64_w,i32_w];rfl
 refine pure_ (i:=6) (N:=some 85) (v:=?_) (a':=?_) (bA 27 127) rfl rfl (by kernel_rfl) (fun _ _ _ h=>h) (Or.inl ⟨by rfl,?_⟩) ?_ ?_
 rotate_left
 ·intro w';go_simp;with_reducible rfl
 rotate_left
 ·simp only [Act.put,aA,aB,aC,i64_w,i32_w];rfl
 refine take_ (i:=7) (N:=some 86) (v:=?_) (a':=?_) (bA 27 255) rfl rfl (by kernel_rfl) (fun _ _ _ h=>h) (Or.inl ⟨by rfl,?_⟩) rfl ?_ ?_
 rotate_left
 ·rintro w' rfl;go_simp;with_reducible rfl
 rotate_left
 ·simp only [Act.put,aA,aB,aC,i64_w,i32_w];rfl
 refine pure_ (i:=8) (N:=some 87) (v:=?_) (a':=?_) (bA 27 511) rfl rfl (by kernel_rfl) (fun _ _ _ h=>h) (Or.inl ⟨by rfl,?_⟩) ?_ ?_
 rotate_left
 ·intro w';go_simp;with_reducible rfl
 rotate_left
 ·simp only [Act.put,aA,aB,aC,i64_w,i32_w];rfl
 refine pure_ (i:=9) (N:=some 88) (v:=?_) (a':=?_) (bA 27 1023) rfl rfl (by kernel_rfl) (fun _ _ _ h=>h) (Or.inl ⟨by rfl,?_⟩) ?_ ?_
 rotate_left
 ·intro w';go_simp;with_reducible rfl
 rotate_left
 ·simp only [Act.put,aA,aB,aC,i64_w,i32_w];rfl
 refine pure_ (i:=10) (N:=some 89) (v:=?_) (a':=?_) (bA 27 2047) rfl rfl (by kernel_rfl) (fun _ _ _ h=>h) (Or.inl ⟨by rfl,?_⟩) ?_ ?_
 rotate_left
 ·intro w';go_simp;with_reducible rfl
 rotate_left
 ·simp only [Act.put,aA,aB,aC,i64_w,i32_w];rfl
 refine take_ (i:=11) (N:=some 90) (v:=?_) (a':=?_) (bA 27 4095) rfl rfl (by kernel_rfl) (fun _ _ _ h=>h) (Or.inl ⟨by rfl,?_⟩) rfl ?_ ?_
 rotate_left
 ·rintro w' rfl;go_simp;with_reducible rfl
 rotate_left
 ·simp only [Act.put,aA,aB,aC,i64_w,i32_w];rfl
 refine pure_ (i:=12) (N:=some 91) (v:=?_) (a':=?_) (bA 27 8191) rfl rfl (by kernel_rfl) (fun _ _ _ h=>h) (Or.inl ⟨by rfl,?_⟩) ?_ ?_
 rotate_left
 ·intro w';go_simp;with_reducible rfl
 rotate_left
 ·simp only [Act.put,aA,aB,aC,i64_w,i32_w];rfl
 refine pure_ (i:=13) (N:=some 92) (v:=?_) (a':=?_) (bA 27 16383) rfl rfl (by kernel_rfl) (fun _ _ _ h=>h) (Or.inl ⟨by rfl,?_⟩) ?_ ?_
 rotate_left
 ·intro w';go_simp;with_reducible rfl
 rotate_left
 ·simp only [Act.put,aA,aB,aC,i64_w,i32_w];rfl
 refine pure_ (i:=14) (N:=some 93) (v:=?_) (a':=?_) (bA 27 32767) rfl rfl (by kernel_rfl) (fun _ _ _ h=>h) (Or.inl ⟨by rfl,?_⟩) ?_ ?_
 rotate_left
 ·intro w';go_simp;with_reducible rfl
 rotate_left
 ·simp only [Act.put,aA,aB,aC,i64_w,i32_w];rfl
 refine pure_ (i:=15) (N:=some 94) (v:=?_) (a':=?_) (bA 27 65535) rfl rfl (by kernel_rfl) (fun _ _ _ h=>h) (Or.inl ⟨by rfl,?_⟩) ?_ ?_
 rotate_left
 ·intro w';go_simp;with_reducible rfl
 rotate_left
 ·simp only [Act.put,aA,aB,aC,i64_w,i32_w];rfl
 refine take_ (i:=16) (N:=some 95) (v:=?_) (a':=?_) (bA 27 131071) rfl rfl (by kernel_rfl) (fun _ _ _ h=>h) (Or.inl ⟨by rfl,?_⟩) rfl ?_ ?_
 rotate_left
 ·rintro w' rfl;go_simp;with_reducible rfl
 rotate_left
 ·simp only [Act.put,aA,aB,aC,i64_w,i32_w];rfl
 refine pure_ (i:=17) (N:=some 96) (v:=?_) (a':=?_) (bA 27 262143) rfl rfl (by kernel_rfl) (fun _ _ _ h=>h) (Or.inl ⟨by rfl,?_⟩) ?_ ?_
 rotate_left
 ·intro w';go_simp;with_reducible rfl
 rotate_left
 ·simp only [Act.put,aA,aB,aC,i64_w,i32_w];rfl
 refine pure_ (i:=18) (N:=some 97) (v:=?_) (a':=?_) (bA 27 524287) rfl rfl (by kernel_rfl) (fun _ _ _ h=>h) (Or.inl ⟨by rfl,?_⟩) ?_ ?_
 rotate_left
 ·intro w';go_simp;with_reducible rfl
 rotate_left
 ·simp only [Act.put,aA,aB,aC,i64_w,i32_w];rfl
 refine pure_ (i:=19) (N:=some 98) (v:=?_) (a':=?_) (bA 27 1048575) rfl rfl (by kernel_rfl) (fun _ _ _ h=>h) (Or.inl ⟨by rfl,?_⟩) ?_ ?_
 rotate_left
 ·intro w';go_simp;with_reducible rfl
 rotate_left
 ·simp only [Act.put,aA,aB,aC,i64_w,i32_w];rfl
 refine pure_ (i:=20) (N:=some 99) (v:=?_) (a':=?_) (bA 27 2097151) rfl rfl (by kernel_rfl) (fun _ _ _ h=>h) (Or.inl ⟨by rfl,?_⟩) ?_ ?_
 rotate_left
 ·intro w';go_simp;with_reducible rfl
 rotate_left
 ·simp only [Act.put,aA,aB,aC,i64_w,i32_w];rfl
 refine last_ (i:=21) (N:=some 100) (bA 27 4194303) rfl rfl (by kernel_rfl) (by decide) (fun K hK=>?_)
 refine call_ 239 #[.pointer (some ⟨rb,0,none⟩),.slice (some ⟨bb,bl,none⟩) (8192-bl) (8192-bl)] (by rfl) rfl (by go_simp) ?_
 refine (show Calls Tryz.prog 239 _ (w.drewN nq).drew _ from hcon.out (nq+1)).mono ?_
 rintro e w1 ⟨k,ev,rfl,hpost⟩
 refine ⟨_,rfl,hK.out _ _ ?_⟩
 clear hK K
 refine pure_ (i:=22) (N:=some 78) (v:=?_) (a':=?_) (bA 27 8388607) rfl rfl (by kernel_rfl) (fun _ _ _ h=>h) (Or.inl ⟨by rfl,?_⟩) ?_ ?_
 rotate_left
 ·intro w';go_simp;with_reducible rfl
 rotate_left
 ·simp only [Act.put,aA,aB,aC,i64_w,i32_w];rfl
 refine pure_ (i:=23) (N:=some 101) (v:=?_) (a':=?_) (bA 27 16777215) rfl rfl (by kernel_rfl) (fun _ _ _ h=>h) (Or.inl ⟨by rfl,?_⟩) ?_ ?_
 rotate_left
 ·intro w';go_simp;with_reducible rfl
 rotate_left
 ·simp only [Act.put,aA,aB,aC,i64_w,i32_w];rfl
 refine pure_ (i:=24) (N:=some 102) (v:=?_) (a':=?_) (bA 27 33554431) rfl rfl (by kernel_rfl) (fun _ _ _ h=>h) (Or.inl ⟨by rfl,?_⟩) ?_ ?_
 rotate_left
 ·intro w';go_simp;with_reducible rfl
 rotate_left
 ·simp only [Act.put,aA,aB,aC,i64_w,i32_w];rfl
 refine pure_ (i:=25) (N:=some 2) (v:=?_) (a':=?_) (bA 27 67108863) rfl rfl (by kernel_rfl) (fun _ _ _ h=>h) (Or.inl ⟨by rfl,?_⟩) ?_ ?_
 rotate_left
 ·intro w';go_simp;with_reducible rfl
 rotate_left
 ·simp only [Act.put,aA,aB,aC,i64_w,i32_w];rfl
 refine pure_ (i:=26) (N:=some 6) (v:=?_) (a':=?_) (bA 27 134217727) rfl rfl (by kernel_rfl) (fun _ _ _ h=>h) (Or.inl ⟨by rfl,?_⟩) ?_ ?_
 rotate_left
 ·intro w';go_simp;with_reducible rfl
 rotate_left
 ·simp only [Act.put,aA,aB,aC,i64_w,i32_w];rfl
 refine done_ (by kernel_rfl) ?_
 obtain ⟨hk,hev,hr,hp,ho⟩:=hpost
 have ho':Only (fun k=>k=rb∨k=bb) w w1:=((Only.refl _ w).drewN (nq+1)).trans ho (fun _ h=>.inl h)
 have hg1:=blk_only HG.out ho' (by rintro (h | h);exact hgr h;exact hgb h)
 have he1:w1.cell? ⟨6,0,none⟩=some (.iface 167 (.pointer (some ea))):=by
  rw [World.cell?_of_block (w:=w) (ho'.block 6 (block_lt_of_cell HE.out) (by rintro (h | h);exact H6.out.2.1 h;exact H6.out.2.2 h))];exact HE.out
 rw [←hk] at hkl
 have HKL:=Lib.hid hkl
 have b5:(k:Int)≤1000:=by omega
 have b6:((bl:Int)+(k:Int))≤8192:=by omega
 have b7:IntKind.i64.wrap ((bl:Int)+(k:Int))=(bl:Int)+(k:Int):=IntWalk.i64_in _ (by omega)
 have b8:0≤(bl:Int)+(k:Int):=by omega
 have b9:((bl:Int)+(k:Int)).toNat=bl+k:=by omega
 have b10:bl+k≤8192:=by omega
 have HR:=Lib.hid hr;have HP:=Lib.hid hp;have HO:=Lib.hid ho'
 have HKK:=Lib.hid hk;have HEV:=Lib.hid hev
 clear hr hp ho ho' hk hev c0 c1 c4 h1 h2 hkl hcon
 have c1:w1.cell? ⟨g,1,none⟩=some (.slice (some ⟨bb,0,none⟩) bl 8192):=blk_cell hg1 1
 have f1:=blk_frozen hg1 1
 have HG1:=Lib.hid hg1;clear hg1
 go_wp2
 go_still_tail 15,(by kernel_rfl)
 change wpList _ _ _ _ _ w1.drew
 have HG2:=Lib.hid (blk_set (w:=w1.drew) HG1.out 1 (.slice (some ⟨bb,0,none⟩) (bl+k) 8192))
 by_cases hL:L=[]
 ·have hev:ev=.iface 167 (.pointer (some ea)):=by rw [HEV.out,if_pos hL]
  rw [hev]
  have c4:w1.cell? ⟨g,4,none⟩=some (.bool false):=blk_cell HG1.out 4
  have f4:=blk_frozen HG1.out 4
  have hne:∀ w,(binOp .neq 48 (.iface 167 (.pointer (some ea))) (.iface 167 (.pointer (some ea)))).run Tryz.prog w=.ok (.bool false) w:=fun w=>run_neq_ptr_same w ea
  have HG3:=Lib.hid (blk_set HG2.out 4 (.bool true))
  clear hev
  have HL:=Lib.hid hL;clear hL
  go_wp2
  go_end0
  refine ⟨rfl,k,HKK.out,?_,?_,?_,?_⟩
  ·rw [decide_eq_true HL.out];exact HG3.out
  ·rw [heap_drew,heap_setCell_other _ ⟨g,_,none⟩ rb _ (Ne.symm hgr),heap_setCell_other _ ⟨g,_,none⟩ rb _ (Ne.symm hgr)];exact HR.out
  ·rw [heap_drew,heap_setCell_other _ ⟨g,_,none⟩ bb _ (Ne.symm hgb),heap_setCell_other _ ⟨g,_,none⟩ bb _ (Ne.symm hgb)];exact HP.out
  ·exact (((HO.out.mono (S':=fun k=>k=g∨k=rb∨k=bb) (fun _ _ h=>Or.inr h)).setCell (p:=⟨g,1,none⟩) (.inl (.inl rfl)) _).setCell (p:=⟨g,4,none⟩) (.inl (.inl rfl)) _).drew
 ·have hev:ev=.nilIface:=by rw [HEV.out,if_neg hL]
  rw [hev]
  clear hev
  have HL:=Lib.hid hL;clear hL
  go_wp2
  go_end0
  refine ⟨rfl,k,HKK.out,?_,?_,?_,?_⟩
  ·rw [decide_eq_false HL.out];exact HG2.out
  ·rw [heap_drew,heap_setCell_other _ ⟨g,_,none⟩ rb _ (Ne.symm hgr)];exact HR.out
  ·rw [heap_drew,heap_setCell_other _ ⟨g,_,none⟩ bb _ (Ne.symm hgb)];exact HP.out
  ·exact ((HO.out.mono (S':=fun k=>k=g∨k=rb∨k=bb) (fun _ _ h=>Or.inr h)).setCell (p:=⟨g,1,none⟩) (.inl (.inl rfl)) _).drew
end Go.Proofs.YtkfggfjdplnkpaaGreatDoor
end
section
namespace Go.Proofs.YtkfggfjdplnkpaaGreatDoor
open Go.RowKit Go.Proofs.YtkfggfjdplnkpaaGreatDoorW.PrintLast
def zs (n:Nat):Array Value:=madeCells #[.int .u8 0] n
theorem zs_size (n:Nat):(zs n).size=n:=size_madeCells _ _
theorem make_bytes (c:Nat) (hc:c≤100000) (l:Nat) (hl:l≤c) (w:World):(Instr.makeSlice 54 (.int .i64 (l:Int)) (.int .i64 (c:Int))).run Tryz.prog w=.ok (.slice (some ⟨w.heap.size,0,none⟩) l c) (w.alloc (.cells (zs c) 5)):=by
 obtain ⟨i,hi⟩:∃ i,Tryz.prog.info? 5=some i:=Option.isSome_iff_exists.1 (by kernel_rfl)
 have hz:i.zero=some (.int .u8 0):=by
  have:(Tryz.prog.info? 5).map (·.zero)=some (some (.int .u8 0)):=by kernel_rfl
  rw [hi] at this;simpa using this
 have hs:i.size=1:=by
  have:(Tryz.prog.info? 5).map (·.size)=some 1:=by kernel_rfl
  rw [hi] at this;simpa using this
 have hb:i.bytes=1:=by
  have:(Tryz.prog.info? 5).map (·.bytes)=some 1:=by kernel_rfl
  rw [hi] at this;simpa using this
 have:=run_make (P:=Tryz.prog) w 54 5 i (.int .u8 0) Tryz.underlying54 hi hz .i64 .i64 (l:Int) (c:Int) (by omega) (by omega) (by rw [hb];omega) (by omega)
 rw [this,hs]
 simp [zs,Value.cells]
theorem make_8192 (w:World):(Instr.makeSlice 54 (.int .i64 0) (.int .i64 8192)).run Tryz.prog w=.ok (.slice (some ⟨w.heap.size,0,none⟩) 0 8192) (w.alloc (.cells (zs 8192) 5)):=make_bytes 8192 (by omega) 0 (by omega) w
def FirstPost (g:Nat) (w:World) (rb:Nat) (L:List UInt8) (A1:Option Addr) (scap n:Nat) (sizes:List Int) (v5 v6 v7 v8 v9:Value) (e:Ending) (w':World):Prop:=
 e=.returned (.tuple #[])∧∃ k bb,k=readN L sizes n 8192∧w.heap.size≤bb∧
   w'.heap[g]?=some (.cells #[.iface 64 (.pointer (some ⟨rb,0,none⟩)),.slice (some ⟨bb,0,none⟩) k 8192,.int .i64 0,.int .i64 0,.bool (decide (L=[])),v5,v6,v7,v8,v9] 83 (0,0))∧
   w'.heap[rb]?=some (.cells #[.string ⟨(L.drop k).toArray⟩,.slice A1 sizes.length scap,.int .i64 ((if L=[]∨sizes=[] then n else n+1:Nat):Int),.bool false] 105 (0,0))∧
   w'.heap[bb]?=some (.cells ((L.map bcell).take k++(zs 8192).toList.drop k).toArray 5 (0,0))∧Only (fun k=>k=g∨k=rb) w w'
set_option maxHeartbeats 1000000 in
theorem more_first (g:Nat) (w:World) (rb:Nat)
  (L:List UInt8) (A1:Option Addr) (scap n:Nat) (sizes:List Int) (ea:Addr) (hl:L.length≤1000) (v5 v6 v7 v8 v9:Value)
  (hslm:sizes.length≤1000) (hn:n≤10000000)
  (hb:w.heap[rb]?=some (.cells #[.string ⟨L.toArray⟩,.slice A1 sizes.length scap,.int .i64 n,.bool false] 105 (0,0)))
  (hsz:∀ j,j<sizes.length→∃ ad,A1=some ad∧w.cell? (ad.add j)=some (.int .i64 (sizes.getD j 0))∧sizes.getD j 0≤9223372036854775807)
  (hszg:∀ ad,A1=some ad→ad.block≠g) (hszr:∀ ad,A1=some ad→ad.block≠rb)
  (he:w.cell? ⟨6,0,none⟩=some (.iface 167 (.pointer (some ea)))) (h6:6≠g∧6≠rb)
  (hg:w.heap[g]?=some (.cells #[.iface 64 (.pointer (some ⟨rb,0,none⟩)),.slice none 0 0,.int .i64 0,.int .i64 0,.bool false,v5,v6,v7,v8,v9] 83 (0,0))) :
  Calls Tryz.prog 134 #[.pointer (some ⟨g,0,none⟩)] w (FirstPost g w rb L A1 scap n sizes v5 v6 v7 v8 v9):=by
 have c0:w.cell? ⟨g,0,none⟩=some (.iface 64 (.pointer (some ⟨rb,0,none⟩))):=blk_cell hg 0
 have c1:w.cell? ⟨g,1,none⟩=some (.slice none 0 0):=blk_cell hg 1
 have c2:w.cell? ⟨g,2,none⟩=some (.int .i64 0):=blk_cell hg 2
 have c3:w.cell? ⟨g,3,none⟩=some (.int .i64 0):=blk_cell hg 3
 have c4:w.cell? ⟨g,4,none⟩=some (.bool false):=blk_cell hg 4
 have hglt:=blk_lt hg
 have hgr:g≠rb:=blk_type hg hb (by decide)
 have HG:=Lib.hid hg
 have HB:=Lib.hid hb
 have HE:=Lib.hid he
 have HSZ:=Lib.hid hsz
 have HSG:=Lib.hid hszg
 have HSR:=Lib.hid hszr
 have H6:=Lib.hid h6
 have hmk:=make_8192
 clear hg hb he hsz hszg hszr h6
 go_enter Tryz.func134,Tryz.ntmps134
 go_wp2
 go_quiet (fail)
 obtain ⟨n1,rfl⟩:∃ n1,n1=nq:=⟨_,rfl⟩
 go_wp2
 go_quiet (fail)
 go_wp2
 have HO0:=Lib.hid (((Only.refl (fun k=>k=g∨k=rb) w).drewN (n1+nq)).alloc (.cells (zs 8192) 5))
 have hzb:((w.drewN (n1+nq)).alloc (.cells (zs 8192) 5)).heap[w.heap.size]?=some (.cells (zs 8192) 5 (0,0)):=heap_alloc_new (w.drewN (n1+nq)) _
 have hg0:((w.drewN (n1+nq)).alloc (.cells (zs 8192) 5)).heap[g]?=_:=(heap_alloc_old (w.drewN (n1+nq)) _ hglt).trans HG.out
 have hb0:((w.drewN (n1+nq)).alloc (.cells (zs 8192) 5)).heap[rb]?=_:=(heap_alloc_old (w.drewN (n1+nq)) _ (blk_lt HB.out)).trans HB.out
 generalize (w.drewN (n1+nq)).alloc (.cells (zs 8192) 5)=w0 at *
 generalize hbb:w.heap.size=bb at *
 clear c0 c1 c2 c3 c4 hmk
 have c1:w0.cell? ⟨g,1,none⟩=some (.slice none 0 0):=blk_cell hg0 1
 have c2:w0.cell? ⟨g,2,none⟩=some (.int .i64 0):=blk_cell hg0 2
 have HZB:=Lib.hid hzb;have HG0:=Lib.hid hg0;have HB0:=Lib.hid hb0;have HBB:=Lib.hid hbb
 clear hzb hg0 hb0 hbb
 go_still_tail 10,(by kernel_rfl)
 change wpList _ _ _ _ _ w0.drew
 refine wpList_copy_nothing rfl (.tmp 49) (.tmp 58) 54 54 rfl 5 Tryz.underlying54 info5s (some ⟨bb,0,none⟩) none 0 8192 0 0 rfl rfl rfl ?_
 have c3:w0.cell? ⟨g,3,none⟩=some (.int .i64 0):=blk_cell HG0.out 3
 have f1:=blk_frozen HG0.out 1
 have f2:=blk_frozen HG0.out 2
 have f3:=blk_frozen HG0.out 3
 go_wp2
 have HG1:Hid ((w0.setCell ⟨g,1,none⟩ (.slice (some ⟨bb,0,none⟩) 0 8192)).drew.heap[g]?=_):=Lib.hid (blk_set (w:=w0) HG0.out 1 (.slice (some ⟨bb,0,none⟩) 0 8192))
 have hbbg:bb≠g:=by have:=HBB.out;omega
 have HZ1:Hid ((w0.setCell ⟨g,1,none⟩ (.slice (some ⟨bb,0,none⟩) 0 8192)).drew.heap[bb]?=_):=Lib.hid ((heap_setCell_other w0 ⟨g,1,none⟩ bb (.slice (some ⟨bb,0,none⟩) 0 8192) hbbg).trans HZB.out)
 have HB1:Hid ((w0.setCell ⟨g,1,none⟩ (.slice (some ⟨bb,0,none⟩) 0 8192)).drew.heap[rb]?=_):=Lib.hid ((heap_setCell_other w0 ⟨g,1,none⟩ rb (.slice (some ⟨bb,0,none⟩) 0 8192) (Ne.symm hgr)).trans HB0.out)
 have HO1:=Lib.hid ((HO0.out.setCell (p:=⟨g,1,none⟩) (.inl (.inl rfl)) (.slice (some ⟨bb,0,none⟩) 0 8192)).drew)
 generalize (w0.setCell ⟨g,1,none⟩ (.slice (some ⟨bb,0,none⟩) 0 8192)).drew=w1 at *
 clear c1 c2 c3 f1 f2 f3 HG0 HB0 HZB HO0
 have c2:w1.cell? ⟨g,2,none⟩=some (.int .i64 0):=blk_cell HG1.out 2
 have c3:w1.cell? ⟨g,3,none⟩=some (.int .i64 0):=blk_cell HG1.out 3
 have f2:=blk_frozen HG1.out 2
 have f3:=blk_frozen HG1.out 3
 go_still_tail 11,(by kernel_rfl)
 change wpList _ _ _ _ _ w1.drew
 go_wp2
 have HG2:Hid (((w1.setCell ⟨g,3,none⟩ (.int .i64 0)).setCell ⟨g,2,none⟩ (.int .i64 0)).drew.heap[g]?=_):=Lib.hid (blk_set (blk_set (w:=w1) HG1.out 3 (.int .i64 0)) 2 (.int .i64 0))
 have HZ2:Hid (((w1.setCell ⟨g,3,none⟩ (.int .i64 0)).setCell ⟨g,2,none⟩ (.int .i64 0)).drew.heap[bb]?=_):=Lib.hid (((heap_setCell_other _ ⟨g,2,none⟩ bb _ hbbg).trans (heap_setCell_other _ ⟨g,3,none⟩ bb _ hbbg)).trans HZ1.out)
 have HB2:Hid (((w1.setCell ⟨g,3,none⟩ (.int .i64 0)).setCell ⟨g,2,none⟩ (.int .i64 0)).drew.heap[rb]?=_):=Lib.hid (((heap_setCell_other _ ⟨g,2,none⟩ rb _ (Ne.symm hgr)).trans (heap_setCell_other _ ⟨g,3,none⟩ rb _ (Ne.symm hgr))).trans HB1.out)
 have HO2:=Lib.hid (((HO1.out.setCell (p:=⟨g,3,none⟩) (.inl (.inl rfl)) (.int .i64 0)).setCell (p:=⟨g,2,none⟩) (.inl (.inl rfl)) (.int .i64 0)).drew)
 generalize ((w1.setCell ⟨g,3,none⟩ (.int .i64 0)).setCell ⟨g,2,none⟩ (.int .i64 0)).drew=w2 at *
 clear c2 c3 f2 f3 HG1 HB1 HZ1 HO1
 have hkeep:∀ a:Addr,∀ v,w.cell? a=some v→a.block≠g→a.block≠rb→w2.cell? a=some v:=fun a v h h1 h2=>by
  rw [World.cell?_of_block (w:=w) (HO2.out.block a.block (block_lt_of_cell h) (by rintro (h' | h');exact h1 h';exact h2 h'))];exact h
 have hb6:bb≠6:=by have:=block_lt_of_cell HE.out;have:=HBB.out;simp at *;omega
 have hcon:=Lib.hid (read_named rb L A1 scap n bb 0 8192 8192 sizes (.iface 167 (.pointer (some ea))) (zs 8192) w2.drew hl (by omega) (Nat.le_refl _) (by omega) hslm hn HB2.out
  (fun j hj=>by
   obtain ⟨ad,h1,h2,h3⟩:=HSZ.out j hj
   refine ⟨ad,h1,?_,h3⟩
   refine hkeep _ _ h2 ?_ ?_
   ·rw [show (ad.add j).block=ad.block by unfold Addr.add; split <;> rfl]; exact HSG.out ad h1
   ·rw [show (ad.add j).block=ad.block by unfold Addr.add; split <;> rfl]; exact HSR.out ad h1)
  HZ2.out (by rw [zs_size];omega) (hkeep ⟨6,0,none⟩ _ HE.out H6.out.1 H6.out.2))
 clear hkeep
 have c0:w2.cell? ⟨g,0,none⟩=some (.iface 64 (.pointer (some ⟨rb,0,none⟩))):=blk_cell HG2.out 0
 have c1:w2.cell? ⟨g,1,none⟩=some (.slice (some ⟨bb,0,none⟩) 0 8192):=blk_cell HG2.out 1
 have h1:=nil_read ⟨rb,0,none⟩
 have h2:=method_read ⟨rb,0,none⟩
 refine start_ (n:=27) (S:=fun w'=>w'=(w2).drew) (ds:=[21]) (bA 27 0) (by kernel_rfl) rfl rfl rfl (fun _=>?_)
 refine pure_ (i:=0) (N:=some 79) (v:=?_) (a':=?_) (bA 27 1) rfl rfl (by kernel_rfl) (fun _ _ _ h=>h) (Or.inl ⟨by rfl,?_⟩) ?_ ?_
 rotate_left
 ·intro w';go_simp;with_reducible rfl
 rotate_left
 ·simp only [Act.put,aA,aB,aC,i64_w,i32_w];rfl
 refine pure_ (i:=1) (N:=some 80) (v:=?_) (a':=?_) (bA 27 3) rfl rfl (by kernel_rfl) (fun _ _ _ h=>h) (Or.inl ⟨by rfl,?_⟩) ?_ ?_
 rotate_left
 ·intro w';go_simp;with_reducible rfl
 rotate_left
 ·simp only [Act.put,aA,aB,aC,i64_w,i32_w];rfl
 refine pure_ (i:=2) (N:=some 81) (v:=?_) (a':=?_) (bA 27 7) rfl rfl (by kernel_rfl) (fun _ _ _ h=>h) (Or.inl ⟨by rfl,?_⟩) ?_ ?_
 rotate_left
 ·intro w';go_simp;with_reducible rfl
 rotate_left
 ·simp only [Act.put,aA,aB,aC,i64_w,i32_w];rfl
 refine take_ (i:=3) (N:=some 82) (v:=?_) (a':=?_) (bA 27 15) rfl rfl (by kernel_rfl) (fun _ _ _ h=>h) (Or.inl ⟨by rfl,?_⟩) rfl ?_ ?_
 rotate_left
 ·rintro w' rfl;go_simp;with_reducible rfl
 rotate_left
 ·simp only [Act.put,aA,aB,aC,i64_w,i32_w];rfl
 refine pure_ (i:=4) (N:=some 83) (v:=?_) (a':=?_) (bA 27 31) rfl rfl (by kernel_rfl) (fun _ _ _ h=>h) (Or.inl ⟨by rfl,?_⟩) ?_ ?_
 rotate_left
 ·intro w';go_simp;with_reducible rfl
 rotate_left
 ·simp only [Act.put,aA,aB,aC,i64_w,i32_w];rfl
 refine pure_ (i:=5) (N:=some 84) (v:=?_) (a':=?_) (bA 27 63) rfl rfl (by kernel_rfl) (fun _ _ _ h=>h) (Or.inl ⟨by rfl,?_⟩) ?_ ?_
 rotate_left
 ·intro w';go_simp;with_reducible rfl
 rotate_left
 ·simp only [Act.put,aA,aB,aC,i64_w,i32_w];rfl
 refine pure_ (i:=6) (N:=some 85) (v:=?_) (a':=?_) (bA 27 127) rfl rfl (by kernel_rfl) (fun _ _ _ h=>h) (Or.inl ⟨by rfl,?_⟩) ?_ ?_
 rotate_left
 ·intro w';go_simp;with_reducible rfl
 rotate_left
 ·simp only [Act.put,aA,aB,aC,i64_w,i32_w];rfl
 refine take_ (i:=7) (N:=some 86) (v:=?_) (a':=?_) (bA 27 255) rfl rfl (by kernel_rfl) (fun _ _ _ h=>h) (Or.inl ⟨by rfl,?_⟩) rfl ?_ ?_
 rotate_left
 ·rintro w' rfl;go_simp;with_reducible rfl
 rotate_left
 ·simp only [Act.put,aA,aB,aC,i64_w,i32_w];rfl
 refine pure_ (i:=8) (N:=some 87) (v:=?_) (a':=?_) (bA 27 511) rfl rfl (by kernel_rfl) (fun _ _ _ h=>h) (Or.inl ⟨by rfl,?_⟩) ?_ ?_
 rotate_left
 ·intro w';go_simp;with_reducible rfl
 rotate_left
 ·simp only [Act.put,aA,aB,aC,i64_w,i32_w];rfl
 refine pure_ (i:=9) (N:=some 88) (v:=?_) (a':=?_) (bA 27 1023) rfl rfl (by kernel_rfl) (fun _ _ _ h=>h) (Or.inl ⟨by rfl,?_⟩) ?_ ?_
 rotate_left
 ·intro w';go_simp;with_reducible rfl
 rotate_left
 ·simp only [Act.put,aA,aB,aC,i64_w,i32_w];rfl
 refine pure_ (i:=10) (N:=some 89) (v:=?_) (a':=?_) (bA 27 2047) rfl rfl (by kernel_rfl) (fun _ _ _ h=>h) (Or.inl ⟨by rfl,?_⟩) ?_ ?_
 rotate_left
 ·intro w';go_simp;with_reducible rfl
 rotate_left
 ·simp only [Act.put,aA,aB,aC,i64_w,i32_w];rfl
 refine take_ (i:=11) (N:=some 90) (v:=?_) (a':=?_) (bA 27 4095) rfl rfl (by kernel_rfl) (fun _ _ _ h=>h) (Or.inl ⟨by rfl,?_⟩) rfl ?_ ?_
 rotate_left
 ·rintro w' rfl;go_simp;with_reducible rfl
 rotate_left
 ·simp only [Act.put,aA,aB,aC,i64_w,i32_w];rfl
 refine pure_ (i:=12) (N:=some 91) (v:=?_) (a':=?_) (bA 27 8191) rfl rfl (by kernel_rfl) (fun _ _ _ h=>h) (Or.inl ⟨by rfl,?_⟩) ?_ ?_
 rotate_left
 ·intro w';go_simp;with_reducible rfl
 rotate_left
 ·simp only [Act.put,aA,aB,aC,i64_w,i32_w];rfl
 refine pure_ (i:=13) (N:=some 92) (v:=?_) (a':=?_) (bA 27 16383) rfl rfl (by kernel_rfl) (fun _ _ _ h=>h) (Or.inl ⟨by rfl,?_⟩) ?_ ?_
 rotate_left
 ·intro w';go_simp;with_reducible rfl
 rotate_left
 ·simp only [Act.put,aA,aB,aC,i64_w,i32_w];rfl
 refine pure_ (i:=14) (N:=some 93) (v:=?_) (a':=?_) (bA 27 32767) rfl rfl (by kernel_rfl) (fun _ _ _ h=>h) (Or.inl ⟨by rfl,?_⟩) ?_ ?_
 rotate_left
 ·intro w';go_simp;with_reducible rfl
 rotate_left
 ·simp only [Act.put,aA,aB,aC,i64_w,i32_w];rfl
 refine pure_ (i:=15) (N:=some 94) (v:=?_) (a':=?_) (bA 27 65535) rfl rfl (by kernel_rfl) (fun _ _ _ h=>h) (Or.inl ⟨by rfl,?_⟩) ?_ ?_
 rotate_left
 ·intro w';go_simp;with_reducible rfl
 rotate_left
 ·simp only [Act.put,aA,aB,aC,i64_w,i32_w];rfl
 refine take_ (i:=16) (N:=some 95) (v:=?_) (a':=?_) (bA 27 131071) rfl rfl (by kernel_rfl) (fun _ _ _ h=>h) (Or.inl ⟨by rfl,?_⟩) rfl ?_ ?_
 rotate_left
 ·rintro w' rfl;go_simp;with_reducible rfl
 rotate_left
 ·simp only [Act.put,aA,aB,aC,i64_w,i32_w];rfl
 refine pure_ (i:=17) (N:=some 96) (v:=?_) (a':=?_) (bA 27 262143) rfl rfl (by kernel_rfl) (fun _ _ _ h=>h) (Or.inl ⟨by rfl,?_⟩) ?_ ?_
 rotate_left
 ·intro w';go_simp;with_reducible rfl
 rotate_left
 ·simp only [Act.put,aA,aB,aC,i64_w,i32_w];rfl
 refine pure_ (i:=18) (N:=some 97) (v:=?_) (a':=?_) (bA 27 524287) rfl rfl (by kernel_rfl) (fun _ _ _ h=>h) (Or.inl ⟨by rfl,?_⟩) ?_ ?_
 rotate_left
 ·intro w';go_simp;with_reducible rfl
 rotate_left
 ·simp only [Act.put,aA,aB,aC,i64_w,i32_w];rfl
 refine pure_ (i:=19) (N:=some 98) (v:=?_) (a':=?_) (bA 27 1048575) rfl rfl (by kernel_rfl) (fun _ _ _ h=>h) (Or.inl ⟨by rfl,?_⟩) ?_ ?_
 rotate_left
 ·intro w';go_simp;with_reducible rfl
 rotate_left
 ·simp only [Act.put,aA,aB,aC,i64_w,i32_w];rfl
 refine pure_ (i:=20) (N:=some 99) (v:=?_) (a':=?_) (bA 27 2097151) rfl rfl (by kernel_rfl) (fun _ _ _ h=>h) (Or.inl ⟨by rfl,?_⟩) ?_ ?_
 rotate_left
 ·intro w';go_simp;with_reducible rfl
 rotate_left
 ·simp only [Act.put,aA,aB,aC,i64_w,i32_w];rfl
 refine last_ (i:=21) (N:=some 100) (bA 27 4194303) rfl rfl (by kernel_rfl) (by decide) (fun K hK=>?_)
 refine call_ 239 #[.pointer (some ⟨rb,0,none⟩),.slice (some ⟨bb,0,none⟩) 8192 8192] (by rfl) rfl (by go_simp) ?_
 refine (show Calls Tryz.prog 239 _ w2.drew _ from hcon.out).mono ?_
 rintro e w1 ⟨k,ev,rfl,hpost⟩
 refine ⟨_,rfl,hK.out _ _ ?_⟩
 clear hK K
 refine pure_ (i:=22) (N:=some 78) (v:=?_) (a':=?_) (bA 27 8388607) rfl rfl (by kernel_rfl) (fun _ _ _ h=>h) (Or.inl ⟨by rfl,?_⟩) ?_ ?_
 rotate_left
 ·intro w';go_simp;with_reducible rfl
 rotate_left
 ·simp only [Act.put,aA,aB,aC,i64_w,i32_w];rfl
 refine pure_ (i:=23) (N:=some 101) (v:=?_) (a':=?_) (bA 27 16777215) rfl rfl (by kernel_rfl) (fun _ _ _ h=>h) (Or.inl ⟨by rfl,?_⟩) ?_ ?_
 rotate_left
 ·intro w';go_simp;with_reducible rfl
 rotate_left
 ·simp only [Act.put,aA,aB,aC,i64_w,i32_w];rfl
 refine pure_ (i:=24) (N:=some 102) (v:=?_) (a':=?_) (bA 27 33554431) rfl rfl (by kernel_rfl) (fun _ _ _ h=>h) (Or.inl ⟨by rfl,?_⟩) ?_ ?_
 rotate_left
 ·intro w';go_simp;with_reducible rfl
 rotate_left
 ·simp only [Act.put,aA,aB,aC,i64_w,i32_w];rfl
 refine pure_ (i:=25) (N:=some 2) (v:=?_) (a':=?_) (bA 27 67108863) rfl rfl (by kernel_rfl) (fun _ _ _ h=>h) (Or.inl ⟨by rfl,?_⟩) ?_ ?_
 rotate_left
 ·intro w';go_simp;with_reducible rfl
 rotate_left
 ·simp only [Act.put,aA,aB,aC,i64_w,i32_w];rfl
 refine pure_ (i:=26) (N:=some 6) (v:=?_) (a':=?_) (bA 27 134217727) rfl rfl (by kernel_rfl) (fun _ _ _ h=>h) (Or.inl ⟨by rfl,?_⟩) ?_ ?_
 rotate_left
 ·intro w';go_simp;with_reducible rfl
 rotate_left
 ·simp only [Act.put,aA,aB,aC,i64_w,i32_w];rfl
 refine done_ (by kernel_rfl) ?_
 obtain ⟨hk,hev,hr,hp,ho⟩:=hpost
 have ho2:Only (fun k=>k=rb∨k=bb) w2 w1:=((Only.refl _ w2).drew).trans ho (fun _ h=>.inl h)
 have hg1:=blk_only HG2.out ho2 (by rintro (h | h);exact hgr h;exact hbbg h.symm)
 have HW:=Lib.hid (HO2.out.trans (S2:=fun k=>k=rb∨k=bb) ho2 (by rintro k (h | h);exact .inl (.inr h);exact .inr (by rw [h];exact Nat.le_of_eq HBB.out)))
 have hkl:=readN_le L sizes n 8192
 rw [←hk] at hkl
 have HKL:=Lib.hid hkl
 have b5:(k:Int)≤1000:=by omega
 have b6:(k:Int)≤8192:=by omega
 have b7:IntKind.i64.wrap (k:Int)=(k:Int):=IntWalk.i64_in _ (by omega)
 have b8:0≤(k:Int):=by omega
 have b9:((k:Int)).toNat=k:=by omega
 have b10:k≤8192:=by omega
 have HR:=Lib.hid hr;have HP:=Lib.hid hp
 have HKK:=Lib.hid hk;have HEV:=Lib.hid hev
 have HBG:=Lib.hid hbbg
 have HGR:=Lib.hid hgr
 clear hr hp ho ho2 hk hev c0 c1 h1 h2 hkl hcon hbbg hgr hb6
 have c1:w1.cell? ⟨g,1,none⟩=some (.slice (some ⟨bb,0,none⟩) 0 8192):=blk_cell hg1 1
 have f1:=blk_frozen hg1 1
 have HG1:=Lib.hid hg1;clear hg1
 go_wp2
 go_still_tail 15,(by kernel_rfl)
 change wpList _ _ _ _ _ w1.drew
 have HG3:=Lib.hid (blk_set (w:=w1.drew) HG1.out 1 (.slice (some ⟨bb,0,none⟩) k 8192))
 by_cases hL:L=[]
 ·have hev:ev=.iface 167 (.pointer (some ea)):=by rw [HEV.out,if_pos hL]
  rw [hev]
  have c4:w1.cell? ⟨g,4,none⟩=some (.bool false):=blk_cell HG1.out 4
  have f4:=blk_frozen HG1.out 4
  have he1:w1.cell? ⟨6,0,none⟩=some (.iface 167 (.pointer (some ea))):=by
   rw [World.cell?_of_block (w:=w) (HW.out.block 6 (block_lt_of_cell HE.out) (by rintro (h | h);exact H6.out.1 h;exact H6.out.2 h))];exact HE.out
  have hne:∀ w,(binOp .neq 48 (.iface 167 (.pointer (some ea))) (.iface 167 (.pointer (some ea)))).run Tryz.prog w=.ok (.bool false) w:=fun w=>run_neq_ptr_same w ea
  have HG4:=Lib.hid (blk_set HG3.out 4 (.bool true))
  clear hev
  have HL:=Lib.hid hL;clear hL
  go_wp2
  go_end0
  refine ⟨rfl,k,bb,HKK.out,Nat.le_of_eq HBB.out,?_,?_,?_,?_⟩
  ·rw [decide_eq_true HL.out];exact HG4.out
  ·rw [heap_drew,heap_setCell_other _ ⟨g,_,none⟩ rb _ (Ne.symm HGR.out),heap_setCell_other _ ⟨g,_,none⟩ rb _ (Ne.symm HGR.out)];exact HR.out
  ·rw [heap_drew,heap_setCell_other _ ⟨g,_,none⟩ bb _ HBG.out,heap_setCell_other _ ⟨g,_,none⟩ bb _ HBG.out];simpa using HP.out
  ·exact ((HW.out.setCell (p:=⟨g,1,none⟩) (.inl (.inl rfl)) _).setCell (p:=⟨g,4,none⟩) (.inl (.inl rfl)) _).drew
 ·have hev:ev=.nilIface:=by rw [HEV.out,if_neg hL]
  rw [hev]
  clear hev
  have HL:=Lib.hid hL;clear hL
  go_wp2
  go_end0
  refine ⟨rfl,k,bb,HKK.out,Nat.le_of_eq HBB.out,?_,?_,?_,?_⟩
  ·rw [decide_eq_false HL.out];exact HG3.out
  ·rw [heap_drew,heap_setCell_other _ ⟨g,_,none⟩ rb _ (Ne.symm HGR.out)];exact HR.out
  ·rw [heap_drew,heap_setCell_other _ ⟨g,_,none⟩ bb _ HBG.out];simpa using HP.out
  ·exact (HW.out.setCell (p:=⟨g,1,none⟩) (.inl (.inl rfl)) _).drew
end Go.Proofs.YtkfggfjdplnkpaaGreatDoor
end
section
namespace Go.Proofs.YtkfggfjdplnkpaaGreatDoor
open Go.RowKit
def lfs (l:List UInt8):Nat:=l.countP (·==10)
structure Ab where
 at_:Nat
 from_:Nat
 part:Nat
 skip:Bool
 esc:List UInt8
 line:Nat
structure Cn where
 rd:Value
 bv:Value
 bl:Nat
 bx:List Value
 r0:Nat
 r1:Nat
 cmp:Bool
 ev:Value
def mkF:Bool→Nat→Nat × Nat
 | true,c=>(c,c+1)
 | false,_=>(0,0)
def Cn.bm (C:Cn):Bool:=match C.rd with
 | .nilIface=>true
 | _=>false
def OwnsF (w:World) (base:Nat) (k:Bool) (v:Value) (n:Nat) (xs:List Value):Prop:=
 xs.length=n*1∧((v=.slice none 0 0∧n=0)∨∃ g cap cur,v=.slice (some ⟨g,0,none⟩) n cap∧base≤g∧w.heap[g]?=some (.cells cur 5 (mkF k cap))∧n≤cap∧cap≤maxLen∧cur.size=cap*1∧cur.toList.take (n*1)=xs)
def dcells (C:Cn) (A:Ab):Array Value:=
 #[C.rd,C.bv,.int .i64 C.r0,.int .i64 C.r1,.bool C.cmp,.int .u8 A.part,.bool A.skip,C.ev,.int .i64 (A.line:Int),.nilIface]
def Cn.rb (C:Cn):Option Nat:=match C.rd with
 | .iface _ (.pointer (some a))=>some a.block
 | _=>none
def Src (w:World) (B:Nat) (C:Cn) (T:List UInt8) (k m:Nat):Prop:=
 ∃ (rb:Nat) (a:Option Addr) (cap n:Nat) (sizes:List Int),C.rd=.iface 64 (.pointer (some ⟨rb,0,none⟩))∧B≤rb∧
  w.heap[rb]?=some (.cells #[.string ⟨(T.drop k).toArray⟩,.slice a sizes.length cap,.int .i64 n,.bool false] 105 (0,0))∧
  (∀ ad,a=some ad→ad.block<B)∧(∀ j,j<sizes.length→∃ ad,a=some ad∧w.cell? (ad.add j)=some (.int .i64 (sizes.getD j 0))∧sizes.getD j 0≤9223372036854775807)∧
  sizes.length≤1000∧n≤10000000∧
  (sizes=[]∧m=(T.length-k)*1001∨sizes≠[]∧∃ q,n≤q∧0<sizes.getD (q % sizes.length) 0∧q<(k+1)*sizes.length∧m=(T.length-k)*1001+(q-n))∧
  (C.bv=.slice none 0 0∨∃ b,C.bv=.slice (some b) C.bl 8192)
structure Rep (w:World) (B g:Nat) (T:List UInt8) (A:Ab) (C:Cn):Prop where
 blk:w.heap[g]?=some (.cells (dcells C A) 83 (0,0))
 base:B≤g
 own:OwnsF w B C.bm C.bv C.bl C.bx
 esc:w.ownsRow B 5 1 C.ev A.esc.length (A.esc.map bcell)
 escB:C.ev.ownBlock≠none
 ne:C.bv.ownBlock≠C.ev.ownBlock
 le01:C.r0≤C.r1
 le1:C.r1≤C.bl
 at_:A.from_+C.r1=A.at_+C.r0
 dat:C.bx.drop C.r0=((T.drop A.from_).take (C.bl-C.r0)).map bcell
 inT:A.from_+(C.bl-C.r0)≤T.length
 le0:C.r0≤A.from_
 big:T.length≤1000
 bigl:A.line≤1000000000
 prt:A.part≤5
 escL:A.esc.length≤1000
 all:C.cmp=true→A.from_+(C.bl-C.r0)=T.length
 src:C.cmp=false→∃ m,Src w B C T (A.from_+(C.bl-C.r0)) m
 rbB:∀ k,C.rb=some k→B≤k∧∃ cs,w.heap[k]?=some (.cells cs 105 (0,0))
def Own (g:Nat) (C:Cn) (k:Nat):Prop:=k=g∨C.bv.ownBlock=some k∨C.ev.ownBlock=some k∨C.rb=some k
structure Pas (g:Nat) (w:World) (C:Cn) (w':World) (C':Cn):Prop where
 only:Only (Own g C) w w'
 own:∀ k,Own g C' k→Own g C k∨w.heap.size≤k
theorem Pas.refl (g:Nat) (w:World) (C:Cn):Pas g w C w C:=⟨Only.refl _ _,fun _ h=>.inl h⟩
theorem Pas.trans {g:Nat} {w w1 w2:World} {C C1 C2:Cn} (h:Pas g w C w1 C1) (k:Pas g w1 C1 w2 C2):Pas g w C w2 C2:=
 ⟨h.only.trans k.only h.own,fun x hx=>by
  rcases k.own x hx with h1 | h1
  ·exact h.own x h1
  ·exact .inr (Nat.le_trans h.only.size h1)⟩
theorem Pas.below {g:Nat} {w w1 w2:World} {C C1:Cn} (h:Pas g w C w1 C1) (k:Below w1.heap.size w1 w2):Pas g w C w2 C1:=⟨h.only.then_below k,h.own⟩
theorem Pas.drewN {g:Nat} {w w1:World} {C C1:Cn} (h:Pas g w C w1 C1) (n:Nat):Pas g w C (w1.drewN n) C1:=⟨h.only.drewN n,h.own⟩
def Used (g:Nat) (A:Ab) (C:Cn) (b o:Nat):Prop:=b≠g∧C.rb≠some b∧(C.bv.ownBlock=some b→o<C.bl)∧(C.ev.ownBlock=some b→o<A.esc.length)
def Stay (g:Nat) (w:World) (A:Ab) (C:Cn) (w':World) (A':Ab) (C':Cn):Prop:=
 ∀ b o,b<w.heap.size→Used g A C b o→w'.cell? ⟨b,o,none⟩=w.cell? ⟨b,o,none⟩∧Used g A' C' b o
theorem Stay.refl (g:Nat) (w:World) (A:Ab) (C:Cn):Stay g w A C w A C:=fun _ _ _ h=>⟨rfl,h⟩
theorem Stay.trans {g:Nat} {w w1 w2:World} {A A1 A2:Ab} {C C1 C2:Cn} (h:Stay g w A C w1 A1 C1) (k:Stay g w1 A1 C1 w2 A2 C2) (hs:w.heap.size≤w1.heap.size):Stay g w A C w2 A2 C2:=
 fun b o hb hu=>by
  obtain ⟨h1,h2⟩:=h b o hb hu
  obtain ⟨h3,h4⟩:=k b o (by omega) h2
  exact ⟨h3.trans h1,h4⟩
structure Told (w:World) (g:Nat) (A:Ab) (C:Cn) (v:Value) (bs:List UInt8):Prop where
 len:∃ a cap,v=.slice a bs.length cap
 cells:bs≠[]→∃ b o cap,v=.slice (some ⟨b,o,none⟩) bs.length cap∧b<w.heap.size∧∀ j,j<bs.length→w.cell? ⟨b,o+j,none⟩=bs[j]?.map bcell∧Used g A C b (o+j)
theorem Told.stay {w w':World} {g:Nat} {A A':Ab} {C C':Cn} {v:Value} {bs:List UInt8} (h:Told w g A C v bs) (k:Stay g w A C w' A' C') (hs:w.heap.size≤w'.heap.size):Told w' g A' C' v bs:=
 ⟨h.len,fun hb=>by
  obtain ⟨b,o,cap,hv,hlt,hc⟩:=h.cells hb
  exact ⟨b,o,cap,hv,by omega,fun j hj=>by
   obtain ⟨h1,h2⟩:=hc j hj
   obtain ⟨h3,h4⟩:=k b (o+j) hlt h2
   exact ⟨h3.trans h1,h4⟩⟩⟩
namespace Rep
variable {w:World} {B g:Nat} {T:List UInt8} {A:Ab} {C:Cn}
theorem c0 (h:Rep w B g T A C):w.cell? ⟨g,0,none⟩=some C.rd:=blk_cell h.blk 0
theorem c1 (h:Rep w B g T A C):w.cell? ⟨g,1,none⟩=some C.bv:=blk_cell h.blk 1
theorem c2 (h:Rep w B g T A C):w.cell? ⟨g,2,none⟩=some (.int .i64 C.r0):=blk_cell h.blk 2
theorem c3 (h:Rep w B g T A C):w.cell? ⟨g,3,none⟩=some (.int .i64 C.r1):=blk_cell h.blk 3
theorem c4 (h:Rep w B g T A C):w.cell? ⟨g,4,none⟩=some (.bool C.cmp):=blk_cell h.blk 4
theorem c5 (h:Rep w B g T A C):w.cell? ⟨g,5,none⟩=some (.int .u8 A.part):=blk_cell h.blk 5
theorem c6 (h:Rep w B g T A C):w.cell? ⟨g,6,none⟩=some (.bool A.skip):=blk_cell h.blk 6
theorem c7 (h:Rep w B g T A C):w.cell? ⟨g,7,none⟩=some C.ev:=blk_cell h.blk 7
theorem c8 (h:Rep w B g T A C):w.cell? ⟨g,8,none⟩=some (.int .i64 (A.line:Int)):=blk_cell h.blk 8
theorem c9 (h:Rep w B g T A C):w.cell? ⟨g,9,none⟩=some .nilIface:=blk_cell h.blk 9
theorem fz (h:Rep w B g T A C) (j:Nat):w.frozen? ⟨g,j,none⟩=false:=blk_frozen h.blk j
theorem lt (h:Rep w B g T A C):g<w.heap.size:=blk_lt h.blk
theorem gne (h:Rep w B g T A C):C.bv.ownBlock≠some g:=by
 intro e
 rcases h.own.2 with ⟨hv,_⟩ | ⟨b,cap,cur,hv,_,hb,_⟩
 ·rw [hv] at e;simp [Value.ownBlock] at e
 ·rw [hv] at e
  obtain rfl:b=g:=by simpa [Value.ownBlock] using e
  exact blk_type h.blk hb (by decide) rfl
theorem gne' (h:Rep w B g T A C):C.ev.ownBlock≠some g:=by
 intro e
 rcases h.esc.2 with ⟨hv,_⟩ | ⟨b,cap,cur,hv,_,hb,_⟩
 ·rw [hv] at e;simp [Value.ownBlock] at e
 ·rw [hv] at e
  obtain rfl:b=g:=by simpa [Value.ownBlock] using e
  exact blk_type h.blk hb (by decide) rfl
theorem len_eq (h:Rep w B g T A C):C.bx.length=C.bl:=by have:=h.own.1;omega
theorem byte (h:Rep w B g T A C) (j:Nat) (h0:C.r0≤j) (h1:j<C.bl):C.bx[j]?=(T[A.from_+(j-C.r0)]?).map bcell:=by
 have e:=congrArg (fun l=>l[j-C.r0]?) h.dat
 simp only [List.getElem?_drop,List.getElem?_map,List.getElem?_take] at e
 rw [show C.r0+(j-C.r0)=j by omega,if_pos (by omega)] at e
 exact e
theorem bm_src (h:Rep w B g T A C) (hc:C.cmp=false):C.bm=false:=by
 obtain ⟨m,rb,a,cap,n,sizes,h1,_⟩:=h.src hc
 unfold Cn.bm
 rw [h1]
theorem form (h:Rep w B g T A C):(C.bv=.slice none 0 0∧C.bl=0)∨∃ b cap,C.bv=.slice (some ⟨b,0,none⟩) C.bl cap∧C.bl≤cap∧cap≤maxLen∧b<w.heap.size∧∀ j,j<C.bl→w.cell? ⟨b,j,none⟩=C.bx[j]?:=by
 rcases h.own.2 with hv | ⟨b,cap,cur,hv,_,hb,h1,h2,h3,h4⟩
 ·exact .inl hv
 ·refine .inr ⟨b,cap,hv,h1,h2,blk_lt hb,fun j hj=>?_⟩
  rw [cell_of_row _ _ j _ _ _ hb,←h4,List.getElem?_take,if_pos (by omega),Array.getElem?_toList]
end Rep
end Go.Proofs.YtkfggfjdplnkpaaGreatDoor
end
