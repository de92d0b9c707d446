/- A part of the proof that the law FnDecodeValues returns true; its conditions are those of the last part. -/
import Derived.Test.YtkfggfjdplnkpaaGreatDoorVSets
import Derived.StillTailTactics
import Derived.Lib.Hide
set_option maxRecDepth 100000
set_option linter.unusedVariables false
set_option linter.unusedSimpArgs false
section
namespace Go.Proofs.YtkfggfjdplnkpaaGreatDoor
open Go.RowKit
set_option maxHeartbeats 400000 in
theorem read_eof (rb:Nat) (A1:Option Addr) (sl scap n:Nat) (p:Value) (ve:Value) (w:World)
  (hb:w.heap[rb]?=some (.cells #[.string ⟨([]:List UInt8).toArray⟩,.slice A1 sl scap,.int .i64 n,.bool false] 105 (0,0)))
  (he:w.cell? ⟨6,0,none⟩=some ve) :
  Calls Tryz.prog 239 #[.pointer (some ⟨rb,0,none⟩),p] w fun e w'=>e=.returned (.tuple #[.int .i64 0,ve])∧∃ m,w'=w.drewN m:=by
 have c0:w.cell? ⟨rb,0,none⟩=some (.string ⟨([]:List UInt8).toArray⟩):=blk_cell hb 0
 have c3:w.cell? ⟨rb,3,none⟩=some (.bool false):=blk_cell hb 3
 clear hb
 go_enter Tryz.func239,Tryz.ntmps239
 go_wp2
 go_quiet (fail)
 go_wp2
 go_ret2
 exact ⟨rfl,_,rfl⟩
theorem bcells_one (l:List UInt8):∀ v∈l.map bcell,v.oneCell'=true:=by
 intro v hv
 obtain ⟨b,_,rfl⟩:=List.mem_map.1 hv
 rfl
section
variable {P:Program}
theorem run_copy_str (w:World) (dT sT ty elem:TypeId) (g o dLen dCap:Nat) (s:List UInt8) (cur:Array Value) (t:TypeId)
  (hu:P.underlying dT=some (.slice elem)) (hs:(P.info? elem).map (·.size)=some 1) (hg:w.heap[g]?=some (.cells cur t (0,0))) (k:Nat) (hk:k=Nat.min s.length dLen) (hfit:o+k≤cur.size) :
  (Builtin.copy_ #[dT,sT] ty #[.slice (some ⟨g,o,none⟩) dLen dCap,.string ⟨s.toArray⟩]).run P w =
   .ok (goInt k) (w.setRow g (cur.toList.take o++((s.map bcell).take k++cur.toList.drop (o+k))).toArray):=by
 have hks:k≤s.length:=by rw [hk];exact Nat.min_le_left _ _
 have hlen:((s.map bcell).take k).length=k:=by simp;omega
 have hst:=run_storeCells_at P g o t ((s.map bcell).take k) 0 cur w hg (by rw [hlen];simpa using hfit) (fun v hv=>bcells_one s v (List.mem_of_mem_take hv))
 have hsz:(⟨s.toArray⟩:ByteArray).size=s.length:=by simp [ByteArray.size]
 rw [hlen] at hst
 simp only [Nat.add_zero] at hst
 cases hq:P.info? elem with
 | none=>simp [hq] at hs
 | some i=>
  have hmin:Nat.min (⟨s.toArray⟩:ByteArray).size dLen=k:=by rw [hsz];exact hk.symm
  simp [Builtin.copy_,run_underlying hu,Builtin.lenOf,Builtin.firstCells,sizeOf,typeInfo,hq,hmin]
  rw [show List.map (fun b:UInt8=>Value.int IntKind.u8 (b.toNat:Int)) s=s.map bcell from rfl,hst,List.append_assoc]
  simp [Result.andThen]
theorem wpList_copy_str {w:World} {ops:Array Oper} {rest:List Oper} {o:Oper} {a:Act} {Q:Exit→Act→World→Prop} (hgd:o.guard=none) (d s:Operand) (dT sT:TypeId)
  (ho:o.op=.call { callee:=.builtin .copy,args:=#[d,s],argTypes:=#[dT,sT] }) (elem:TypeId) (hu:P.underlying dT=some (.slice elem)) (hsz:(P.info? elem).map (·.size)=some 1)
  (g off dLen dCap:Nat) (hd:a.eval d=.slice (some ⟨g,off,none⟩) dLen dCap) (l:List UInt8) (hs:a.eval s=.string ⟨l.toArray⟩)
  (cur:Array Value) (t:TypeId) (hg:w.heap[g]?=some (.cells cur t (0,0))) (k:Nat) (hk:k=Nat.min l.length dLen) (hfit:off+k≤cur.size)
  (h:wpList P ops Q rest (a.put o.dst (goInt k)) (w.setRow g (cur.toList.take off++((l.map bcell).take k++cur.toList.drop (off+k))).toArray)):wpList P ops Q (o::rest) a w:=by
 refine wpList_plain hgd fun K hK=>?_
 have hrun:=run_copy_str (P:=P) w dT sT o.type elem g off dLen dCap l cur t hu hsz hg k hk hfit
 unfold Oper.wp
 simp only [execOp,ho,resolve,invoke,builtin,hd,hs,hrun,Sem.run_bind,Sem.run_pure,Result.andThen_ok,List.map_toArray,List.map_cons,List.map_nil]
 exact hK _ _ h
end
theorem extract_drop (L:List UInt8) (k:Nat):(⟨L.toArray⟩:ByteArray).extract k L.length=⟨(L.drop k).toArray⟩:=by
 apply ByteArray.ext
 rw [ByteArray.data_extract]
 apply Array.ext'
 simp
 rw [List.take_of_length_le (by simp)]
theorem info5s:(Tryz.prog.info? 5).map (·.size)=some 1:=by kernel_rfl
set_option maxHeartbeats 400000 in
theorem read_all (rb:Nat) (L:List UInt8) (A1:Option Addr) (scap n pb po pn pc:Nat) (cur:Array Value) (w:World) (hL:L≠[]) (hl:L.length≤1000) (hp:4096≤pn) (hpc:pn≤pc) (_hpm:pc≤9223372036854775807)
  (hb:w.heap[rb]?=some (.cells #[.string ⟨L.toArray⟩,.slice A1 0 scap,.int .i64 n,.bool false] 105 (0,0)))
  (hcur:w.heap[pb]?=some (.cells cur 5 (0,0))) (hfit:po+pn≤cur.size) :
  Calls Tryz.prog 239 #[.pointer (some ⟨rb,0,none⟩),.slice (some ⟨pb,po,none⟩) pn pc] w fun e w'=>e=.returned (.tuple #[.int .i64 L.length,.nilIface])∧
   w'.heap[rb]?=some (.cells #[.string ⟨#[]⟩,.slice A1 0 scap,.int .i64 n,.bool false] 105 (0,0))∧
   w'.heap[pb]?=some (.cells (cur.toList.take po++(L.map bcell++cur.toList.drop (po+L.length))).toArray 5 (0,0))∧Only (fun k=>k=rb∨k=pb) w w':=by
 have c0:w.cell? ⟨rb,0,none⟩=some (.string ⟨L.toArray⟩):=blk_cell hb 0
 have c1:w.cell? ⟨rb,1,none⟩=some (.slice A1 0 scap):=blk_cell hb 1
 have c3:w.cell? ⟨rb,3,none⟩=some (.bool false):=blk_cell hb 3
 have hne:rb≠pb:=blk_type hb hcur (by decide)
 have hm1:¬(pn:Int)<(L.length:Int):=by omega
 have hm3:¬pn<L.length:=by omega
 have hm4:L.length≤pc:=by omega
 have hm5:L.length≤pn:=by omega
 have hm2:(L.length:Int)≤(pc:Int):=by omega
 have hl0:((L.length:Int)==0)=false:=by simpa using hL
 go_enter Tryz.func239,Tryz.ntmps239
 have HB:=Lib.hid hb;clear hb
 have HC:=Lib.hid hcur;clear hcur
 go_wp2
 go_still_tail 10,(by kernel_rfl)
 change wpList _ _ _ _ _ w.drew
 refine wpList_copy_str rfl (.tmp 67) (.tmp 71) 54 9 rfl 5 Tryz.underlying54 info5s pb po L.length _ rfl L rfl cur 5 HC.out L.length (by simp) (by omega) ?_
 generalize hw2:w.drew.setRow pb _=w2
 have hb2:w2.heap[rb]?=some (.cells #[.string ⟨L.toArray⟩,.slice A1 0 scap,.int .i64 n,.bool false] 105 (0,0)):=by rw [←hw2,setRow_other _ _ _ _ hne];exact HB.out
 have hp2:w2.heap[pb]?=some (.cells (cur.toList.take po++(L.map bcell++cur.toList.drop (po+L.length))).toArray 5 (0,0)):=by rw [←hw2,setRow_heap w.drew pb cur _ 5 _ HC.out,List.take_of_length_le (l:=L.map bcell) (by simp)]
 have ho2:Only (fun k=>k=rb∨k=pb) w w2:=by rw [←hw2];exact (Only.refl _ w).drew.trans (S2:=fun k=>k=pb) ⟨rfl,rfl,rfl,by simp [World.setRow],fun k _ hk=>setRow_other _ _ k _ hk⟩ (fun k hk=>.inl (.inr hk))
 clear hw2 c0 c1 c3
 have c0:w2.cell? ⟨rb,0,none⟩=some (.string ⟨L.toArray⟩):=blk_cell hb2 0
 have f0:=blk_frozen hb2 0
 have hb3:=blk_set hb2 0 (.string ⟨#[]⟩)
 have HB2:=Lib.hid hb2;clear hb2
 have HB3:=Lib.hid hb3;clear hb3
 have HP2:=Lib.hid hp2;clear hp2
 go_wp2
 go_ret2
 refine ⟨rfl,HB3.out,?_,ho2.setCell (.inl (.inl rfl)) _⟩
 rw [heap_setCell_other _ _ _ _ (Ne.symm hne)]
 exact HP2.out
set_option maxHeartbeats 1000000 in
theorem read_sized_neg (rb:Nat) (L:List UInt8) (ad:Addr) (sl scap n pb po pn pc:Nat) (z:Int) (hz:z≤0) (k:Nat) (cur:Array Value) (w:World) (hL:L≠[]) (_hl:L.length≤1000) (_hp:4096≤pn) (hpc:pn≤pc) (_hpm:pc≤9223372036854775807)
  (hsl:0<sl) (hslm:sl≤1000) (hn:n≤10000000) (hk:k=Nat.min L.length (0))
  (hb:w.heap[rb]?=some (.cells #[.string ⟨L.toArray⟩,.slice (some ad) sl scap,.int .i64 n,.bool false] 105 (0,0)))
  (hsz:w.cell? (ad.add (n % sl))=some (.int .i64 (z)))
  (hcur:w.heap[pb]?=some (.cells cur 5 (0,0))) (hfit:po+pn≤cur.size) :
  Calls Tryz.prog 239 #[.pointer (some ⟨rb,0,none⟩),.slice (some ⟨pb,po,none⟩) pn pc] w fun e w'=>e=.returned (.tuple #[.int .i64 k,.nilIface])∧
   w'.heap[rb]?=some (.cells #[.string ⟨(L.drop k).toArray⟩,.slice (some ad) sl scap,.int .i64 ((n+1:Nat):Int),.bool false] 105 (0,0))∧
   w'.heap[pb]?=some (.cells (cur.toList.take po++((L.map bcell).take k++cur.toList.drop (po+k))).toArray 5 (0,0))∧Only (fun k=>k=rb∨k=pb) w w':=by
 have c0:w.cell? ⟨rb,0,none⟩=some (.string ⟨L.toArray⟩):=blk_cell hb 0
 have c1:w.cell? ⟨rb,1,none⟩=some (.slice (some ad) sl scap):=blk_cell hb 1
 have c2:w.cell? ⟨rb,2,none⟩=some (.int .i64 n):=blk_cell hb 2
 have c3:w.cell? ⟨rb,3,none⟩=some (.bool false):=blk_cell hb 3
 have f2:=blk_frozen hb 2
 have hne:rb≠pb:=blk_type hb hcur (by decide)
 have hl0:((L.length:Int)==0)=false:=by simpa using hL
 have hmod:n % sl<sl:=Nat.mod_lt _ hsl
 have hm7:(0:Int)≤(n:Int) % (sl:Int):=by omega
 have hm8:(n:Int) % (sl:Int)<(sl:Int):=by omega
 have hkl:k≤L.length:=by rw [hk];exact Nat.min_le_left _ _
 have hkd:k≤0:=by rw [hk];exact Nat.min_le_right _ _
 have hkp:po+k≤cur.size:=by omega
 have hkl':(k:Int)≤(L.length:Int):=by omega
 have hz1:¬0<z:=by omega
 have hp1:¬(pn:Int)<0:=by omega
 have hp4:0<pc:=by omega
 have hp5:¬pc=0:=by omega
 go_enter Tryz.func239,Tryz.ntmps239
 have HB:=Lib.hid hb;clear hb
 have HC:=Lib.hid hcur;clear hcur
 have HK:=Lib.hid hk;clear hk
 go_wp2
 go_quiet (fail)
 go_wp2
 have HB1:=Lib.hid (blk_set (w:=w.drewN nq) HB.out 2 (.int .i64 ((n:Int)+1)))
 have HC1:=Lib.hid ((heap_setCell_other (w.drewN nq) ⟨rb,2,none⟩ pb (.int .i64 ((n:Int)+1)) (Ne.symm hne)).trans HC.out)
 have HO1:=Lib.hid (((Only.refl (fun k=>k=rb∨k=pb) w).drewN nq).setCell (p:=⟨rb,2,none⟩) (.inl (.inl rfl)) (.int .i64 ((n:Int)+1)))
 generalize (w.drewN nq).setCell ⟨rb,2,none⟩ (.int .i64 ((n:Int)+1))=w1 at *
 clear c0 c1 c2 c3 f2 hsz
 have c0:w1.cell? ⟨rb,0,none⟩=some (.string ⟨L.toArray⟩):=blk_cell HB1.out 0
 have hp6:(if (pn:Int)<0 then (pn:Int) else 0)=0:=if_neg (by omega)
 go_still_tail 10,(by kernel_rfl)
 change wpList _ _ _ _ _ w1.drew
 refine wpList_copy_str rfl (.tmp 67) (.tmp 71) 54 9 rfl 5 Tryz.underlying54 info5s pb po (0) _ rfl L rfl cur 5 HC1.out k HK.out hkp ?_
 generalize hw2:w1.drew.setRow pb _=w2
 have hb2:w2.heap[rb]?=some (.cells #[.string ⟨L.toArray⟩,.slice (some ad) sl scap,.int .i64 ((n:Int)+1),.bool false] 105 (0,0)):=by rw [←hw2,setRow_other _ _ _ _ hne];exact HB1.out
 have hp2:w2.heap[pb]?=some (.cells (cur.toList.take po++((L.map bcell).take k++cur.toList.drop (po+k))).toArray 5 (0,0)):=by rw [←hw2,setRow_heap w1.drew pb cur _ 5 _ HC1.out]
 have ho2:Only (fun k=>k=rb∨k=pb) w w2:=by rw [←hw2];exact HO1.out.drew.trans (S2:=fun k=>k=pb) ⟨rfl,rfl,rfl,by simp [World.setRow],fun k _ hk=>setRow_other _ _ k _ hk⟩ (fun k hk=>.inl (.inr hk))
 clear hw2 c0
 have c0:w2.cell? ⟨rb,0,none⟩=some (.string ⟨L.toArray⟩):=blk_cell hb2 0
 have f0:=blk_frozen hb2 0
 have hb3:=blk_set hb2 0 (.string ⟨(L.drop k).toArray⟩)
 have HB2:=Lib.hid hb2;clear hb2
 have HB3:=Lib.hid hb3;clear hb3
 have HP2:=Lib.hid hp2;clear hp2
 go_wp2
 go_ret2
 refine ⟨rfl,?_,?_,ho2.setCell (.inl (.inl rfl)) _⟩
 ·rw [extract_drop];exact HB3.out
 ·rw [heap_setCell_other _ _ _ _ (Ne.symm hne)]
  exact HP2.out
set_option maxHeartbeats 1000000 in
theorem read_sized_fit (rb:Nat) (L:List UInt8) (ad:Addr) (sl scap n pb po pn pc:Nat) (m:Nat) (hm0:0<m) (hm1:m≤pn) (k:Nat) (cur:Array Value) (w:World) (hL:L≠[]) (_hl:L.length≤1000) (_hp:4096≤pn) (hpc:pn≤pc) (_hpm:pc≤9223372036854775807)
  (hsl:0<sl) (hslm:sl≤1000) (hn:n≤10000000) (hk:k=Nat.min L.length (m))
  (hb:w.heap[rb]?=some (.cells #[.string ⟨L.toArray⟩,.slice (some ad) sl scap,.int .i64 n,.bool false] 105 (0,0)))
  (hsz:w.cell? (ad.add (n % sl))=some (.int .i64 ((m:Int))))
  (hcur:w.heap[pb]?=some (.cells cur 5 (0,0))) (hfit:po+pn≤cur.size) :
  Calls Tryz.prog 239 #[.pointer (some ⟨rb,0,none⟩),.slice (some ⟨pb,po,none⟩) pn pc] w fun e w'=>e=.returned (.tuple #[.int .i64 k,.nilIface])∧
   w'.heap[rb]?=some (.cells #[.string ⟨(L.drop k).toArray⟩,.slice (some ad) sl scap,.int .i64 ((n+1:Nat):Int),.bool false] 105 (0,0))∧
   w'.heap[pb]?=some (.cells (cur.toList.take po++((L.map bcell).take k++cur.toList.drop (po+k))).toArray 5 (0,0))∧Only (fun k=>k=rb∨k=pb) w w':=by
 have c0:w.cell? ⟨rb,0,none⟩=some (.string ⟨L.toArray⟩):=blk_cell hb 0
 have c1:w.cell? ⟨rb,1,none⟩=some (.slice (some ad) sl scap):=blk_cell hb 1
 have c2:w.cell? ⟨rb,2,none⟩=some (.int .i64 n):=blk_cell hb 2
 have c3:w.cell? ⟨rb,3,none⟩=some (.bool false):=blk_cell hb 3
 have f2:=blk_frozen hb 2
 have hne:rb≠pb:=blk_type hb hcur (by decide)
 have hl0:((L.length:Int)==0)=false:=by simpa using hL
 have hmod:n % sl<sl:=Nat.mod_lt _ hsl
 have hm7:(0:Int)≤(n:Int) % (sl:Int):=by omega
 have hm8:(n:Int) % (sl:Int)<(sl:Int):=by omega
 have hkl:k≤L.length:=by rw [hk];exact Nat.min_le_left _ _
 have hkd:k≤m:=by rw [hk];exact Nat.min_le_right _ _
 have hkp:po+k≤cur.size:=by omega
 have hkl':(k:Int)≤(L.length:Int):=by omega
 have hz1:0<(m:Int):=by omega
 have hp1:¬(pn:Int)<(m:Int):=by omega
 have hp2:¬pn<m:=by omega
 have hp3:m≤pc:=by omega
 go_enter Tryz.func239,Tryz.ntmps239
 have HB:=Lib.hid hb;clear hb
 have HC:=Lib.hid hcur;clear hcur
 have HK:=Lib.hid hk;clear hk
 go_wp2
 go_quiet (fail)
 go_wp2
 have HB1:=Lib.hid (blk_set (w:=w.drewN nq) HB.out 2 (.int .i64 ((n:Int)+1)))
 have HC1:=Lib.hid ((heap_setCell_other (w.drewN nq) ⟨rb,2,none⟩ pb (.int .i64 ((n:Int)+1)) (Ne.symm hne)).trans HC.out)
 have HO1:=Lib.hid (((Only.refl (fun k=>k=rb∨k=pb) w).drewN nq).setCell (p:=⟨rb,2,none⟩) (.inl (.inl rfl)) (.int .i64 ((n:Int)+1)))
 generalize (w.drewN nq).setCell ⟨rb,2,none⟩ (.int .i64 ((n:Int)+1))=w1 at *
 clear c0 c1 c2 c3 f2 hsz
 have c0:w1.cell? ⟨rb,0,none⟩=some (.string ⟨L.toArray⟩):=blk_cell HB1.out 0
 go_still_tail 10,(by kernel_rfl)
 change wpList _ _ _ _ _ w1.drew
 refine wpList_copy_str rfl (.tmp 67) (.tmp 71) 54 9 rfl 5 Tryz.underlying54 info5s pb po (m) _ rfl L rfl cur 5 HC1.out k HK.out hkp ?_
 generalize hw2:w1.drew.setRow pb _=w2
 have hb2:w2.heap[rb]?=some (.cells #[.string ⟨L.toArray⟩,.slice (some ad) sl scap,.int .i64 ((n:Int)+1),.bool false] 105 (0,0)):=by rw [←hw2,setRow_other _ _ _ _ hne];exact HB1.out
 have hp2:w2.heap[pb]?=some (.cells (cur.toList.take po++((L.map bcell).take k++cur.toList.drop (po+k))).toArray 5 (0,0)):=by rw [←hw2,setRow_heap w1.drew pb cur _ 5 _ HC1.out]
 have ho2:Only (fun k=>k=rb∨k=pb) w w2:=by rw [←hw2];exact HO1.out.drew.trans (S2:=fun k=>k=pb) ⟨rfl,rfl,rfl,by simp [World.setRow],fun k _ hk=>setRow_other _ _ k _ hk⟩ (fun k hk=>.inl (.inr hk))
 clear hw2 c0
 have c0:w2.cell? ⟨rb,0,none⟩=some (.string ⟨L.toArray⟩):=blk_cell hb2 0
 have f0:=blk_frozen hb2 0
 have hb3:=blk_set hb2 0 (.string ⟨(L.drop k).toArray⟩)
 have HB2:=Lib.hid hb2;clear hb2
 have HB3:=Lib.hid hb3;clear hb3
 have HP2:=Lib.hid hp2;clear hp2
 go_wp2
 go_ret2
 refine ⟨rfl,?_,?_,ho2.setCell (.inl (.inl rfl)) _⟩
 ·rw [extract_drop];exact HB3.out
 ·rw [heap_setCell_other _ _ _ _ (Ne.symm hne)]
  exact HP2.out
set_option maxHeartbeats 1000000 in
theorem read_sized_big (rb:Nat) (L:List UInt8) (ad:Addr) (sl scap n pb po pn pc:Nat) (m:Nat) (hm0:pn<m) (hm1:m≤9223372036854775807) (k:Nat) (cur:Array Value) (w:World) (hL:L≠[]) (_hl:L.length≤1000) (_hp:4096≤pn) (hpc:pn≤pc) (_hpm:pc≤9223372036854775807)
  (hsl:0<sl) (hslm:sl≤1000) (hn:n≤10000000) (hk:k=Nat.min L.length (pn))
  (hb:w.heap[rb]?=some (.cells #[.string ⟨L.toArray⟩,.slice (some ad) sl scap,.int .i64 n,.bool false] 105 (0,0)))
  (hsz:w.cell? (ad.add (n % sl))=some (.int .i64 ((m:Int))))
  (hcur:w.heap[pb]?=some (.cells cur 5 (0,0))) (hfit:po+pn≤cur.size) :
  Calls Tryz.prog 239 #[.pointer (some ⟨rb,0,none⟩),.slice (some ⟨pb,po,none⟩) pn pc] w fun e w'=>e=.returned (.tuple #[.int .i64 k,.nilIface])∧
   w'.heap[rb]?=some (.cells #[.string ⟨(L.drop k).toArray⟩,.slice (some ad) sl scap,.int .i64 ((n+1:Nat):Int),.bool false] 105 (0,0))∧
   w'.heap[pb]?=some (.cells (cur.toList.take po++((L.map bcell).take k++cur.toList.drop (po+k))).toArray 5 (0,0))∧Only (fun k=>k=rb∨k=pb) w w':=by
 have c0:w.cell? ⟨rb,0,none⟩=some (.string ⟨L.toArray⟩):=blk_cell hb 0
 have c1:w.cell? ⟨rb,1,none⟩=some (.slice (some ad) sl scap):=blk_cell hb 1
 have c2:w.cell? ⟨rb,2,none⟩=some (.int .i64 n):=blk_cell hb 2
 have c3:w.cell? ⟨rb,3,none⟩=some (.bool false):=blk_cell hb 3
 have f2:=blk_frozen hb 2
 have hne:rb≠pb:=blk_type hb hcur (by decide)
 have hl0:((L.length:Int)==0)=false:=by simpa using hL
 have hmod:n % sl<sl:=Nat.mod_lt _ hsl
 have hm7:(0:Int)≤(n:Int) % (sl:Int):=by omega
 have hm8:(n:Int) % (sl:Int)<(sl:Int):=by omega
 have hkl:k≤L.length:=by rw [hk];exact Nat.min_le_left _ _
 have hkd:k≤pn:=by rw [hk];exact Nat.min_le_right _ _
 have hkp:po+k≤cur.size:=by omega
 have hkl':(k:Int)≤(L.length:Int):=by omega
 have hz1:0<(m:Int):=by omega
 have hp1:(pn:Int)<(m:Int):=by omega
 go_enter Tryz.func239,Tryz.ntmps239
 have HB:=Lib.hid hb;clear hb
 have HC:=Lib.hid hcur;clear hcur
 have HK:=Lib.hid hk;clear hk
 go_wp2
 go_quiet (fail)
 go_wp2
 have HB1:=Lib.hid (blk_set (w:=w.drewN nq) HB.out 2 (.int .i64 ((n:Int)+1)))
 have HC1:=Lib.hid ((heap_setCell_other (w.drewN nq) ⟨rb,2,none⟩ pb (.int .i64 ((n:Int)+1)) (Ne.symm hne)).trans HC.out)
 have HO1:=Lib.hid (((Only.refl (fun k=>k=rb∨k=pb) w).drewN nq).setCell (p:=⟨rb,2,none⟩) (.inl (.inl rfl)) (.int .i64 ((n:Int)+1)))
 generalize (w.drewN nq).setCell ⟨rb,2,none⟩ (.int .i64 ((n:Int)+1))=w1 at *
 clear c0 c1 c2 c3 f2 hsz
 have c0:w1.cell? ⟨rb,0,none⟩=some (.string ⟨L.toArray⟩):=blk_cell HB1.out 0
 go_still_tail 10,(by kernel_rfl)
 change wpList _ _ _ _ _ w1.drew
 refine wpList_copy_str rfl (.tmp 67) (.tmp 71) 54 9 rfl 5 Tryz.underlying54 info5s pb po (pn) _ rfl L rfl cur 5 HC1.out k HK.out hkp ?_
 generalize hw2:w1.drew.setRow pb _=w2
 have hb2:w2.heap[rb]?=some (.cells #[.string ⟨L.toArray⟩,.slice (some ad) sl scap,.int .i64 ((n:Int)+1),.bool false] 105 (0,0)):=by rw [←hw2,setRow_other _ _ _ _ hne];exact HB1.out
 have hp2:w2.heap[pb]?=some (.cells (cur.toList.take po++((L.map bcell).take k++cur.toList.drop (po+k))).toArray 5 (0,0)):=by rw [←hw2,setRow_heap w1.drew pb cur _ 5 _ HC1.out]
 have ho2:Only (fun k=>k=rb∨k=pb) w w2:=by rw [←hw2];exact HO1.out.drew.trans (S2:=fun k=>k=pb) ⟨rfl,rfl,rfl,by simp [World.setRow],fun k _ hk=>setRow_other _ _ k _ hk⟩ (fun k hk=>.inl (.inr hk))
 clear hw2 c0
 have c0:w2.cell? ⟨rb,0,none⟩=some (.string ⟨L.toArray⟩):=blk_cell hb2 0
 have f0:=blk_frozen hb2 0
 have hb3:=blk_set hb2 0 (.string ⟨(L.drop k).toArray⟩)
 have HB2:=Lib.hid hb2;clear hb2
 have HB3:=Lib.hid hb3;clear hb3
 have HP2:=Lib.hid hp2;clear hp2
 go_wp2
 go_ret2
 refine ⟨rfl,?_,?_,ho2.setCell (.inl (.inl rfl)) _⟩
 ·rw [extract_drop];exact HB3.out
 ·rw [heap_setCell_other _ _ _ _ (Ne.symm hne)]
  exact HP2.out
end Go.Proofs.YtkfggfjdplnkpaaGreatDoor
end
