/- Part 21 of the proof of FnTableComesBack: contracts and lemmas, each under the conditions that it states. Texts: RSk2, RSk3, BIt, BEnt. -/
import Derived.Test.YtmkdpjicgjhhjaaGreatDoorC20
import Derived.Test.YtmkdpjicgjhhjaaGreatDoorC15
import Derived.Test.YtmkdpjicgjhhjaaGreatDoorC07
namespace Go.Proofs.YtmkdpjicgjhhjaaGreatDoor
open Go.Lib (hid)
set_option maxRecDepth 100000
set_option linter.all false
section
open Go Go.RowKit Go.Shelf
theorem belowCell {B:Nat} {w w':World} (h:Below B w w') {b o:Nat} {v:Value} (hb:b < B) (hv:w.cell? ⟨b,o,none⟩=some v):w'.cell? ⟨b,o,none⟩=some v :=
 (World.cell?_of_block (a:=⟨b,o,none⟩) (h.block b hb)).trans hv
set_option maxHeartbeats 4000000 in
theorem rclos_any (w:World) (p q boff blen:Nat) (D:Bs) (nr ro:Nat) (h:Rb w p q boff blen D nr ro) (a1 a2 a3 rs off:Nat) (hv1:w.cell? ⟨a1,0,none⟩=some (.pointer (some ⟨p,0,none⟩))) (hv2:w.cell? ⟨a2,0,none⟩=some (.int .i64 rs)) (hv3:w.cell? ⟨a3,0,none⟩=some (.int .i64 off))
  (i o:Nat) (hi:rs+i≤nr) (ho:o < 4294967296) {r:Bs} (hD:D.drop (ro+4*(rs+i))=Lib.leBytes 4 o++r) :
  Calls Tryz.prog 123 #[.int .i64 i,.pointer (some ⟨a1,0,none⟩),.pointer (some ⟨a2,0,none⟩),.pointer (some ⟨a3,0,none⟩)] w fun e w'=>e=.returned (.bool (decide (off < o)))∧Below w.heap.size w w':=by
 have hl:=h.len;have hm:=h.max;have hq3:=h.blk.cell (k:=3) rfl;have hq5:=h.blk.cell (k:=5) rfl;have hn:=fun k=>(h.drewN k).num (rs+i) o hi ho hD
 have hs:∀ w',(Instr.slice 29 (.slice (some ⟨q,0,none⟩) D.length (D.length+5)) (some (.int .i64 ((ro:Int)+4*((rs:Int)+(i:Int))))) none none).run Tryz.prog w'=.ok (.slice (some ⟨q,ro+4*(rs+i),none⟩) (D.length - (ro+4*(rs+i))) (D.length+5 - (ro+4*(rs+i)))) w':=fun w'=>by
  rw [show (ro:Int)+4*((rs:Int)+(i:Int))=((ro+4*(rs+i):Nat):Int) by omega];exact h.cut (ro+4*(rs+i)) (by omega) w'
 have hw0:IntKind.i64.wrap ((rs:Int)+(i:Int))=(rs:Int)+(i:Int):=IntWalk.i64_in _ (by omega);have hw1:IntKind.i64.wrap (4*((rs:Int)+(i:Int)))=4*((rs:Int)+(i:Int)):=IntWalk.i64_in _ (by omega);have hw2:IntKind.i64.wrap ((ro:Int)+4*((rs:Int)+(i:Int)))=(ro:Int)+4*((rs:Int)+(i:Int)):=IntWalk.i64_in _ (by omega);have hw3:IntKind.i64.wrap (o:Int)=(o:Int):=IntWalk.i64_in _ (by omega);generalize ro+4*(rs+i)=x1 at *
 generalize D.length - x1=x2 at *;generalize D.length+5 - x1=x3 at *;generalize D.length+5=LC at *;generalize D.length=L at *;clear h hD hl;go_enter Tryz.func123,Tryz.ntmps123
 go_wp2_with fail
 refine Pos.start (fun W:World=>W.cell? ⟨a1,0,none⟩=some (.pointer (some ⟨p,0,none⟩))∧W.cell? ⟨a2,0,none⟩=some (.int .i64 rs)∧W.cell? ⟨a3,0,none⟩=some (.int .i64 off)∧W.cell? ⟨p,3,none⟩=some (.slice (some ⟨q,0,none⟩) L LC)∧W.cell? ⟨p,5,none⟩=some (.int .i64 ro)) 19 (by kernel_rfl) ?_;have hS:(fun W:World=>W.cell? ⟨a1,0,none⟩=some (.pointer (some ⟨p,0,none⟩))∧W.cell? ⟨a2,0,none⟩=some (.int .i64 rs)∧W.cell? ⟨a3,0,none⟩=some (.int .i64 off)∧W.cell? ⟨p,3,none⟩=some (.slice (some ⟨q,0,none⟩) L LC)∧W.cell? ⟨p,5,none⟩=some (.int .i64 ro)) (w.drewN 1):=⟨hv1,hv2,hv3,hq3,hq5⟩
 iterate 15
  refine' Pos.takeK hS rfl (by kernel_rfl) (fun _ _ _ h=>h) (by rfl) ?_ ?_;rotate_left
  ·intro W hW;obtain ⟨s1,s2,s3,s4,s5⟩:=hW;go_simp;try with_reducible rfl
  intro K hK;go_simp;refine hK _ ?_;clear hK K
 refine Pos.toG 5 #[true,true,true,true,true,true,true,true,true,true,true,true,true,true,true,false,false,false,false,false] rfl (by kernel_rfl) ?_;refine' PosG.takeK (k:=17) hS rfl (by kernel_rfl) (fun _ _ _ h=>h) (by rfl) ?_ ?_;rotate_left
 ·intro W hW;obtain ⟨s1,s2,s3,s4,s5⟩:=hW;go_simp;try with_reducible rfl
 intro K hK;go_simp;refine hK _ ?_;clear hK K;refine PosG.eff (k:=15) rfl (by kernel_rfl) ?_;go_wp2_with fail
 refine (hn _).mono ?_;rintro e w1 ⟨rfl,hb⟩;have HB:Below w.heap.size w w1:=(Below.drewN' w.heap.size w 1).trans hb;have hS1:(fun W:World=>W.cell? ⟨a1,0,none⟩=some (.pointer (some ⟨p,0,none⟩))∧W.cell? ⟨a2,0,none⟩=some (.int .i64 rs)∧W.cell? ⟨a3,0,none⟩=some (.int .i64 off)∧W.cell? ⟨p,3,none⟩=some (.slice (some ⟨q,0,none⟩) L LC)∧W.cell? ⟨p,5,none⟩=some (.int .i64 ro)) w1:=⟨belowCell HB (lt_of_cell hv1) hv1,belowCell HB (lt_of_cell hv2) hv2,belowCell HB (lt_of_cell hv3) hv3,belowCell HB (lt_of_cell hq3) hq3,belowCell HB (lt_of_cell hq5) hq5⟩
 clear hn hb hS;dsimp only;go_wp2_with fail
 refine ⟨hS1,?_⟩;have hS:=hS1;refine' PosG.takeK (k:=16) hS rfl (by kernel_rfl) (fun _ _ _ h=>h) (by rfl) ?_ ?_;rotate_left
 ·intro W hW;obtain ⟨s1,s2,s3,s4,s5⟩:=hW;go_simp;try with_reducible rfl
 intro K hK;go_simp;refine hK _ ?_;clear hK K;refine' PosG.takeK (k:=18) hS rfl (by kernel_rfl) (fun _ _ _ h=>h) (by rfl) ?_ ?_;rotate_left
 ·intro W hW;obtain ⟨s1,s2,s3,s4,s5⟩:=hW;go_simp;try with_reducible rfl
 intro K hK;go_simp;refine hK _ ?_;clear hK K;refine PosG.tail rfl (by kernel_rfl) (by kernel_rfl) (by decide) ?_;simp only [List.drop_succ_cons,List.drop_zero];go_wp2
 go_ret
 exact ⟨rfl,HB⟩
def RThr (D:Bs) (ro rs n off j:Nat):Prop:=j≤n∧∀ i,i < n→∃ o r,D.drop (ro+4*(rs+i))=Lib.leBytes 4 o++r∧o < 4294967296∧(off < o↔j≤i)
set_option maxHeartbeats 4000000 in
theorem restartIndex_any (w:World) (p q boff blen:Nat) (D:Bs) (nr ro:Nat) (h:Rb w p q boff blen D nr ro) (rs rl off j:Nat) (hrs:rs≤rl) (hrl:rl≤nr) (hoff:off≤4294967295) (hj:RThr D ro rs (rl - rs) off j) (hj0:1≤rs+j) :
  Calls Tryz.prog 102 #[.pointer (some ⟨p,0,none⟩),.int .i64 rs,.int .i64 rl,.int .i64 off] w fun e w'=>e=.returned (.int .i64 ((rs+j - 1:Nat):Int))∧Below w.heap.size w w':=by
 have hl:=h.len;have hm:=h.max;have hq4:=h.blk.cell (k:=4) rfl;obtain ⟨w1,hw1⟩:∃ w1,w1=((w.alloc (Obj.cells #[Value.pointer (some ⟨p,0,none⟩)] 141)).alloc (Obj.cells #[Value.int .i64 rs] 3)).alloc (Obj.cells #[Value.int .i64 off] 3):=⟨_,rfl⟩;have hb1:Below w.heap.size w w1:=by
  rw [hw1];exact (((Below.refl w.heap.size w).alloc (Nat.le_refl _) _).alloc (by simp) _).alloc (by simp;omega) _
 have hc1:w1.cell? ⟨w.heap.size,0,none⟩=some (.pointer (some ⟨p,0,none⟩)):=by
  rw [hw1];exact (((Blk.new w _ _).alloc _).alloc _).cell (k:=0) rfl
 have hc2:w1.cell? ⟨w.heap.size+1,0,none⟩=some (.int .i64 rs):=by
  rw [hw1];have:=((Blk.new (w.alloc (Obj.cells #[Value.pointer (some ⟨p,0,none⟩)] 141)) #[Value.int .i64 rs] 3).alloc (.cells #[Value.int .i64 off] 3)).cell (k:=0) rfl;simpa using this
 have hc3:w1.cell? ⟨w.heap.size+1+1,0,none⟩=some (.int .i64 off):=by
  rw [hw1];have:=(Blk.new ((w.alloc (Obj.cells #[Value.pointer (some ⟨p,0,none⟩)] 141)).alloc (Obj.cells #[Value.int .i64 rs] 3)) #[Value.int .i64 off] 3).cell (k:=0) rfl;simpa using this
 have hsz1:w1.heap.size=w.heap.size+1+1+1:=by rw [hw1];simp
 have H1:Rb w1 p q boff blen D nr ro:=h.keep (hb1.block p h.blk.lt) (hb1.block q h.qlt);have hc4:=H1.blk.cell (k:=4) rfl;have hse:=fun k=>search_any (w1.drewN k) 123 (enters_of Tryz.func123 (by kernel_rfl) rfl) #[.pointer (some ⟨w.heap.size,0,none⟩),.pointer (some ⟨w.heap.size+1,0,none⟩),.pointer (some ⟨w.heap.size+1+1,0,none⟩)] (rl - rs) j (by omega) hj.1 (fun W=>Below w1.heap.size w1 W) (Below.drewN' _ _ _) (fun i hi W hW=>by
  obtain ⟨o,r,hD,ho,hiff⟩:=hj.2 i hi;have hR:Rb W p q boff blen D nr ro:=H1.keep (hW.block p H1.blk.lt) (hW.block q H1.qlt);have hc:=rclos_any W p q boff blen D nr ro hR w.heap.size (w.heap.size+1) (w.heap.size+1+1) rs off (belowCell hW (by omega) hc1) (belowCell hW (by omega) hc2) (belowCell hW (by omega) hc3) i o (by omega) ho hD;have hd:decide (off < o)=decide (j≤i):=by
   by_cases hx:j≤i
   ·rw [decide_eq_true hx,decide_eq_true (hiff.2 hx)]
   ·rw [decide_eq_false hx,decide_eq_false (fun hy=>hx (hiff.1 hy))]
  rw [hd] at hc;exact hc.mono (fun e w' ⟨he,hb⟩=>⟨he,hW.trans (Below.mono hb hW.size)⟩))
 have hwn1:IntKind.i64.wrap ((nr:Int) - (rs:Int))=(nr:Int) - (rs:Int):=IntWalk.i64_in _ (by omega);have hwn2:IntKind.i64.wrap ((nr:Int) - (rl:Int))=(nr:Int) - (rl:Int):=IntWalk.i64_in _ (by omega);have hwn3:IntKind.i64.wrap ((nr:Int) - (rs:Int) - ((nr:Int) - (rl:Int)))=((rl - rs:Nat):Int):=by
  rw [show (nr:Int) - (rs:Int) - ((nr:Int) - (rl:Int))=((rl - rs:Nat):Int) by omega];exact IntWalk.i64_in _ (by omega)
 have hjn:=hj.1;have hwn4:IntKind.i64.wrap ((j:Int)+(rs:Int))=(j:Int)+(rs:Int):=IntWalk.i64_in _ (by omega);have hwn5:IntKind.i64.wrap ((j:Int)+(rs:Int) - 1)=((rs+j - 1:Nat):Int):=by
  rw [show (j:Int)+(rs:Int) - 1=((rs+j - 1:Nat):Int) by omega];exact IntWalk.i64_in _ (by omega)
 have HJ:=hid hj;have HB1:=hid hb1;generalize hRJ:rs+j - 1=RJ at *;generalize hRN:rl - rs=RN at *;clear hRJ hRN h H1 hj hj0 hjn hb1 hl hm hsz1 hq4;go_enter Tryz.func102,Tryz.ntmps102
 go_upto_region 1 with fail
 rw [← hw1];clear hw1;refine Pos.start (fun W:World=>W.cell? ⟨w.heap.size,0,none⟩=some (.pointer (some ⟨p,0,none⟩))∧W.cell? ⟨w.heap.size+1,0,none⟩=some (.int .i64 rs)∧W.cell? ⟨p,4,none⟩=some (.int .i64 nr)) 18 (by kernel_rfl) ?_;have hS:(fun W:World=>W.cell? ⟨w.heap.size,0,none⟩=some (.pointer (some ⟨p,0,none⟩))∧W.cell? ⟨w.heap.size+1,0,none⟩=some (.int .i64 rs)∧W.cell? ⟨p,4,none⟩=some (.int .i64 nr)) (w1.drewN 1):=⟨hc1,hc2,hc4⟩
 iterate 14
  refine' Pos.takeK hS rfl (by kernel_rfl) (fun _ _ _ h=>h) (by rfl) ?_ ?_;rotate_left
  ·intro W hW;obtain ⟨s1,s2,s3⟩:=hW;go_simp;try with_reducible rfl
  intro K hK;go_simp;refine hK _ ?_;clear hK K
 refine Pos.toG 5 #[true,true,true,true,true,true,true,true,true,true,true,true,true,true,false,false,false,false,false] rfl (by kernel_rfl) ?_;refine' PosG.takeK (k:=15) hS rfl (by kernel_rfl) (fun _ _ _ h=>h) (by rfl) ?_ ?_;rotate_left
 ·intro W hW;obtain ⟨s1,s2,s3⟩:=hW;go_simp;try with_reducible rfl
 intro K hK;go_simp;refine hK _ ?_;clear hK K;refine PosG.eff (k:=14) rfl (by kernel_rfl) ?_;go_wp2_with fail
 refine (hse _).mono ?_;rintro e w2 ⟨rfl,hb⟩;have hS1:(fun W:World=>W.cell? ⟨w.heap.size,0,none⟩=some (.pointer (some ⟨p,0,none⟩))∧W.cell? ⟨w.heap.size+1,0,none⟩=some (.int .i64 rs)∧W.cell? ⟨p,4,none⟩=some (.int .i64 nr)) w2:=⟨belowCell hb (lt_of_cell hc1) hc1,belowCell hb (lt_of_cell hc2) hc2,belowCell hb (lt_of_cell hc4) hc4⟩;have HB:Below w.heap.size w w2:=HB1.out.trans (Below.mono hb HB1.out.size)
 clear hse hb hS;dsimp only;go_wp2_with fail
 refine ⟨hS1,?_⟩;have hS:=hS1;refine' PosG.takeK (k:=16) hS rfl (by kernel_rfl) (fun _ _ _ h=>h) (by rfl) ?_ ?_;rotate_left
 ·intro W hW;obtain ⟨s1,s2,s3⟩:=hW;go_simp;try with_reducible rfl
 intro K hK;go_simp;refine hK _ ?_;clear hK K;refine' PosG.takeK (k:=17) hS rfl (by kernel_rfl) (fun _ _ _ h=>h) (by rfl) ?_ ?_;rotate_left
 ·intro W hW;obtain ⟨s1,s2,s3⟩:=hW;go_simp;try with_reducible rfl
 intro K hK;go_simp;refine hK _ ?_;clear hK K;refine PosG.tail rfl (by kernel_rfl) (by kernel_rfl) (by decide) ?_;simp only [List.drop_succ_cons,List.drop_zero];go_wp2
 go_ret
 exact ⟨rfl,HB⟩
end
section
open Go Go.RowKit Go.Shelf
set_option maxHeartbeats 4000000 in
theorem seek_any (w:World) (p q boff blen:Nat) (D:Bs) (nr ro:Nat) (h:Rb w p q boff blen D nr ro) (rs rl j idx x:Nat) (hrs:rs≤rl) (hrl:rl≤nr) (ka:Option Addr) (kn kc:Nat) (key:Bs) (hk:Sl w ka kn kc key) (kf:Nat→Bs)
  (hkey:∀ i,i < rl - rs→∃ o v2 n1 n2,RKey D ro (rs+i) o (kf (rs+i)) v2 n1 n2) (hj:j≤rl - rs) (hthr:∀ i,i < rl - rs→(0 < Lib.compareBytes (kf (rs+i)) key↔j≤i)) (hidx:idx=if j=0 then rs else rs+j - 1) (hx:x < 4294967296) {r:Bs} (hD:D.drop (ro+4*idx)=Lib.leBytes 4 x++r) :
  Calls Tryz.prog 114 #[.pointer (some ⟨p,0,none⟩),.iface 192 (.agg #[]),.int .i64 rs,.int .i64 rl,.slice ka kn kc] w fun e w'=>e=.returned (.tuple #[.int .i64 idx,.int .i64 x,.nilIface])∧Below w.heap.size w w':=by
 have hl:=h.len;have hm:=h.max;obtain ⟨w1,hw1⟩:∃ w1,w1=(((w.alloc (Obj.cells #[Value.pointer (some ⟨p,0,none⟩)] 141)).alloc (Obj.cells #[Value.iface 192 (.agg #[])] 93)).alloc (Obj.cells #[Value.int .i64 rs] 3)).alloc (Obj.cells #[Value.slice ka kn kc] 29):=⟨_,rfl⟩;have hb1:Below w.heap.size w w1:=by
  rw [hw1];exact ((((Below.refl w.heap.size w).alloc (Nat.le_refl _) _).alloc (by simp) _).alloc (by simp;omega) _).alloc (by simp;omega) _
 have hc1:w1.cell? ⟨w.heap.size,0,none⟩=some (.pointer (some ⟨p,0,none⟩)):=by
  rw [hw1];exact ((((Blk.new w _ _).alloc _).alloc _).alloc _).cell (k:=0) rfl
 have hc3:w1.cell? ⟨w.heap.size+1,0,none⟩=some (.iface 192 (.agg #[])):=by
  rw [hw1];have:=(((Blk.new (w.alloc (Obj.cells #[Value.pointer (some ⟨p,0,none⟩)] 141)) #[Value.iface 192 (.agg #[])] 93).alloc (.cells #[Value.int .i64 rs] 3)).alloc (.cells #[Value.slice ka kn kc] 29)).cell (k:=0) rfl;simpa using this
 have hc2:w1.cell? ⟨w.heap.size+1+1,0,none⟩=some (.int .i64 rs):=by
  rw [hw1];have:=((Blk.new ((w.alloc (Obj.cells #[Value.pointer (some ⟨p,0,none⟩)] 141)).alloc (Obj.cells #[Value.iface 192 (.agg #[])] 93)) #[Value.int .i64 rs] 3).alloc (.cells #[Value.slice ka kn kc] 29)).cell (k:=0) rfl;simpa using this
 have hc4:w1.cell? ⟨w.heap.size+1+1+1,0,none⟩=some (.slice ka kn kc):=by
  rw [hw1];have:=(Blk.new (((w.alloc (Obj.cells #[Value.pointer (some ⟨p,0,none⟩)] 141)).alloc (Obj.cells #[Value.iface 192 (.agg #[])] 93)).alloc (.cells #[Value.int .i64 rs] 3)) #[Value.slice ka kn kc] 29).cell (k:=0) rfl;simpa using this
 have hsz1:w1.heap.size=w.heap.size+1+1+1+1:=by rw [hw1];simp
 have H1:Rb w1 p q boff blen D nr ro:=h.keep (hb1.block p h.blk.lt) (hb1.block q h.qlt);have hk1:Sl w1 ka kn kc key:=hk.fr (S:=fun _=>False) (Fr.of_below hb1) (fun _ _ h=>h);have hcn:=H1.blk.cell (k:=4) rfl;have hse:=fun k=>search_any (w1.drewN k) 125 (enters_of Tryz.func125 (by kernel_rfl) rfl) #[.pointer (some ⟨w.heap.size,0,none⟩),.pointer (some ⟨w.heap.size+1+1,0,none⟩),.pointer (some ⟨w.heap.size+1,0,none⟩),.pointer (some ⟨w.heap.size+1+1+1,0,none⟩)] (rl - rs) j (by omega) hj (fun W=>Below w1.heap.size w1 W) (Below.drewN' _ _ _) (fun i hi W hW=>by
  obtain ⟨o,v2,n1,n2,hR⟩:=hkey i hi;have hRb:Rb W p q boff blen D nr ro:=H1.keep (hW.block p H1.blk.lt) (hW.block q H1.qlt);have hc:=sclos_any W p q boff blen D nr ro hRb w.heap.size (w.heap.size+1+1) (w.heap.size+1) (w.heap.size+1+1+1) rs ka kn kc key ⟨belowCell hW (by omega) hc1,belowCell hW (by omega) hc2,belowCell hW (by omega) hc3,belowCell hW (by omega) hc4⟩ (hk1.fr (S:=fun _=>False) (Fr.of_below hW) (fun _ _ h=>h)) i o v2 n1 n2 _ (by omega) hR
  have hd:decide (0 < Lib.compareBytes (kf (rs+i)) key)=decide (j≤i):=by
   by_cases hx:j≤i
   ·rw [decide_eq_true hx,decide_eq_true ((hthr i hi).2 hx)]
   ·rw [decide_eq_false hx,decide_eq_false (fun hy=>hx ((hthr i hi).1 hy))]
  rw [hd] at hc;exact hc.mono (fun e w' ⟨he,hb⟩=>⟨he,hW.trans (Below.mono hb hW.size)⟩))
 have hwn1:IntKind.i64.wrap ((nr:Int) - (rs:Int))=(nr:Int) - (rs:Int):=IntWalk.i64_in _ (by omega);have hwn2:IntKind.i64.wrap ((nr:Int) - (rl:Int))=(nr:Int) - (rl:Int):=IntWalk.i64_in _ (by omega);have hwn3:IntKind.i64.wrap ((nr:Int) - (rs:Int) - ((nr:Int) - (rl:Int)))=((rl - rs:Nat):Int):=by
  rw [show (nr:Int) - (rs:Int) - ((nr:Int) - (rl:Int))=((rl - rs:Nat):Int) by omega];exact IntWalk.i64_in _ (by omega)
 have hwn4:IntKind.i64.wrap ((j:Int)+(rs:Int))=(j:Int)+(rs:Int):=IntWalk.i64_in _ (by omega);have hwn5:IntKind.i64.wrap ((j:Int)+(rs:Int) - 1)=(j:Int)+(rs:Int) - 1:=IntWalk.i64_in _ (by omega);have hib:idx≤nr:=by rw [hidx];split <;> omega
 have hn:∀ w2 k,Below w1.heap.size w1 w2→Calls Tryz.prog 101 #[.agg #[],.slice (some ⟨q,ro+4*idx,none⟩) (D.length - (ro+4*idx)) (D.length+5 - (ro+4*idx))] (w2.drewN k) fun e w'=>e=.returned (.int .u32 x)∧Below w2.heap.size (w2.drewN k) w':=fun w2 k hb =>
  ((H1.keep (hb.block p H1.blk.lt) (hb.block q H1.qlt)).drewN k).num idx x hib hx hD
 have hs:∀ w',(Instr.slice 29 (.slice (some ⟨q,0,none⟩) D.length (D.length+5)) (some (.int .i64 ((ro:Int)+4*(idx:Int)))) none none).run Tryz.prog w'=.ok (.slice (some ⟨q,ro+4*idx,none⟩) (D.length - (ro+4*idx)) (D.length+5 - (ro+4*idx))) w':=fun w'=>by
  rw [show (ro:Int)+4*(idx:Int)=((ro+4*idx:Nat):Int) by omega];exact h.cut (ro+4*idx) (by omega) w'
 have hwx1:IntKind.i64.wrap (4*(idx:Int))=4*(idx:Int):=IntWalk.i64_in _ (by omega);have hwx2:IntKind.i64.wrap ((ro:Int)+4*(idx:Int))=(ro:Int)+4*(idx:Int):=IntWalk.i64_in _ (by omega);have hwx3:IntKind.i64.wrap (x:Int)=(x:Int):=IntWalk.i64_in _ (by omega);have hq3:=H1.blk.cell (k:=3) rfl;have hq5:=H1.blk.cell (k:=5) rfl;have HI:=hid hidx;have HB1:=hid hb1;have hjb:j≤2147483647:=by omega
 have hrb:rs≤2147483647:=by omega
 generalize hx1:ro+4*idx=x1 at *;generalize D.length - x1=x2 at *;generalize D.length+5 - x1=x3 at *;generalize D.length+5=LC at *;generalize D.length=L at *;generalize hRN:rl - rs=RN at *;clear hx1 hRN h H1 hj hb1 hl hm hsz1 hD hkey hthr hidx hk hk1 hib hx;go_enter Tryz.func114,Tryz.ntmps114
 go_upto_region 1 with fail
 rw [← hw1];clear hw1;go_cut [10] (fun t wx=>t=.int .i64 ((j:Int)+(rs:Int) - 1)∧Below w1.heap.size w1 wx)
 case first =>
  refine Pos.start (fun W:World=>W.cell? ⟨w.heap.size,0,none⟩=some (.pointer (some ⟨p,0,none⟩))∧W.cell? ⟨w.heap.size+1+1,0,none⟩=some (.int .i64 rs)∧W.cell? ⟨p,4,none⟩=some (.int .i64 nr)) 18 (by kernel_rfl) ?_;have hS:(fun W:World=>W.cell? ⟨w.heap.size,0,none⟩=some (.pointer (some ⟨p,0,none⟩))∧W.cell? ⟨w.heap.size+1+1,0,none⟩=some (.int .i64 rs)∧W.cell? ⟨p,4,none⟩=some (.int .i64 nr)) (w1.drewN 1):=⟨hc1,hc2,hcn⟩
  iterate 14
   refine' Pos.takeK hS rfl (by kernel_rfl) (fun _ _ _ h=>h) (by rfl) ?_ ?_;rotate_left
   ·intro W hW;obtain ⟨s1,s2,s3⟩:=hW;go_simp;try with_reducible rfl
   intro K hK;go_simp;refine hK _ ?_;clear hK K
  refine Pos.toG 5 #[true,true,true,true,true,true,true,true,true,true,true,true,true,true,false,false,false,false,false] rfl (by kernel_rfl) ?_;refine' PosG.takeK (k:=15) hS rfl (by kernel_rfl) (fun _ _ _ h=>h) (by rfl) ?_ ?_;rotate_left
  ·intro W hW;obtain ⟨s1,s2,s3⟩:=hW;go_simp;try with_reducible rfl
  intro K hK;go_simp;refine hK _ ?_;clear hK K;refine PosG.eff (k:=14) rfl (by kernel_rfl) ?_;go_wp2_with fail
  refine (hse _).mono ?_;rintro e w2 ⟨rfl,hb⟩;have hS1:(fun W:World=>W.cell? ⟨w.heap.size,0,none⟩=some (.pointer (some ⟨p,0,none⟩))∧W.cell? ⟨w.heap.size+1+1,0,none⟩=some (.int .i64 rs)∧W.cell? ⟨p,4,none⟩=some (.int .i64 nr)) w2:=⟨belowCell hb (lt_of_cell hc1) hc1,belowCell hb (lt_of_cell hc2) hc2,belowCell hb (lt_of_cell hcn) hcn⟩;have HB:=hid hb;clear hse hb hS;dsimp only;go_wp2_with fail
  refine ⟨hS1,?_⟩;have hS:=hS1;refine' PosG.takeK (k:=16) hS rfl (by kernel_rfl) (fun _ _ _ h=>h) (by rfl) ?_ ?_;rotate_left
  ·intro W hW;obtain ⟨s1,s2,s3⟩:=hW;go_simp;try with_reducible rfl
  intro K hK;go_simp;refine hK _ ?_;clear hK K;refine' PosG.takeK (k:=17) hS rfl (by kernel_rfl) (fun _ _ _ h=>h) (by rfl) ?_ ?_;rotate_left
  ·intro W hW;obtain ⟨s1,s2,s3⟩:=hW;go_simp;try with_reducible rfl
  intro K hK;go_simp;refine hK _ ?_;clear hK K;refine PosG.tail rfl (by kernel_rfl) (by kernel_rfl) (by decide) ?_;simp only [List.drop_succ_cons,List.drop_zero];go_wp2_with fail
  go_meet
  case rel=>exact ⟨rfl,HB.out⟩
 case rest =>
  obtain ⟨rfl,hb⟩:=hcut;have hc2':=belowCell hb (lt_of_cell hc2) hc2;have hc1':=belowCell hb (lt_of_cell hc1) hc1;have hq3':=belowCell hb (lt_of_cell hq3) hq3;have hq5':=belowCell hb (lt_of_cell hq5) hq5;have hn2:=fun k=>hn wc k hb
  have HB:Below w.heap.size w wc:=HB1.out.trans (Below.mono hb HB1.out.size);clear hn hse hc1 hc2 hc3 hc4 hq3 hq5 hcn;go_upto_if 33 with fail
  go_cut [10] (fun t wx=>t=.int .i64 (idx:Int)∧wc=wx)
  case first =>
   by_cases hj0:j=0
   ·have HX:Hid (idx=rs):=hid (by rw [HI.out,if_pos hj0]);have hlt:(j:Int)+(rs:Int) - 1 < (rs:Int):=by omega
    clear hj0;go_wp2_with fail
    go_meet
    case rel=>exact ⟨by rw [HX.out],rfl⟩
   ·have HX:Hid ((j:Int)+(rs:Int) - 1=(idx:Int)):=hid (by rw [HI.out,if_neg hj0];omega);have hlt:¬ ((j:Int)+(rs:Int) - 1 < (rs:Int)):=by omega
    clear hj0;go_wp2_with fail
    go_meet
    case rel=>exact ⟨by rw [HX.out],rfl⟩
  case rest =>
   obtain ⟨rfl,rfl⟩:=hcut;go_wp2_with fail
   refine wp_tail 13 (by kernel_rfl) ?_;simp only [List.take_succ_cons,List.take_zero,List.drop_succ_cons,List.drop_zero];repeat still_step
   refine wpStill_nil ?_;go_wp2_with fail
   refine (hn2 _).mono ?_;rintro e w3 ⟨rfl,hb3⟩;have HF:Below w.heap.size w w3:=HB.trans (Below.mono (w:=wc) ⟨hb3.os,hb3.tape,hb3.output,hb3.size,hb3.block⟩ HB.size);clear hn2 hb3;dsimp only;go_wp2
   go_returns
   exact ⟨rfl,HF⟩
end
section
open Go Go.RowKit Go.Shelf
theorem un224:Tryz.prog.underlying 224=some (.slice 3):=by kernel_rfl
theorem sz3:(Tryz.prog.info? 3).map (·.size)=some 1:=by kernel_rfl
theorem info3:(Tryz.prog.info? 3).map (fun i=>(i.zero,i.size,i.bytes))=some (some (.int .i64 0),1,8):=by kernel_rfl
def iv (l:List Nat):List Value:=l.map fun x:Nat=>Value.int .i64 (x:Int)
theorem iv_length (l:List Nat):(iv l).length=l.length:=by simp [iv]
theorem iv_append (a b:List Nat):iv (a++b)=iv a++iv b:=by simp [iv]
theorem iv_one (l:List Nat):∀ v∈iv l,v.oneCell'=true:=by
 intro v hv;simp only [iv,List.mem_map] at hv;obtain ⟨x,_,rfl⟩:=hv;rfl
theorem own_take {w:World} {e n:Nat} {v:Value} {xs:List Value} (h:w.ownsRow 0 e 1 v n xs) (m:Nat) (hm:m≤n):∃ a c,v=.slice a n c∧m≤c∧w.ownsRow 0 e 1 (.slice a m c) m (xs.take m)∧(Value.slice a m c).ownBlock=v.ownBlock:=by
 obtain ⟨h1,h⟩:=h;rcases h with ⟨rfl,rfl⟩ | ⟨g,cap,cur,rfl,h0,hg,hn,hx,hs,ht⟩
 ·have hm0:m=0:=by omega
  subst hm0;exact ⟨none,0,rfl,Nat.le_refl _,⟨rfl,.inl ⟨rfl,rfl⟩⟩,rfl⟩
 ·refine ⟨_,cap,rfl,by omega,⟨?_,.inr ⟨g,cap,cur,rfl,h0,hg,by omega,hx,hs,?_⟩⟩,rfl⟩
  ·simp only [List.length_take];omega
  ·rw [← ht];simp [List.take_take];omega
structure IC where
 tr:Nat
 p:Nat
 x2:Value
 riS:Nat
 riL:Nat
 oS:Nat
 oR:Nat
 oL:Nat
structure IS where
 kv:Value
 vv:Value
 off:Nat
 poff:Nat
 nv:Value
 pv:Value
 rix:Nat
 dir:Nat
def bic (c:IC) (s:IS):Array Value:=#[.pointer (some ⟨c.tr,0,none⟩),.pointer (some ⟨c.p,0,none⟩),c.x2,.nilIface,s.kv,s.vv,.int .i64 s.off,.int .i64 s.poff,s.nv,s.pv,.int .i64 s.rix,.int .i64 s.dir,.int .i64 c.riS,.int .i64 c.riL,.int .i64 c.oS,.int .i64 c.oR,.int .i64 c.oL,.nilIface]
structure BI (w:World) (g:Nat) (c:IC) (s:IS) (O:Own) (key:Bs) (nodes:List Nat) (pk:Bs):Prop where
 blk:Blk w g (bic c s) 226
 key:w.ownsRow 0 5 1 s.kv key.length (bv key)
 keyO:s.kv.ownBlock=O.f
 nodes:w.ownsRow 0 3 1 s.nv nodes.length (iv nodes)
 nodesO:s.nv.ownBlock=O.r
 pk:w.ownsRow 0 5 1 s.pv pk.length (bv pk)
 pkO:s.pv.ownBlock=O.p
 dis:O.dis g
theorem BI.lt {w:World} {g:Nat} {c:IC} {s:IS} {O:Own} {key:Bs} {nodes:List Nat} {pk:Bs} (h:BI w g c s O key nodes pk) {k:Nat} (hk:O.has k):k < w.heap.size:=by
 rcases hk with hk | hk | hk
 ·exact own_lt h.key (h.keyO.trans hk)
 ·exact own_lt h.pk (h.pkO.trans hk)
 ·exact own_lt h.nodes (h.nodesO.trans hk)
theorem BI.keep {w w':World} {g:Nat} {c:IC} {s:IS} {O:Own} {key:Bs} {nodes:List Nat} {pk:Bs} (h:BI w g c s O key nodes pk) (hk:∀ k,k=g∨O.has k→w'.heap[k]?=w.heap[k]?):BI w' g c s O key nodes pk :=
 ⟨(hk g (.inl rfl)).trans h.blk,own_keep h.key (fun k e=>hk k (.inr (.inl (h.keyO.symm.trans e)))),h.keyO,own_keep h.nodes (fun k e=>hk k (.inr (.inr (.inr (h.nodesO.symm.trans e))))),h.nodesO,own_keep h.pk (fun k e=>hk k (.inr (.inr (.inl (h.pkO.symm.trans e))))),h.pkO,h.dis⟩
theorem BI.drewN {w:World} {g:Nat} {c:IC} {s:IS} {O:Own} {key:Bs} {nodes:List Nat} {pk:Bs} (h:BI w g c s O key nodes pk) (k:Nat):BI (w.drewN k) g c s O key nodes pk:=h.keep (fun _ _=>rfl)
def BITo (g:Nat) (c:IC) (O:Own) (w w':World) (P:IS→Bs→List Nat→Bs→Prop):Prop :=
 ∃ s' O' key' nodes' pk',BI w' g c s' O' key' nodes' pk'∧P s' key' nodes' pk'∧Fr (fun k=>k=g∨O.has k) w w'∧∀ k,O'.has k→O.has k∨w.heap.size≤k
theorem BITo.mono {g:Nat} {c:IC} {O:Own} {w w':World} {P Q:IS→Bs→List Nat→Bs→Prop} (h:BITo g c O w w' P) (hpq:∀ s k n p,P s k n p→Q s k n p):BITo g c O w w' Q:=by
 obtain ⟨s',O',k',n',p',h1,h2,h3,h4⟩:=h;exact ⟨s',O',k',n',p',h1,hpq _ _ _ _ h2,h3,h4⟩
theorem BITo.trans {g:Nat} {c:IC} {O O1:Own} {w w1 w2:World} {Q:IS→Bs→List Nat→Bs→Prop} (hf:Fr (fun k=>k=g∨O.has k) w w1) (hO:∀ k,O1.has k→O.has k∨w.heap.size≤k) (h:BITo g c O1 w1 w2 Q):BITo g c O w w2 Q:=by
 obtain ⟨s',O',k',n',p',h1,h2,h3,h4⟩:=h;refine ⟨s',O',k',n',p',h1,h2,hf.trans h3 (fun k hk h=>?_),fun k hk=>?_⟩
 ·rcases h with h | h
  ·exact .inl h
  ·exact (hO k h).elim .inr (fun h'=>absurd h' (by omega))
 ·rcases h4 k hk with h | h
  ·exact hO k h
  ·exact .inr (by have:=hf.size;omega)
section
variable {w:World} {g:Nat} {c:IC} {s:IS} {O:Own} {key:Bs} {nodes:List Nat} {pk:Bs}
theorem BI.setNum (h:BI w g c s O key nodes pk) (s':IS) (j:Nat) (x:Value) (hc:(bic c s).setIfInBounds j x=bic c s') (h1:s'.kv=s.kv) (h2:s'.nv=s.nv) (h3:s'.pv=s.pv):BI (w.setCell ⟨g,j,none⟩ x) g c s' O key nodes pk:=by
 have hB:=h.blk.set j x;rw [hc] at hB;have hk:∀ k,O.has k→(w.setCell ⟨g,j,none⟩ x).heap[k]?=w.heap[k]?:=fun k hk=>Below.heap_setCell _ _ _ k (by
  simp only;intro e;rcases hk with hk | hk | hk
  ·exact h.dis.fb k hk e
  ·exact h.dis.pb k hk e
  ·exact h.dis.rb k hk e)
 exact ⟨hB,by rw [h1];exact own_keep h.key (fun k e=>hk k (.inl (h.keyO.symm.trans e))),by rw [h1];exact h.keyO,by rw [h2];exact own_keep h.nodes (fun k e=>hk k (.inr (.inr (h.nodesO.symm.trans e)))),by rw [h2];exact h.nodesO,by rw [h3];exact own_keep h.pk (fun k e=>hk k (.inr (.inl (h.pkO.symm.trans e)))),by rw [h3];exact h.pkO,h.dis⟩
theorem Fr.setG {S:Nat→Prop} {w w':World} {g:Nat} (hf:Fr S w w') (hS:S g) (j:Nat) (x:Value):Fr S w (w'.setCell ⟨g,j,none⟩ x):=hf.setC g j x hS
theorem BI.keyTo (h:BI w g c s O key nodes pk) {w1:World} (hf:Fr (fun k=>O.f=some k) w w1) {v:Value} {key':Bs} (ho:w1.ownsRow 0 5 1 v key'.length (bv key')) (hn:∀ k,v.ownBlock=some k→O.f=some k∨w.heap.size≤k) :
  BI (w1.setCell ⟨g,4,none⟩ v) g c { s with kv:=v } { O with f:=v.ownBlock } key' nodes pk∧(∀ k,Own.has { O with f:=v.ownBlock } k→O.has k∨w.heap.size≤k):=by
 have hg:O.f≠some g:=fun e=>h.dis.fb g e rfl
 have hgl:=h.blk.lt;have hB:Blk (w1.setCell ⟨g,4,none⟩ v) g (bic c { s with kv:=v }) 226:=(h.blk.fr hf hg).set 4 v;have hk:∀ k,k≠g→k < w.heap.size→O.f≠some k→(w1.setCell ⟨g,4,none⟩ v).heap[k]?=w.heap[k]?:=fun k h1 h2 h3=>(Below.heap_setCell _ _ _ k (by simpa using h1)).trans (hf.block k h2 h3)
 have hvg:∀ k,v.ownBlock=some k→k≠g:=fun k hk1 e=>by rw [e] at hk1;exact (hn g hk1).elim hg (fun h'=>by omega)
 refine ⟨⟨hB,own_keep ho (fun k e=>Below.heap_setCell _ _ _ k (by simpa using hvg k e)),rfl,own_keep h.nodes (fun k e=>?_),h.nodesO,own_keep h.pk (fun k e=>?_),h.pkO,⟨fun k hk=>hvg k hk,h.dis.pb,h.dis.rb,fun k hk e=>?_,fun k hk e=>?_,h.dis.pr⟩⟩,fun k hk=>?_⟩
 ·have hr:=h.nodesO.symm.trans e;exact hk k (h.dis.rb k hr) (own_lt h.nodes e) (fun e'=>h.dis.fr k e' hr)
 ·have hr:=h.pkO.symm.trans e;exact hk k (h.dis.pb k hr) (own_lt h.pk e) (fun e'=>h.dis.fp k e' hr)
 ·rcases hn k hk with h1 | h1
  ·exact h.dis.fp k h1 e
  ·have:=own_lt h.pk (h.pkO.trans e);omega
 ·rcases hn k hk with h1 | h1
  ·exact h.dis.fr k h1 e
  ·have:=own_lt h.nodes (h.nodesO.trans e);omega
 ·rcases hk with hk | hk
  ·exact (hn k hk).imp .inl id
  ·exact .inl (.inr hk)
theorem BI.nodesTo (h:BI w g c s O key nodes pk) {w1:World} (hf:Fr (fun k=>O.r=some k) w w1) {v:Value} {nodes':List Nat} (ho:w1.ownsRow 0 3 1 v nodes'.length (iv nodes')) (hn:∀ k,v.ownBlock=some k→O.r=some k∨w.heap.size≤k) :
  BI (w1.setCell ⟨g,8,none⟩ v) g c { s with nv:=v } { O with r:=v.ownBlock } key nodes' pk∧(∀ k,Own.has { O with r:=v.ownBlock } k→O.has k∨w.heap.size≤k):=by
 have hg:O.r≠some g:=fun e=>h.dis.rb g e rfl
 have hgl:=h.blk.lt;have hB:Blk (w1.setCell ⟨g,8,none⟩ v) g (bic c { s with nv:=v }) 226:=(h.blk.fr hf hg).set 8 v;have hk:∀ k,k≠g→k < w.heap.size→O.r≠some k→(w1.setCell ⟨g,8,none⟩ v).heap[k]?=w.heap[k]?:=fun k h1 h2 h3=>(Below.heap_setCell _ _ _ k (by simpa using h1)).trans (hf.block k h2 h3)
 have hvg:∀ k,v.ownBlock=some k→k≠g:=fun k hk1 e=>by rw [e] at hk1;exact (hn g hk1).elim hg (fun h'=>by omega)
 refine ⟨⟨hB,own_keep h.key (fun k e=>?_),h.keyO,own_keep ho (fun k e=>Below.heap_setCell _ _ _ k (by simpa using hvg k e)),rfl,own_keep h.pk (fun k e=>?_),h.pkO,⟨h.dis.fb,h.dis.pb,fun k hk=>hvg k hk,h.dis.fp,fun k hk e=>?_,fun k hk e=>?_⟩⟩,fun k hk=>?_⟩
 ·have hr:=h.keyO.symm.trans e;exact hk k (h.dis.fb k hr) (own_lt h.key e) (fun e'=>h.dis.fr k hr e')
 ·have hr:=h.pkO.symm.trans e;exact hk k (h.dis.pb k hr) (own_lt h.pk e) (fun e'=>h.dis.pr k hr e')
 ·rcases hn k e with h1 | h1
  ·exact h.dis.fr k hk h1
  ·have:=own_lt h.key (h.keyO.trans hk);omega
 ·rcases hn k e with h1 | h1
  ·exact h.dis.pr k hk h1
  ·have:=own_lt h.pk (h.pkO.trans hk);omega
 ·rcases hk with hk | hk | hk
  ·exact .inl (.inl hk)
  ·exact .inl (.inr (.inl hk))
  ·exact (hn k hk).imp (fun e=>.inr (.inr e)) id
theorem BI.pkTo (h:BI w g c s O key nodes pk) {w1:World} (hf:Fr (fun k=>O.p=some k) w w1) {v:Value} {pk':Bs} (ho:w1.ownsRow 0 5 1 v pk'.length (bv pk')) (hn:∀ k,v.ownBlock=some k→O.p=some k∨w.heap.size≤k) :
  BI (w1.setCell ⟨g,9,none⟩ v) g c { s with pv:=v } { O with p:=v.ownBlock } key nodes pk'∧(∀ k,Own.has { O with p:=v.ownBlock } k→O.has k∨w.heap.size≤k):=by
 have hg:O.p≠some g:=fun e=>h.dis.pb g e rfl
 have hgl:=h.blk.lt;have hB:Blk (w1.setCell ⟨g,9,none⟩ v) g (bic c { s with pv:=v }) 226:=(h.blk.fr hf hg).set 9 v;have hk:∀ k,k≠g→k < w.heap.size→O.p≠some k→(w1.setCell ⟨g,9,none⟩ v).heap[k]?=w.heap[k]?:=fun k h1 h2 h3=>(Below.heap_setCell _ _ _ k (by simpa using h1)).trans (hf.block k h2 h3)
 have hvg:∀ k,v.ownBlock=some k→k≠g:=fun k hk1 e=>by rw [e] at hk1;exact (hn g hk1).elim hg (fun h'=>by omega)
 refine ⟨⟨hB,own_keep h.key (fun k e=>?_),h.keyO,own_keep h.nodes (fun k e=>?_),h.nodesO,own_keep ho (fun k e=>Below.heap_setCell _ _ _ k (by simpa using hvg k e)),rfl,⟨h.dis.fb,fun k hk=>hvg k hk,h.dis.rb,fun k hk e=>?_,h.dis.fr,fun k hk e=>?_⟩⟩,fun k hk=>?_⟩
 ·have hr:=h.keyO.symm.trans e;exact hk k (h.dis.fb k hr) (own_lt h.key e) (fun e'=>h.dis.fp k hr e')
 ·have hr:=h.nodesO.symm.trans e;exact hk k (h.dis.rb k hr) (own_lt h.nodes e) (fun e'=>h.dis.pr k e' hr)
 ·rcases hn k e with h1 | h1
  ·exact h.dis.fp k hk h1
  ·have:=own_lt h.key (h.keyO.trans hk);omega
 ·rcases hn k hk with h1 | h1
  ·exact h.dis.pr k h1 e
  ·have:=own_lt h.nodes (h.nodesO.trans e);omega
 ·rcases hk with hk | hk | hk
  ·exact .inl (.inl hk)
  ·exact (hn k hk).imp (fun e=>.inr (.inl e)) id
  ·exact .inl (.inr (.inr hk))
end
end
section
open Go Go.RowKit Go.Shelf
structure BE (w:World) (p q off len ri:Nat) (p0:Bs) (es:List KV):Prop where
 rb:Rb w p q off len (bdata ri p0 es) (bends ri p0 es).length (eoff ri p0 es es.length)
 ri:0 < ri
 ks:∀ e∈es,e.1.length≤1073741824
theorem BE.keep {w w':World} {p q off len ri:Nat} {p0:Bs} {es:List KV} (h:BE w p q off len ri p0 es) (hp:w'.heap[p]?=w.heap[p]?) (hq:w'.heap[q]?=w.heap[q]?):BE w' p q off len ri p0 es:=⟨h.rb.keep hp hq,h.ri,h.ks⟩
def eval' (q ri:Nat) (p0:Bs) (es:List KV) (i:Nat):Value :=
 match es[i]? with
 | some e=>.slice (some ⟨q,eoff ri p0 es (i+1) - e.2.length,none⟩) e.2.length ((bdata ri p0 es).length+5 - (eoff ri p0 es (i+1) - e.2.length))
 | none=>.slice none 0 0
theorem BE.entry {w:World} {p q off len ri:Nat} {p0:Bs} {es:List KV} (h:BE w p q off len ri p0 es) {i:Nat} {e:KV} (he:es[i]?=some e) :
  Calls Tryz.prog 106 #[.pointer (some ⟨p,0,none⟩),.int .i64 (eoff ri p0 es i)] w fun r w'=>r=.returned (.tuple #[
   .slice (some ⟨q,eoff ri p0 es (i+1) - e.2.length - (e.1.length - esh ri p0 es i),none⟩) (e.1.length - esh ri p0 es i) ((bdata ri p0 es).length+5 - (eoff ri p0 es (i+1) - e.2.length - (e.1.length - esh ri p0 es i))),
   eval' q ri p0 es i,.int .i64 (esh ri p0 es i),.int .i64 (eoff ri p0 es (i+1) - eoff ri p0 es i:Nat),.nilIface])∧w'=w:=by
 obtain ⟨r,hr⟩:=bdata_entry (ri:=ri) (p:=p0) he;have h1:=eoff_succ (ri:=ri) (p:=p0) he;have h2:eoff ri p0 es (i+1)≤eoff ri p0 es es.length:=eoff_mono (lt_of_some he);have hc:=entry_any w p q off len _ _ _ h.rb (eoff ri p0 es i) (esh ri p0 es i) e.1 e.2 r hr (esh_le he) (by have:=h.ks e (List.mem_of_getElem? he);omega) (by omega);unfold eval';rw [he,show eoff ri p0 es (i+1) - eoff ri p0 es i=(Go.Proofs.YtmkdpjicgjhhjaaGreatDoor.entry (esh ri p0 es i) e.1 e.2).length by omega,h1]
 exact hc
theorem BE.keySl {w:World} {p q off len ri:Nat} {p0:Bs} {es:List KV} (h:BE w p q off len ri p0 es) {i:Nat} {e:KV} (he:es[i]?=some e) :
  Sl w (some ⟨q,eoff ri p0 es (i+1) - e.2.length - (e.1.length - esh ri p0 es i),none⟩) (e.1.length - esh ri p0 es i) ((bdata ri p0 es).length+5 - (eoff ri p0 es (i+1) - e.2.length - (e.1.length - esh ri p0 es i))) (e.1.drop (esh ri p0 es i)):=by
 obtain ⟨r,hr⟩:=bdata_entry (ri:=ri) (p:=p0) he;have h1:=eoff_succ (ri:=ri) (p:=p0) he;have hel:=entry_length (esh ri p0 es i) e.1 e.2;have h2:eoff ri p0 es (i+1)≤eoff ri p0 es es.length:=eoff_mono (lt_of_some he);have hl:=h.rb.len;have hsl:=h.rb.at' (eoff ri p0 es (i+1) - e.2.length - (e.1.length - esh ri p0 es i)) (e.1.length - esh ri p0 es i) ((bdata ri p0 es).length+5 - (eoff ri p0 es (i+1) - e.2.length - (e.1.length - esh ri p0 es i))) (by omega) (by omega)
 have e1:((bdata ri p0 es).drop (eoff ri p0 es (i+1) - e.2.length - (e.1.length - esh ri p0 es i))).take (e.1.length - esh ri p0 es i)=e.1.drop (esh ri p0 es i):=by
  have e2:eoff ri p0 es (i+1) - e.2.length - (e.1.length - esh ri p0 es i)=eoff ri p0 es i+((Lib.uvarint (esh ri p0 es i)).length+(Lib.uvarint (e.1.length - esh ri p0 es i)).length+(Lib.uvarint e.2.length).length):=by omega
  rw [e2,← List.drop_drop,hr];unfold Go.Proofs.YtmkdpjicgjhhjaaGreatDoor.entry;rw [show Lib.uvarint (esh ri p0 es i)++Lib.uvarint (e.1.length - esh ri p0 es i)++Lib.uvarint e.2.length++e.1.drop (esh ri p0 es i)++e.2++r=(Lib.uvarint (esh ri p0 es i)++Lib.uvarint (e.1.length - esh ri p0 es i)++Lib.uvarint e.2.length)++(e.1.drop (esh ri p0 es i)++(e.2++r)) by simp];rw [List.drop_left' (by simp;omega),List.take_left' (by simp)]
 rw [e1] at hsl;exact hsl
theorem BE.valSl {w:World} {p q off len ri:Nat} {p0:Bs} {es:List KV} (h:BE w p q off len ri p0 es) {i:Nat} {e:KV} (he:es[i]?=some e) :
  ∃ o c,eval' q ri p0 es i=.slice (some ⟨q,o,none⟩) e.2.length c∧Sl w (some ⟨q,o,none⟩) e.2.length c e.2∧o+e.2.length=eoff ri p0 es (i+1)∧o+c=(bdata ri p0 es).length+5:=by
 obtain ⟨r,hr⟩:=bdata_entry (ri:=ri) (p:=p0) he;have h1:=eoff_succ (ri:=ri) (p:=p0) he;have hel:=entry_length (esh ri p0 es i) e.1 e.2;have h2:eoff ri p0 es (i+1)≤eoff ri p0 es es.length:=eoff_mono (lt_of_some he);have hl:=h.rb.len;have hsl:=h.rb.at' (eoff ri p0 es (i+1) - e.2.length) e.2.length ((bdata ri p0 es).length+5 - (eoff ri p0 es (i+1) - e.2.length)) (by omega) (by omega);have e1:((bdata ri p0 es).drop (eoff ri p0 es (i+1) - e.2.length)).take e.2.length=e.2:=by
  have e2:eoff ri p0 es (i+1) - e.2.length=eoff ri p0 es i+((Lib.uvarint (esh ri p0 es i)).length+(Lib.uvarint (e.1.length - esh ri p0 es i)).length+(Lib.uvarint e.2.length).length+(e.1.length - esh ri p0 es i)):=by omega
  rw [e2,← List.drop_drop,hr];unfold Go.Proofs.YtmkdpjicgjhhjaaGreatDoor.entry;rw [show Lib.uvarint (esh ri p0 es i)++Lib.uvarint (e.1.length - esh ri p0 es i)++Lib.uvarint e.2.length++e.1.drop (esh ri p0 es i)++e.2++r=(Lib.uvarint (esh ri p0 es i)++Lib.uvarint (e.1.length - esh ri p0 es i)++Lib.uvarint e.2.length++e.1.drop (esh ri p0 es i))++(e.2++r) by simp];rw [List.drop_left' (by simp;omega),List.take_left' rfl]
 rw [e1] at hsl;refine ⟨_,_,?_,hsl,by omega,by omega⟩;unfold eval';rw [he]
theorem key_join {ri:Nat} {p0:Bs} {es:List KV} {i:Nat} {e:KV} (he:es[i]?=some e) {key:Bs} (hk:i % ri=0∨∃ e',0 < i∧es[i - 1]?=some e'∧key=e'.1):esh ri p0 es i≤key.length∧key.take (esh ri p0 es i)++e.1.drop (esh ri p0 es i)=e.1:=by
 rcases hk with hk | ⟨e',h0,he',rfl⟩
 ·rw [esh_zero (Nat.le_of_lt (lt_of_some he)) hk];simp
 ·obtain ⟨j,rfl⟩:∃ j,i=j+1:=⟨i - 1,by omega⟩;obtain ⟨h1,h2⟩:=esh_take (ri:=ri) (p:=p0) he he';exact ⟨h1,by rw [h2,List.take_append_drop]⟩
end
end Go.Proofs.YtmkdpjicgjhhjaaGreatDoor
