/- Proves the card of FnTableComesBack (theorem card), for every input, out of parts 1 to 47. Conditions: none. Texts: L16, R1, R2, R3. -/
import Derived.Test.YtmkdpjicgjhhjaaGreatDoorC45
import Derived.Test.YtmkdpjicgjhhjaaGreatDoorC41
import Derived.Test.YtmkdpjicgjhhjaaGreatDoorC47
import Derived.Test.YtmkdpjicgjhhjaaGreatDoorC24
import Derived.ProofKit
import Derived.OpenShut
import Derived.LaidMore
import Derived.Test.YtmkdpjicgjhhjaaGreatDoorCards
import Derived.Test.YtmkdpjicgjhhjaaGreatDoorTie
import Derived.WalkKit
import Derived.Deep.DeepHandedRow
import Derived.Lib.LaidTab
import Derived.Deep.DeepWitnessRowRef
namespace Go.Proofs.YtmkdpjicgjhhjaaGreatDoor
open Go.Lib (hid)
set_option maxRecDepth 100000
set_option linter.all false
section
open Go Go.RowKit Go.Shelf
def JW (w:World) (C:Array Value) (W:World):Prop:=Below w.heap.size w W∧Blk W w.heap.size C 24∧w.heap.size < W.heap.size
theorem JW.step {w:World} {C:Array Value} {W W':World} (h:JW w C W) (hb:Below W.heap.size W W'):JW w C W' :=
 ⟨h.1.trans (hb.mono h.1.size),(hb.block _ h.2.2).trans h.2.1,Nat.lt_of_lt_of_le h.2.2 hb.size⟩
theorem JW.set {w:World} {C:Array Value} {W:World} (h:JW w C W) (k:Nat) (v:Value):JW w (C.setIfInBounds k v) (W.setCell ⟨w.heap.size,k,none⟩ v) :=
 ⟨h.1.setCell (p:=⟨w.heap.size,k,none⟩) (Nat.le_refl _) v,h.2.1.set k v,by simpa using h.2.2⟩
theorem JW.p {w:World} {C:Array Value} {W:World} (h:JW w C W) {a:Option Addr} {n c:Nat} {l:List KV} (hP:Pairs w.heap.size w a n c l):Pairs W.heap.size W a n c l:=(hP.below h.1).up h.1.size
theorem OpsAt.up {B B':Nat} {w:World} {a:Option Addr} {n c:Nat} {l:List OpV} (h:OpsAt B w a n c l) (hB:B≤B'):OpsAt B' w a n c l :=
 ⟨h.len,h.cap,fun i o ho=>by
  obtain ⟨g,p,k1,n1,c1,k2,n2,c2,h1,h2,h3,h4,h5,h6,h7,h8⟩:=h.at' i o ho;exact ⟨g,p,k1,n1,c1,k2,n2,c2,h1,Nat.lt_of_lt_of_le h2 hB,h3,h4,h5,h6,h7.up hB,h8.up hB⟩⟩
theorem JW.o {w:World} {C:Array Value} {W:World} (h:JW w C W) {a:Option Addr} {n c:Nat} {l:List OpV} (hP:OpsAt w.heap.size w a n c l):OpsAt W.heap.size W a n c l:=(hP.below h.1).up h.1.size
set_option maxHeartbeats 4000000 in
theorem law_any (w:World) (a:Option Addr) (n c:Nat) (l:List KV) (hP:Pairs w.heap.size w a n c l) (oa:Option Addr) (on oc:Nat) (ops:List OpV) (hO:OpsAt w.heap.size w oa on oc ops) (x1 x2 x3 x4:Int) :
  Calls Tryz.prog 3 #[.slice a n c,.agg #[.int .i64 x1,.int .i64 x2,.int .i64 x3,.int .i64 x4],.slice oa on oc] w fun e w'=>e=.returned (.bool true)∧Below w.heap.size w w':=by
 obtain ⟨w1,hw1⟩:∃ w1,w1=w.alloc (.cells #[.int .i64 x1,.int .i64 x2,.int .i64 x3,.int .i64 x4] 24):=⟨_,rfl⟩;have hJ1:JW w #[.int .i64 x1,.int .i64 x2,.int .i64 x3,.int .i64 x4] w1:=by
  rw [hw1];exact ⟨(Below.refl _ _).alloc (Nat.le_refl _) _,Blk.new _ _ _,by simp⟩
 have HJ1:=hid hJ1;have HP:=hid hP;have HO:=hid hO;clear hP hO hJ1;go_enter Tryz.func3,Tryz.ntmps3
 go_upto_region 1 with fail
 rw [← hw1];clear hw1;go_wp2_with fail
 refine (fits6_any w1 a n c l (HJ1.out.p HP.out)).mono ?_;rintro e w2 ⟨b,rfl,hb,hb2⟩;have HJ2:=hid (HJ1.out.step hb2);have HN:=hid hb;clear hb2 HJ1 hb;try dsimp only
 cases b
 ·go_wp2
  go_ret
  exact ⟨rfl,HJ2.out.1⟩
 go_wp2_with fail
 refine (fits4_any w2 oa on oc ops (HJ2.out.o HO.out)).mono ?_;rintro e w3 ⟨b,rfl,hb,hb3⟩;have HJ3:=hid (HJ2.out.step hb3);have HM:=hid hb;clear hb3 HJ2 hb;try dsimp only
 cases b
 ·go_wp2
  go_ret
  exact ⟨rfl,HJ3.out.1⟩
 obtain ⟨hn,hls⟩:=HN.out trivial;obtain ⟨hon,hos⟩:=HM.out rfl;have HLS:=hid hls;have HOS:=hid hos;clear hls hos HN HM;go_wp2_with fail
 refine (tabled_any w3 a n c l (HJ3.out.p HP.out) hn HLS.out).mono ?_;rintro e w4 ⟨b,rfl,hb,hb4⟩;have HJ4:=hid (HJ3.out.step hb4);have HT:=hid hb;clear hb4 HJ3 hb;try dsimp only
 cases b
 ·go_wp2
  go_ret
  exact ⟨rfl,HJ4.out.1⟩
 go_wp2_with fail
 refine (small_any w4 oa on oc ops (HJ4.out.o HO.out) hon HOS.out).mono ?_;rintro e w5 ⟨rfl,hb5⟩;have HJ5:=hid (HJ4.out.step hb5);clear hb5 HJ4;try dsimp only
 generalize decide (otot ops≤1048576)=b;cases b
 ·go_wp2
  go_ret
  exact ⟨rfl,HJ5.out.1⟩
 obtain ⟨htot,hR⟩:=HT.out trivial;have HTOT:=hid htot;have HR:=hid hR;clear HT htot hR;by_cases hh:on > 100
 ·go_wp2
  go_ret
  exact ⟨rfl,HJ5.out.1⟩
 have HH:=hid hh;have hq0:=HJ5.out.2.1.cell (k:=0) rfl;have hq1:=HJ5.out.2.1.cell (k:=1) rfl;have hq2:=HJ5.out.2.1.cell (k:=2) rfl;have hq3:=HJ5.out.2.1.cell (k:=3) rfl;go_upto_region 5 with fail
 clear hh;go_wp2_with fail
 refine (lopts_any w5 x1 x2 x3 x4).mono ?_;rintro e w6 ⟨bs,ri,nb,fb,rfl,hbs,hri,hnb,hb6⟩;have HJ6:=hid (HJ5.out.step hb6);clear hb6 HJ5 hq0 hq1 hq2 hq3;try dsimp only
 have hq0:=HJ6.out.2.1.cell (k:=0) rfl;have hq1:=HJ6.out.2.1.cell (k:=1) rfl;have hq2:=HJ6.out.2.1.cell (k:=2) rfl;have hq3:=HJ6.out.2.1.cell (k:=3) rfl;have hz0:=HJ6.out.2.1.free 0;have hz1:=HJ6.out.2.1.free 1;have hz2:=HJ6.out.2.1.free 2;have hz3:=HJ6.out.2.1.free 3;go_upto_region 6 with fail
 clear hz0 hz1 hz2 hz3;obtain ⟨w7,hw7⟩:∃ w7,w7=(((w6.setCell ⟨w.heap.size,0,none⟩ (.int .i64 bs)).setCell ⟨w.heap.size,1,none⟩ (.int .i64 ri)).setCell ⟨w.heap.size,2,none⟩ (.int .i64 nb)).setCell ⟨w.heap.size,3,none⟩ (.int .i64 fb):=⟨_,rfl⟩;have hJ7:JW w #[.int .i64 bs,.int .i64 ri,.int .i64 nb,.int .i64 fb] w7:=by
  rw [hw7];have:=(((HJ6.out.set 0 (.int .i64 bs)).set 1 (.int .i64 ri)).set 2 (.int .i64 nb)).set 3 (.int .i64 fb);simpa using this
 have HJ7:=hid hJ7;rw [← hw7];clear hw7 hJ7 HJ6 hq0 hq1 hq2 hq3;have hq0:=HJ7.out.2.1.cell (k:=0) rfl;have hq1:=HJ7.out.2.1.cell (k:=1) rfl;have hq2:=HJ7.out.2.1.cell (k:=2) rfl;have hq3:=HJ7.out.2.1.cell (k:=3) rfl;go_wp2_with fail
 refine (table_any w7 a n c bs ri nb fb l (HJ7.out.p HP.out) HTOT.out HR.out hbs hri hnb).mono ?_;rintro e w8 ⟨F,av,cv,rfl,hTab,hSl,hb8⟩;have HJ8:=hid (HJ7.out.step hb8);obtain ⟨B,sp,fd,htab,hF⟩:=tab_of hTab HR.out HTOT.out hnb hri;obtain ⟨T,hF',h1,h2,h3,h4,hok⟩:∃ T:TI,F=T.F∧bs=T.bs∧ri=T.ri∧nb=T.n∧l=T.l∧T.ok:=⟨⟨nb,ri,bs,l,B,sp,fd⟩,hF,rfl,rfl,rfl,rfl,⟨htab,HTOT.out,hri,hnb,HR.out⟩⟩;clear hF htab hTab hb8 HJ7 hq0 hq1 hq2 hq3
 subst hF' h1 h2 h3 h4;have HOKT:=hid hok;have HSL:=hid hSl;clear hok hSl B sp fd;try dsimp only
 have hq0:=HJ8.out.2.1.cell (k:=0) rfl;have hq1:=HJ8.out.2.1.cell (k:=1) rfl;have hq2:=HJ8.out.2.1.cell (k:=2) rfl;have hq3:=HJ8.out.2.1.cell (k:=3) rfl;go_wp2_with fail
 refine (readTable_any w8 av cv fb T HOKT.out (by omega) HSL.out oa on oc ops (HJ8.out.o HO.out) hon HOS.out).mono ?_;rintro e w9 ⟨v,al,cs,rfl,hG,hal,hokA,hb9⟩;have HJ9:=hid (HJ8.out.step hb9);obtain ⟨ga,gc,rfl⟩:∃ ga gc,v=.slice ga al.length gc:=by
  obtain ⟨_,⟨x1,x2⟩ | ⟨gb,cap,cur,x1,_⟩⟩:=hG.own
  ·exact ⟨_,_,by rw [x1,x2]⟩
  ·exact ⟨_,_,x1⟩
 have HG:=hid hG;have HAL:=hid hal;have HOKA:=hid hokA;clear hG hal hokA hb9 HJ8 hq0 hq1 hq2 hq3;try dsimp only
 go_wp2_with fail
 refine (pairs_any w9 a n c T.l (HJ9.out.p HP.out) hn).mono ?_;rintro e w10 ⟨a',c',rfl,hp10,hb10⟩;have HJ10:=hid (HJ9.out.step hb10);have HG10:=hid (HG.out.below hb10);have HP10:=hid hp10;clear hp10 hb10 HG HJ9;try dsimp only
 go_wp2_with fail
 refine (scripted_yes w10 ga gc al cs HG10.out a' n c' T.l HP10.out hn HR.out oa on oc ops (HJ10.out.o HO.out) hon HAL.out HOKA.out HOS.out).mono ?_;rintro e w11 ⟨rfl,hb11⟩;have HJ11:=hid (HJ10.out.step hb11);clear hb11 HJ10;try dsimp only
 go_wp2
 go_ret
 exact ⟨rfl,HJ11.out.1⟩
end
section
open Go Go.RowKit Go.Shelf
theorem list_of {α:Type} (P:Nat→α→Prop):∀ (n:Nat),(∀ i,i < n→∃ e,P i e)→∃ l:List α,l.length=n∧∀ i e,l[i]?=some e→P i e
 | 0,_=>⟨[],rfl,fun i e h=>by simp at h⟩
 | n+1,h=>by
  obtain ⟨l,h1,h2⟩:=list_of P n (fun i hi=>h i (by omega));obtain ⟨e,he⟩:=h n (by omega);refine ⟨l++[e],by simp [h1],fun i x hx=>?_⟩;by_cases hi:i < l.length
  ·rw [List.getElem?_append_left hi] at hx;exact h2 i x hx
  ·rw [List.getElem?_append_right (by omega)] at hx;by_cases h0:i - l.length=0
   ·rw [h0] at hx;have:i=n:=by omega
    subst this;simp at hx;subst hx;exact he
   ·rw [List.getElem?_eq_none (by simp;omega)] at hx;cases hx
theorem addr_at {w:World} {a:Addr} {v:Value} (h:w.cell? a=some v):a=⟨a.block,a.off,none⟩∧a.block < w.heap.size:=by
 obtain ⟨b,o,s⟩:=a;unfold World.cell? at h;split at h
 ·rename_i c e f hh
  split at h
  ·cases h
  ·rename_i hs
   have hs':s=none:=by simpa using hs
   subst hs';exact ⟨rfl,(Array.getElem?_eq_some_iff.1 hh).1⟩
 ·cases h
theorem add_at {a:Addr} (h:a=⟨a.block,a.off,none⟩) (j:Nat):a.add j=⟨a.block,a.off+j,none⟩:=by
 unfold Addr.add;split
 ·rename_i h0
  rw [h0];exact h
 ·rfl
theorem cells5:Tryz.prog.cellsOf 5=1:=by kernel_rfl
theorem cells29:Tryz.prog.cellsOf 29=1:=by kernel_rfl
theorem cells3:Tryz.prog.cellsOf 3=1:=by kernel_rfl
theorem cells40:Tryz.prog.cellsOf 40=2:=by kernel_rfl
theorem cells43:Tryz.prog.cellsOf 43=4:=by kernel_rfl
theorem key_of {H:Type} {enc:TypeId × Value→H} {w:World} {fuel:Nat} {cs:List Value} {x:DataW H × List MemPlace} (h:DataW.trod enc Tryz.prog w 0 (fun _=>true) true fuel 29 cs=some x):∃ a n c l,cs=[.slice a n c]∧Key w.heap.size w a n c l:=by
 rcases Go.ChangeShapes.open_ints Tryz.underlying29 Tryz.underlying5 cells5 h with ⟨hc,_⟩ | ⟨a,n,c,zs,hc,_,hn,hm,hl,_,hcell,hwf⟩
 ·exact ⟨none,0,0,[],hc,⟨⟨rfl,Nat.le_refl _,by unfold maxLen;omega,fun _=>rfl,fun j h=>by simp at h⟩,fun g p e=>by cases e⟩⟩
 ·simp only [if_true] at hl;refine ⟨some a,n,c,(zs.take n).map (fun z=>UInt8.ofNat z.toNat),hc,⟨⟨by simp;omega,hn,hm,fun e=>(by cases e),fun j hj=>?_⟩,fun g p e h0=>?_⟩⟩
  ·have hj':j < n:=by simp at hj;omega
   obtain ⟨hz,hlt⟩:=addr_at (show w.cell? a=_ by simpa [Addr.add] using hcell 0 (by omega));have h1:=hcell j (by omega);rw [add_at hz] at h1;refine ⟨a.block,a.off,congrArg some hz,h1.trans ?_⟩;have hb:=bounds_u8 (hwf (zs.getD j 0) (by rw [List.getD_eq_getElem?_getD,List.getElem?_eq_getElem (by omega)];exact List.getElem_mem _));have he:((zs.take n).map (fun z=>UInt8.ofNat z.toNat))[j]=UInt8.ofNat (zs.getD j 0).toNat:=by
    rw [List.getElem_map,List.getElem_take,List.getD_eq_getElem?_getD,List.getElem?_eq_getElem (by omega)];rfl
   rw [he];congr 2
   have:(UInt8.ofNat (zs.getD j 0).toNat).toNat=(zs.getD j 0).toNat:=by
    rw [UInt8.toNat_ofNat'];omega
   rw [this];omega
  ·obtain ⟨hz,hlt⟩:=addr_at (show w.cell? a=_ by simpa [Addr.add] using hcell 0 (by omega));have:a=⟨g,p,none⟩:=by simpa using e
   rw [this] at hlt;exact hlt
theorem pairs_of {H:Type} {enc:TypeId × Value→H} {w:World} {fuel:Nat} {v:Value} {x:DataW H × List MemPlace} (h:DataW.trod enc Tryz.prog w 0 (fun _=>true) true fuel 22 [v]=some x):∃ a n c l,v=.slice a n c∧Pairs w.heap.size w a n c l:=by
 rcases DataW.trod_slice Tryz.underlying22 h with ⟨hc,_⟩ | ⟨a,n,c,elems,rest,m,_,hc,_,_,hn,hm,hlen,hel,_,_⟩
 ·exact ⟨none,0,0,[],by simpa using hc,⟨rfl,Nat.le_refl _,fun i e h=>by simp at h⟩⟩
 ·rw [cells40] at hel;obtain ⟨l,hl,hP⟩:=list_of (fun i (e:KV)=>∃ k1 n1 c1 k2 n2 c2,w.cell? (a.add (i*2))=some (.slice k1 n1 c1)∧w.cell? ((a.add (i*2)).add 1)=some (.slice k2 n2 c2)∧Key w.heap.size w k1 n1 c1 e.1∧Key w.heap.size w k2 n2 c2 e.2) n (fun i hi=>by
   obtain ⟨y,hy⟩:∃ y,elems[i]?=some y:=⟨_,List.getElem?_eq_getElem (by omega)⟩;have hE:=hel i hi;rw [hy] at hE;simp only [Option.bind_eq_some_iff] at hE;obtain ⟨cs,hcs,hy1⟩:=hE;obtain ⟨_,hcl,hcat⟩:=World.cells?_some hcs;obtain ⟨y0,y1,m1,_,_,t0,t1⟩:=Go.ChangeShapes.trod_struct2 Tryz.underlying40 hy1;simp only [cells29] at t0 t1;obtain ⟨k1,n1,c1,l1,e1,hk1⟩:=key_of t0;obtain ⟨k2,n2,c2,l2,e2,hk2⟩:=key_of t1
   match cs,hcl with
   | [v1,v2],_ =>
    simp only [List.drop_zero,List.take_succ_cons,List.take_zero,List.drop_succ_cons,List.cons.injEq,and_true] at e1 e2;subst e1 e2;refine ⟨(l1,l2),k1,n1,c1,k2,n2,c2,?_,?_,hk1,hk2⟩
    ·have:=hcat 0 (by omega);simpa [Addr.add] using this
    ·exact hcat 1 (by omega))
  refine ⟨some a,n,c,l,by simpa using hc,⟨hl,hn,fun i e he=>?_⟩⟩;have hn0:0 < n:=by have:=lt_of_some he;omega
  obtain ⟨e0,he0⟩:∃ e0,l[0]?=some e0:=⟨_,List.getElem?_eq_getElem (by omega)⟩;obtain ⟨_,_,_,_,_,_,z0,_⟩:=hP 0 e0 he0;obtain ⟨hz,hlt⟩:=addr_at (show w.cell? a=_ by simpa [Addr.add] using z0);obtain ⟨k1,n1,c1,k2,n2,c2,q1,q2,q3,q4⟩:=hP i e he;rw [add_at hz] at q1 q2;exact ⟨a.block,a.off,k1,n1,c1,k2,n2,c2,congrArg some hz,hlt,q1,q2,q3,q4⟩
theorem ops_of {H:Type} {enc:TypeId × Value→H} {w:World} {fuel:Nat} {v:Value} {x:DataW H × List MemPlace} (h:DataW.trod enc Tryz.prog w 0 (fun _=>true) true fuel 25 [v]=some x):∃ a n c l,v=.slice a n c∧OpsAt w.heap.size w a n c l:=by
 rcases DataW.trod_slice Tryz.underlying25 h with ⟨hc,_⟩ | ⟨a,n,c,elems,rest,m,_,hc,_,_,hn,hm,hlen,hel,_,_⟩
 ·exact ⟨none,0,0,[],by simpa using hc,⟨rfl,Nat.le_refl _,fun i e h=>by simp at h⟩⟩
 ·rw [cells43] at hel;obtain ⟨l,hl,hP⟩:=list_of (fun i (o:OpV)=>∃ k1 n1 c1 k2 n2 c2,w.cell? (a.add (i*4))=some (.int .i64 o.kind)∧w.cell? ((a.add (i*4)).add 1)=some (.slice k1 n1 c1)∧w.cell? ((a.add (i*4)).add 2)=some (.slice k2 n2 c2)∧w.cell? ((a.add (i*4)).add 3)=some (.int .i64 o.n)∧Key w.heap.size w k1 n1 c1 o.key∧Key w.heap.size w k2 n2 c2 o.val) n (fun i hi=>by
   obtain ⟨y,hy⟩:∃ y,elems[i]?=some y:=⟨_,List.getElem?_eq_getElem (by omega)⟩;have hE:=hel i hi;rw [hy] at hE;simp only [Option.bind_eq_some_iff] at hE;obtain ⟨cs,hcs,hy1⟩:=hE;obtain ⟨_,hcl,hcat⟩:=World.cells?_some hcs;obtain ⟨xs,m1,_,_,_,hxl,hf⟩:=DataW.trod_struct Tryz.underlying43 hy1;match xs,hxl with
   | [y0,y1,y2,y3],_ =>
    have t0:DataW.trod enc Tryz.prog w 0 (fun _=>true) true m1 3 ((cs.drop 0).take (Tryz.prog.cellsOf 3))=some y0:=hf 0 _ rfl;have t1:DataW.trod enc Tryz.prog w 0 (fun _=>true) true m1 29 ((cs.drop 1).take (Tryz.prog.cellsOf 29))=some y1:=hf 1 _ rfl;have t2:DataW.trod enc Tryz.prog w 0 (fun _=>true) true m1 29 ((cs.drop 2).take (Tryz.prog.cellsOf 29))=some y2:=hf 2 _ rfl;have t3:DataW.trod enc Tryz.prog w 0 (fun _=>true) true m1 3 ((cs.drop 3).take (Tryz.prog.cellsOf 3))=some y3:=hf 3 _ rfl
    simp only [cells29,cells3] at t0 t1 t2 t3;obtain ⟨z0,e0,_,_⟩:=DataW.trod_int Tryz.underlying3 (show _=some y0 from t0);obtain ⟨k1,n1,c1,l1,e1,hk1⟩:=key_of (show _=some y1 from t1);obtain ⟨k2,n2,c2,l2,e2,hk2⟩:=key_of (show _=some y2 from t2);obtain ⟨z3,e3,_,_⟩:=DataW.trod_int Tryz.underlying3 (show _=some y3 from t3);match cs,hcl with
    | [v0,v1,v2,v3],_ =>
     simp only [List.drop_zero,List.take_succ_cons,List.take_zero,List.drop_succ_cons,List.cons.injEq,and_true] at e0 e1 e2 e3;subst e0 e1 e2 e3;refine ⟨⟨z0,l1,l2,z3⟩,k1,n1,c1,k2,n2,c2,?_,?_,?_,?_,hk1,hk2⟩
     ·have:=hcat 0 (by omega);simpa [Addr.add] using this
     ·exact hcat 1 (by omega)
     ·exact hcat 2 (by omega)
     ·exact hcat 3 (by omega))
  refine ⟨some a,n,c,l,by simpa using hc,⟨hl,hn,fun i e he=>?_⟩⟩;have hn0:0 < n:=by have:=lt_of_some he;omega
  obtain ⟨e0,he0⟩:∃ e0,l[0]?=some e0:=⟨_,List.getElem?_eq_getElem (by omega)⟩;obtain ⟨_,_,_,_,_,_,z0,_⟩:=hP 0 e0 he0;obtain ⟨hz,hlt⟩:=addr_at (show w.cell? a=_ by simpa [Addr.add] using z0);obtain ⟨k1,n1,c1,k2,n2,c2,q0,q1,q2,q3,q4,q5⟩:=hP i e he;rw [add_at hz] at q0 q1 q2 q3;exact ⟨a.block,a.off,k1,n1,c1,k2,n2,c2,congrArg some hz,hlt,q0,q1,q2,q3,q4,q5⟩
theorem opts_of {H:Type} {enc:TypeId × Value→H} {w:World} {fuel:Nat} {cs:List Value} {x:DataW H × List MemPlace} (h:DataW.trod enc Tryz.prog w 0 (fun _=>true) true fuel 24 cs=some x):∃ x1 x2 x3 x4,cs=[.int .i64 x1,.int .i64 x2,.int .i64 x3,.int .i64 x4]:=by
 obtain ⟨xs,m1,_,_,hcl,hxl,hf⟩:=DataW.trod_struct Tryz.underlying24 h;rw [show Tryz.prog.cellsOf 24=4 by kernel_rfl] at hcl;match xs,hxl with
 | [y0,y1,y2,y3],_ =>
  have t0:DataW.trod enc Tryz.prog w 0 (fun _=>true) true m1 3 ((cs.drop 0).take (Tryz.prog.cellsOf 3))=some y0:=hf 0 _ rfl;have t1:DataW.trod enc Tryz.prog w 0 (fun _=>true) true m1 3 ((cs.drop 1).take (Tryz.prog.cellsOf 3))=some y1:=hf 1 _ rfl;have t2:DataW.trod enc Tryz.prog w 0 (fun _=>true) true m1 3 ((cs.drop 2).take (Tryz.prog.cellsOf 3))=some y2:=hf 2 _ rfl;have t3:DataW.trod enc Tryz.prog w 0 (fun _=>true) true m1 3 ((cs.drop 3).take (Tryz.prog.cellsOf 3))=some y3:=hf 3 _ rfl
  simp only [cells3] at t0 t1 t2 t3;obtain ⟨z0,e0,_,_⟩:=DataW.trod_int Tryz.underlying3 (show _=some y0 from t0);obtain ⟨z1,e1,_,_⟩:=DataW.trod_int Tryz.underlying3 (show _=some y1 from t1);obtain ⟨z2,e2,_,_⟩:=DataW.trod_int Tryz.underlying3 (show _=some y2 from t2);obtain ⟨z3,e3,_,_⟩:=DataW.trod_int Tryz.underlying3 (show _=some y3 from t3);match cs,hcl with
  | [v0,v1,v2,v3],_ =>
   simp only [List.drop_zero,List.take_succ_cons,List.take_zero,List.drop_succ_cons,List.cons.injEq,and_true] at e0 e1 e2 e3;exact ⟨z0,z1,z2,z3,by rw [e0,e1,e2,e3]⟩
end
section
open Go Go.ChangeShapes Go.WideShapes Go.ChangeAt Go.RowKit
theorem ownK:ownKnob Tryz.prog.godebug=none:=by kernel_rfl
theorem laidOutP:laidOutB Tryz.prog=true:=by kernel_rfl
theorem contract (H:Type) (enc:TypeId × Value→H) (W:World) (base:Nat) (args:Array Value) (ds gs:List (DataW H)) (before:List MemPlace)
  (hval:∀ (j:Nat) t v,Tryz.f3.params[j]?=some t→args[j]?=some v→Value.okWide Tryz.prog W .any base t v)
  (hW:DataW.Whole enc Tryz.prog Tryz.f3.params.toList Rows.fnTableComesBackSpec.vars false W args.toList ds gs before) :
  Calls Tryz.prog 3 args W fun e W'=>∃ v,e=.returned v∧Rows.fnTableComesBackSpec.post enc Tryz.prog Tryz.f3 false true false false W args v W':=by
 have hW':=hW;obtain ⟨p,q,hA0,hV,rfl,hfz,hnd⟩:=hW;have hA:DataW.TrodAll enc Tryz.prog W 0 (fun _=>true) true Tryz.f3.params.toList args.toList ds p:=hA0;rw [Tryz.params3] at hA;obtain ⟨v0,vs0,d0,ds0,p0,q0,hargs,rfl,rfl,h0,r0⟩:=trodAll_cons hA;obtain ⟨v1,vs1,d1,ds1,p1,q1,rfl,rfl,rfl,h1,r1⟩:=trodAll_cons r0;obtain ⟨v2,vs2,d2,ds2,p2,q2,rfl,rfl,rfl,h2,r2⟩:=trodAll_cons r1;obtain ⟨rfl,rfl,rfl⟩:=trodAll_nil r2
 obtain rfl:args=#[v0,v1,v2]:=by cases args;simp_all
 obtain ⟨rfl,rfl⟩:=trodVars_none hV;have h0k:=h0;have h1k:=h1;have h2k:=h2;have hlt0:∀ x∈p0,x.block < W.heap.size:=fun x hx=>hW'.lt x (by simp [hx])
 have hlt1:∀ x∈p1,x.block < W.heap.size:=fun x hx=>hW'.lt x (by simp [hx])
 have hlt2:∀ x∈p2,x.block < W.heap.size:=fun x hx=>hW'.lt x (by simp [hx])
 obtain ⟨f0,h0⟩:=h0;obtain ⟨f1,h1⟩:=h1;obtain ⟨f2,h2⟩:=h2;obtain ⟨z0,z1,z2,rfl⟩:=okWide_slice Tryz.underlying22 (hval 0 22 v0 rfl rfl);obtain ⟨cs1,rfl,_⟩:=okWide_struct Tryz.underlying24 (hval 1 24 v1 rfl rfl);obtain ⟨y0,y1,y2,rfl⟩:=okWide_slice Tryz.underlying25 (hval 2 25 v2 rfl rfl);obtain ⟨a,n,c,l,e0,hP⟩:=pairs_of h0;obtain ⟨x1,x2,x3,x4,e1⟩:=opts_of h1;obtain ⟨oa,on,oc,ops,e2,hO⟩:=ops_of h2;obtain rfl:cs1=#[.int .i64 x1,.int .i64 x2,.int .i64 x3,.int .i64 x4]:=Array.ext' e1
 clear hval hargs e1;cases e0
 cases e2
 refine (law_any W z0 z1 z2 l hP y0 y1 y2 ops hO x1 x2 x3 x4).mono fun e W' ⟨he,hb⟩=>?_
 subst he;refine ⟨_,rfl,[d0,d1,d2],[],p0++(p1++(p2++[]))++[],[],p0++(p1++(p2++[])),[],hW',?_,?_,?_,hb.frame _,fun h=>by cases h⟩
 ·exact trodAll_cons_mk (shut_bool Tryz.underlying4 true) trodAll_mk0
 ·have e:(Rows.fnTableComesBackSpec.fn H ([d0,d1,d2]++[])).args=[d0,d1,d2]:=rfl;rw [e];exact trodAll_cons_mk (Below.trod laidOutP (by kernel_rfl) (of_decide_eq_true (by kernel_rfl)) h0k hb hlt0) (trodAll_cons_mk (Below.trod laidOutP (by kernel_rfl) (of_decide_eq_true (by kernel_rfl)) h1k hb hlt1) (trodAll_cons_mk (Below.trod laidOutP (by kernel_rfl) (of_decide_eq_true (by kernel_rfl)) h2k hb hlt2) trodAll_mk0))
 ·exact rfl
end
section
open Go Go.ChangeShapes Go.WideShapes Go.ChangeAt Go.RowKit
def wargs:Array Value:=#[.slice none 0 0,.agg #[.int .i64 0,.int .i64 0,.int .i64 0,.int .i64 0],.slice none 0 0]
noncomputable def laidWorld (os:Os):World:=World.doorLaid Tryz.prog 400 os
theorem laid_met (os:Os):laidMet Tryz.prog Rows.fnTableComesBackRow.laid ((laidWorld os).forCall (fun _ _=>0) ⟨#[],wargs,[]⟩).memory :=
 laidMet_of_run' 8 (by kernel_rfl) (by kernel_rfl)
theorem reads (os:Os) {H:Type} (enc:TypeId × Value→H):∃ places,DataW.whole enc Tryz.prog ((laidWorld os).forCall (fun _ _=>0) ⟨#[],wargs,[]⟩).memory Tryz.f3.params.toList Rows.fnTableComesBackSpec.vars false wargs.toList 8=some ([.nil,.agg [.lit (.int .i64 0),.lit (.int .i64 0),.lit (.int .i64 0),.lit (.int .i64 0)],.nil],[],places) :=
 ⟨[],by kernel_rfl⟩
theorem lifted (os:Os) (started:os.Started) (H:Type) (enc:TypeId × Value→H) (F:Stop.Interp) :
  ReturnsInHanded {} Tryz.checked os 3 .any ((OpenSpec.ofChange Rows.fnTableComesBackSpec).preRow enc Tryz.prog Tryz.f3 Rows.fnTableComesBackRow.domain false Rows.fnTableComesBackRow.laid) (((OpenSpec.ofChange Rows.fnTableComesBackSpec).at F).post enc Tryz.prog Tryz.f3 false true false false):=by
 obtain ⟨places,hx⟩:=reads os enc;refine returnsInHanded_of_row (C:=Tryz.checked) (s:=OpenSpec.ofChange Rows.fnTableComesBackSpec) ownK started (by kernel_rfl) Tryz.func3
  (witness_row_atRef (enc:=enc) (C:=Tryz.checked) false (laidWorld os) wargs rfl (by kernel_rfl) (by kernel_rfl) (by kernel_rfl)
   (OpenSpec.preRow_of_cond 8 hx (by kernel_rfl) (fun k hk=>by cases hk) (by kernel_rfl) (laid_met os))) ?_
 intro W base args ds gs before hval hW _ _ _ _ _ _;exact contract H enc W base args ds gs before hval hW
theorem said:Rows.FnTableComesBackSaid :=
 OpenClaim.holds_of_cond 3 Tryz.f3 rfl rfl rfl rfl rfl rfl rfl ⟨rfl,rfl,rfl,rfl,rfl⟩ rfl rfl rfl rfl rfl (by kernel_rfl) Tryz.func3 (by kernel_rfl)
  (of_decide_eq_true (by kernel_rfl)) (by unfold Func.isWrapper;first | (rw [if_pos (by decide +kernel)];kernel_rfl) | (rw [if_neg (by decide +kernel)];exact ⟨rfl,rfl⟩))
  (fun os started H enc _ F=>by rw [OpenClaim.pre_eq_preRow];exact lifted os started H enc F)
theorem plain (f : FuncId) (fn : Func) (hf : Tryz.pinned.checked.prog.funcNamed "logsandtables/laws.FnTableComesBack" = some f) (hfn : Tryz.pinned.checked.prog.funcs[f]? = some fn) :
  true=Tryz.pinned.checked.prog.looks []∧∀ (j:Nat) t,fn.params[j]?=some t→Tryz.pinned.checked.prog.wantsStandIn t=false:=by
 obtain rfl : f = 3 := Option.some.inj ((show Tryz.prog.funcNamed "logsandtables/laws.FnTableComesBack" = some 3 by kernel_rfl).symm.trans hf) |>.symm;obtain rfl:fn=Tryz.f3:=(Option.some.inj (Tryz.func3.symm.trans hfn)).symm;refine ⟨by kernel_rfl,fun j t ht=>?_⟩;rw [Tryz.params3] at ht;match j,ht with
 | 0,ht =>
   obtain rfl:t=22:=by simpa using ht.symm
   exact (show Tryz.prog.wantsStandIn 22=false by kernel_rfl)
 | 1,ht =>
   obtain rfl:t=24:=by simpa using ht.symm
   exact (show Tryz.prog.wantsStandIn 24=false by kernel_rfl)
 | 2,ht =>
   obtain rfl:t=25:=by simpa using ht.symm
   exact (show Tryz.prog.wantsStandIn 25=false by kernel_rfl)
 | _+3,ht=>simp at ht
theorem card:Rows.FnTableComesBackCardSaid :=
 Claim7.holds_tied_plain_at .later [] _ _ _ _ said (fun _ h=>by cases h) (by kernel_rfl) (fun _ h=>by cases h) fnTableComesBack_row_tie rfl ⟨rfl,rfl⟩ (by kernel_rfl) rfl plain (by kernel_rfl)
end
end Go.Proofs.YtmkdpjicgjhhjaaGreatDoor
