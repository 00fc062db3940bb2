/- Part 40 of the proof of FnTableComesBack: contracts and lemmas, each under the conditions that it states. Texts: NBR, NBRt, RRg. -/
import Derived.Test.YtmkdpjicgjhhjaaGreatDoorC39
import Derived.Test.YtmkdpjicgjhhjaaGreatDoorC38
import Derived.Test.YtmkdpjicgjhhjaaGreatDoorC34
namespace Go.Proofs.YtmkdpjicgjhhjaaGreatDoor
open Go.Lib (hid)
set_option maxRecDepth 100000
set_option linter.all false
section
open Go Go.RowKit Go.Shelf
theorem BI.setIC {w:World} {g:Nat} {c:IC} {s:IS} {O:Own} {key:Bs} {nodes:List Nat} {pk:Bs} (h:BI w g c s O key nodes pk) (c':IC) (j:Nat) (x:Value) (hc:(bic c s).setIfInBounds j x=bic c' s):BI (w.setCell ⟨g,j,none⟩ x) g c' s O key nodes pk:=by
 have hB:=h.blk.set j x;rw [hc] at hB;have hk:∀ k,O.has k→(w.setCell ⟨g,j,none⟩ x).heap[k]?=w.heap[k]?:=fun k hk=>Below.heap_setCell _ _ _ k (by
  simp only;intro e;rcases hk with hk | hk | hk
  ·exact h.dis.fb k hk e
  ·exact h.dis.pb k hk e
  ·exact h.dis.rb k hk e)
 exact ⟨hB,own_keep h.key (fun k e=>hk k (.inl (h.keyO.symm.trans e))),h.keyO,own_keep h.nodes (fun k e=>hk k (.inr (.inr (h.nodesO.symm.trans e)))),h.nodesO,own_keep h.pk (fun k e=>hk k (.inr (.inl (h.pkO.symm.trans e)))),h.pkO,h.dis⟩
def BndAt (w:World) (v:Value):Option Bs→Prop
 | none=>v=.slice none 0 0
 | some l=>∃ b o n c,v=.slice (some ⟨b,o,none⟩) n c∧b < w.heap.size∧Sl w (some ⟨b,o,none⟩) n c l
structure BF (w:World) (g:Nat) (X:Nat→Prop) (c:IC) (d:DBk) (s:IS) (O:Own) (key:Bs):Prop where
 bi:BI w g c s O key [] []
 be:BE w c.p d.q d.off d.len d.ri d.p0 d.es
 ap:c.p≠g∧d.q≠g∧¬ O.has c.p∧¬ O.has d.q
 cov:∀ k,k=g∨O.has k→X k
section
variable {w w':World} {g:Nat} {X:Nat→Prop} {c:IC} {d:DBk} {s:IS} {O:Own} {key:Bs}
theorem BF.below (h:BF w g X c d s O key) (hb:Below w.heap.size w w'):BF w' g X c d s O key :=
 ⟨h.bi.keep (fun k hk=>hb.block k (hk.elim (fun e=>e ▸ h.bi.blk.lt) h.bi.lt)),h.be.keep (hb.block _ h.be.rb.blk.lt) (hb.block _ h.be.rb.qlt),h.ap,h.cov⟩
theorem BF.set (h:BF w g X c d s O key) (c':IC) (j:Nat) (x:Value) (hc:(bic c s).setIfInBounds j x=bic c' s) (hp:c'.p=c.p):BF (w.setCell ⟨g,j,none⟩ x) g X c' d s O key :=
 ⟨h.bi.setIC c' j x hc,by rw [hp];exact h.be.keep (Below.heap_setCell _ _ _ _ h.ap.1) (Below.heap_setCell _ _ _ _ h.ap.2.1),by rw [hp];exact h.ap,h.cov⟩
theorem BF.cells (h:BF w g X c d s O key):w.cell? ⟨g,7,none⟩=some (.int .i64 (s.poff:Int))∧w.cell? ⟨g,10,none⟩=some (.int .i64 (s.rix:Int))∧w.cell? ⟨g,12,none⟩=some (.int .i64 (c.riS:Int))∧w.cell? ⟨g,13,none⟩=some (.int .i64 (c.riL:Int))∧w.cell? ⟨g,14,none⟩=some (.int .i64 (c.oS:Int))∧w.cell? ⟨g,15,none⟩=some (.int .i64 (c.oR:Int))∧w.cell? ⟨g,16,none⟩=some (.int .i64 (c.oL:Int)) :=
 ⟨h.bi.blk.cell (k:=7) rfl,h.bi.blk.cell (k:=10) rfl,h.bi.blk.cell (k:=12) rfl,h.bi.blk.cell (k:=13) rfl,h.bi.blk.cell (k:=14) rfl,h.bi.blk.cell (k:=15) rfl,h.bi.blk.cell (k:=16) rfl⟩
theorem BF.free (h:BF w g X c d s O key) (k:Nat):w.frozen? ⟨g,k,none⟩=false:=h.bi.blk.free k
theorem BF.pcell (h:BF w g X c d s O key):w.cell? ⟨c.p,4,none⟩=some (.int .i64 (bends d.ri d.p0 d.es).length)∧w.cell? ⟨c.p,5,none⟩=some (.int .i64 (eoff d.ri d.p0 d.es d.es.length)):=⟨h.be.rb.blk.cell (k:=4) rfl,h.be.rb.blk.cell (k:=5) rfl⟩
end
theorem BC.openF {w:World} {g:Nat} {X:Nat→Prop} {c:IC} {d:DBk} {lo hi st cur:Nat} (h:BC w g X c d lo hi st cur) (hf:d.fw=true):∃ s O key,BF w g X c d s O key∧BRan c d lo hi st∧BAt d lo hi s key [] [] cur∧s.dir≠2∧(∀ k,cur=k+1→k < hi→s.poff=eoff d.ri d.p0 d.es k∧s.rix*d.ri≤k):=by
 obtain ⟨s,O,key,nodes,pk,h1,h2,h3,h4,h5,h6⟩:=h;have h7:nodes=[]∧pk=[]∧s.dir≠2∧(∀ k,cur=k+1→k < hi→s.poff=eoff d.ri d.p0 d.es k∧s.rix*d.ri≤k):=by
  rcases h6 with ⟨e0,e1,e2,e3⟩ | ⟨e0,e1,e2,e3⟩ | ⟨k,e,e0,_,_,_,_,_,_,⟨f1,f2,f3,f4,f5⟩ | ⟨f1,f2,_⟩⟩
  ·exact ⟨e2,e3,by omega,fun k e=>by omega⟩
  ·exact ⟨e2,e3,by omega,fun k e _=>by omega⟩
  ·exact ⟨f3,f4,by omega,fun k' e' _=>by
    obtain rfl:k'=k:=by omega
    exact ⟨f2,f5⟩⟩
  ·rw [hf] at f2;cases f2
 obtain ⟨rfl,rfl,h8,h9⟩:=h7;exact ⟨s,O,key,⟨h1,h2,h3,h4⟩,h5,h6,h8,h9⟩
theorem SRange.riL' {ri:Nat} {p0:Bs} {es:List KV} {c:IC} {lo:Nat} (h:SRange ri p0 es c lo):c.riL=(bends ri p0 es).length:=h.1
def RStart (w:World) (g r p:Nat) (x2:Value) (d:DBk) (lo:Nat) (wx:World):Prop :=
 ∃ c st cur X,c.tr=r∧c.p=p∧c.x2=x2∧BC wx g X c d lo d.es.length st cur∧SRange d.ri d.p0 d.es c lo∧(∀ k,X k→w.heap.size≤k∧k < wx.heap.size)∧Below w.heap.size w wx
def RLim (w:World) (g r p:Nat) (x2:Value) (d:DBk) (lo hi:Nat) (wx:World):Prop :=
 ∃ c st X s O key,c.tr=r∧c.p=p∧c.x2=x2∧BF wx g X c d s O key∧BRan c d lo hi st∧s.dir≠2∧(∀ k,X k→w.heap.size≤k∧k < wx.heap.size)∧Below w.heap.size w wx
section
variable {w w2 wx:World} {g r p:Nat} {x2:Value} {d:DBk} {lo hi st cur:Nat} {c:IC} {X:Nat→Prop} {s:IS} {O:Own} {key:Bs}
theorem RStart.of_new (hri:0 < d.ri) (h:BC wx g (fun k=>w.heap.size≤k∧k < wx.heap.size) (icN r p x2 d) d 0 d.es.length 0 0) (hb:Below w.heap.size w wx):RStart w g r p x2 d 0 wx :=
 ⟨_,0,0,_,rfl,rfl,rfl,h,⟨rfl,.inl ⟨bends_pos hri,by show 0*_≤0;omega,by
  obtain ⟨_,_,_,_,_,_,_,_,_,h5,_⟩:=h;have:=h5.oS;show (icN r p x2 d).oS=eoff d.ri d.p0 d.es (0*d.ri)
  rw [Nat.zero_mul];exact this⟩⟩,fun _ h=>h,hb⟩
theorem RStart.of_found {j:Nat} (hj:j < d.es.length) (hb:BF wx g X { c with riS:=j / d.ri,oS:=eoff d.ri d.p0 d.es (j / d.ri*d.ri),oR:=eoff d.ri d.p0 d.es j } d s O key) (hR:BRan c d 0 d.es.length st) (hA:BAt d 0 d.es.length s key [] [] (j+1)) (hL:c.riL=(bends d.ri d.p0 d.es).length)
  (h1:c.tr=r∧c.p=p∧c.x2=x2) (hX:∀ k,X k→w.heap.size≤k∧k < wx.heap.size) (hbl:Below w.heap.size w wx):RStart w g r p x2 d j wx:=by
 obtain ⟨c1,c2,c3⟩:=bends_cover (p:=d.p0) hb.be.ri hj;refine ⟨{ c with riS:=j / d.ri,oS:=eoff d.ri d.p0 d.es (j / d.ri*d.ri),oR:=eoff d.ri d.p0 d.es j },j / d.ri*d.ri,j+1,X,h1.1,h1.2.1,h1.2.2,⟨s,O,key,[],[],hb.bi,hb.be,hb.ap,hb.cov,⟨rfl,hR.oL,Nat.le_of_lt hj,Nat.le_refl _,rfl,fun _=>Nat.mul_mod_left _ _,c2,fun _=>c2⟩,?_⟩,⟨hL,.inl ⟨c1,c2,rfl⟩⟩,hX,hbl⟩;rcases hA with ⟨e0,_⟩ | ⟨e0,_⟩ | ⟨k,e,e0,b1,b2,b3⟩
 ·omega
 ·omega
 ·obtain rfl:k=j:=by omega
  exact .inr (.inr ⟨k,e,rfl,Nat.le_refl _,b2,b3⟩)
theorem RStart.of_none (hj:cur=d.es.length+1) (hne:d.es≠[]) (hb:BF wx g X { c with riS:=(bends d.ri d.p0 d.es).length,oS:=eoff d.ri d.p0 d.es d.es.length,oR:=eoff d.ri d.p0 d.es d.es.length } d s O key) (hR:BRan c d 0 d.es.length st) (hA:BAt d 0 d.es.length s key [] [] cur) (hL:c.riL=(bends d.ri d.p0 d.es).length)
  (h1:c.tr=r∧c.p=p∧c.x2=x2) (hX:∀ k,X k→w.heap.size≤k∧k < wx.heap.size) (hbl:Below w.heap.size w wx):RStart w g r p x2 d d.es.length wx:=by
 refine ⟨{ c with riS:=(bends d.ri d.p0 d.es).length,oS:=eoff d.ri d.p0 d.es d.es.length,oR:=eoff d.ri d.p0 d.es d.es.length },d.es.length,cur,X,h1.1,h1.2.1,h1.2.2,⟨s,O,key,[],[],hb.bi,hb.be,hb.ap,hb.cov,⟨rfl,hR.oL,Nat.le_refl _,Nat.le_refl _,rfl,fun h=>absurd h (Nat.lt_irrefl _),Nat.le_refl _,fun h=>absurd h (Nat.lt_irrefl _)⟩,?_⟩,⟨hL,.inr ⟨rfl,hne,rfl,rfl⟩⟩,hX,hbl⟩;rcases hA with ⟨e0,_⟩ | ⟨e0,b⟩ | ⟨k,e,e0,b1,b2,b3⟩
 ·omega
 ·exact .inr (.inl ⟨e0,b⟩)
 ·omega
theorem RStart.lim (h:RStart w g r p x2 d lo wx) (hd:d.fw=true):RLim w g r p x2 d lo d.es.length wx:=by
 obtain ⟨c,st,cur,X,h1,h2,h3,h4,h5,h6,h7⟩:=h;obtain ⟨s,O,key,q1,q2,q3,q4,q5⟩:=h4.openF hd;exact ⟨c,st,X,s,O,key,h1,h2,h3,q1,q2,q4,h6,h7⟩
theorem RLim.of_set {x hi:Nat} (hb:BF wx g X { c with oL:=eoff d.ri d.p0 d.es hi,riL:=x } d s O key) (hR:BRan c d lo d.es.length st) (hl:lo≤hi) (hh:hi≤d.es.length) (hd:s.dir≠2)
  (h1:c.tr=r∧c.p=p∧c.x2=x2) (hX:∀ k,X k→w.heap.size≤k∧k < wx.heap.size) (hbl:Below w.heap.size w wx):RLim w g r p x2 d lo hi wx :=
 ⟨{ c with oL:=eoff d.ri d.p0 d.es hi,riL:=x },st,X,s,O,key,h1.1,h1.2.1,h1.2.2,hb,⟨hR.oR,rfl,hl,hh,hR.oS,hR.sr,hR.sl,fun h=>hR.rs (by omega)⟩,hd,hX,hbl⟩
theorem BF.rixb (h:BF w g X c d s O key) {k:Nat} (hk:k < d.es.length) (hr:s.rix*d.ri≤k):IntKind.i64.wrap ((s.rix:Int)+1)=((s.rix+1:Nat):Int):=by
 have h1:=eoff_ge3 (ri:=d.ri) (p0:=d.p0) (es:=d.es) d.es.length (Nat.le_refl _);have h2:=h.be.rb.len;have h3:=h.be.rb.max;have h4:s.rix≤s.rix*d.ri:=Nat.le_mul_of_pos_right _ h.be.ri;rw [show (s.rix:Int)+1=((s.rix+1:Nat):Int) by omega];exact IntWalk.i64_in _ (by omega)
theorem rising_ge {es:List KV} (hr:Rising es) {t:Bs} {i:Nat} {e:KV} (hi:sidx es t≤i) (he:es[i]?=some e):0≤Lib.compareBytes e.1 t:=by
 rcases Nat.eq_or_lt_of_le hi with h | h
 ·subst h;exact sidx_ge he
 ·have hl:=lt_of_some he;have h1:es[sidx es t]?=some es[sidx es t]:=List.getElem?_eq_getElem (by omega);have h2:=sidx_ge h1;have h3:=hr _ _ _ _ h h1 he;rcases cmp_range e.1 t with h4 | h4 | h4
  ·have:=cmp_trans h3 h4;omega
  ·omega
  ·omega
theorem RStart.seek (h:RStart w g r p x2 d lo wx) (hd:d.fw=true) (hT:w.cell? ⟨r,6,none⟩=some (.iface 192 (.agg #[]))) {b o n cc:Nat} {l:Bs} (hb:b < w.heap.size) (hs:Sl w (some ⟨b,o,none⟩) n cc l) (hr:Rising d.es) :
  Calls Tryz.prog 77 #[.pointer (some ⟨g,0,none⟩),.slice (some ⟨b,o,none⟩) n cc] wx fun e w'=>e=.returned (.bool (decide (max lo (sidx d.es l) < d.es.length)))∧∃ c st X,c.tr=r∧c.p=p∧c.x2=x2∧BC w' g X c d lo d.es.length st (max lo (sidx d.es l)+1)∧SRange d.ri d.p0 d.es c lo∧(∀ k,X k→w.heap.size≤k∧k < w'.heap.size)∧Below w.heap.size w w':=by
 obtain ⟨c,st,cur,X,h1,h2,h3,h4,h5,h6,h7⟩:=h;have hlh:=h4.lohi;have hsl:=sidx_le d.es l;have hrl:=lt_of_cell hT;refine (h4.seek (by rw [h1];exact (World.cell?_of_block (a:=⟨r,6,none⟩) (h7.block _ hrl)).trans hT) (fun e=>by have:=(h6 _ e).1;rw [h1] at this;omega) (some ⟨b,o,none⟩) n cc l (hs.fr' fun x p e j _=>by
  cases e
  exact World.cell?_of_block (h7.block b hb)) (fun x p e _ hx=>by cases e;have:=(h6 _ hx).1;omega) hr rfl h5 (max lo (sidx d.es l)) (by omega) (by omega) (fun i e _ hi he=>sidx_lt (by omega) he) (fun e _ he=>rising_ge hr (by omega) he)).mono ?_
 rintro e w' ⟨rfl,hbc,hf⟩;exact ⟨rfl,c,st,_,h1,h2,h3,hbc,h5,fun k hk=>hk.elim (fun e=>⟨(h6 k e).1,Nat.lt_of_lt_of_le (h6 k e).2 hf.size⟩) (fun e=>⟨Nat.le_trans h7.size e.1,e.2⟩),h7.trans (hf.below h7.size (fun k hk e=>by have:=(h6 k e).1;omega))⟩
end
end
section
open Go Go.RowKit Go.Shelf
set_option maxHeartbeats 16000000 in
theorem newBR_any (w:World) (r p sl:Nat) (x2 sv tv:Value) (incl:Bool) (d:DBk) (hfw:d.fw=true) (s t:Option Bs) (hE:BE w p d.q d.off d.len d.ri d.p0 d.es) (hx:x2=.iface 246 (.agg #[])∨x2=.iface 141 (.pointer (some ⟨p,0,none⟩))) (hsl:Blk w sl #[sv,tv] 179) (hs:BndAt w sv s) (ht:BndAt w tv t) (hT:w.cell? ⟨r,6,none⟩=some (.iface 192 (.agg #[]))) (hr:Rising d.es) (hne:s≠none→d.es≠[]) :
  Calls Tryz.prog 59 #[.pointer (some ⟨r,0,none⟩),.pointer (some ⟨p,0,none⟩),x2,.pointer (some ⟨sl,0,none⟩),.bool incl] w (NewTo r p x2 d (rLo d.es s) (rHi d.es (rLo d.es s) incl t) w):=by
 have hz4:w.cell? ⟨p,4,none⟩=some (.int .i64 (bends d.ri d.p0 d.es).length):=hE.rb.blk.cell (k:=4) rfl;have hz5:w.cell? ⟨p,5,none⟩=some (.int .i64 (eoff d.ri d.p0 d.es d.es.length)):=hE.rb.blk.cell (k:=5) rfl;have hfin:=fun w'=>newBI_bc (w':=w') (r:=r) (x2:=x2) hE
 have hpl:=lt_of_cell hz4;have hpn:p≠w.heap.size:=by omega
 have hpn1:p≠w.heap.size+1:=by omega
 have HFIN:=hid hfin;have HE0:=hid hE;have HSL:=hid hsl;have HBS:=hid hs;have HBT:=hid ht;have HR:=hid hr;have HNE:=hid hne;have HT:=hid hT;have HFW:=hid hfw;clear hE hfin hsl hs ht hr hne hT hfw;have hmk:=mk0;unfold icN bic isN at HFIN;generalize hN:(bends d.ri d.p0 d.es).length=N at *;generalize hE:eoff d.ri d.p0 d.es d.es.length=E at *;have HN:=hid hN;have HE:=hid hE;clear hN hE;rcases hx with rfl | rfl
 all_goals
  go_enter Tryz.func59,Tryz.ntmps59
  go_upto_region 1 with fail
  refine Pos.start (fun W:World=>W.cell? ⟨p,4,none⟩=some (.int .i64 N)∧W.cell? ⟨p,5,none⟩=some (.int .i64 (E))) 14 (by kernel_rfl) ?_;have hS:(fun W:World=>W.cell? ⟨p,4,none⟩=some (.int .i64 N)∧W.cell? ⟨p,5,none⟩=some (.int .i64 (E))) (w.drewN 1):=⟨hz4,hz5⟩;iterate 3
   refine' Pos.takeK hS rfl (by kernel_rfl) (fun _ _ _ h=>h) (by rfl) ?_ ?_;rotate_left
   ·intro W hW;obtain ⟨s1,s2⟩:=hW;go_simp;try with_reducible rfl
   intro K hK;go_simp;refine hK _ ?_;clear hK K
  refine Pos.toG 12 #[true,true,true,false,false,false,false,false,false,false,false,false,false,false,false] rfl (by kernel_rfl) ?_;refine' PosG.takeK (k:=4) hS rfl (by kernel_rfl) (fun _ _ _ h=>h) (by rfl) ?_ ?_;rotate_left
  ·intro W hW;obtain ⟨s1,s2⟩:=hW;go_simp;try with_reducible rfl
  intro K hK;go_simp;refine hK _ ?_;clear hK K;refine' PosG.takeK (k:=5) hS rfl (by kernel_rfl) (fun _ _ _ h=>h) (by rfl) ?_ ?_;rotate_left
  ·intro W hW;obtain ⟨s1,s2⟩:=hW;go_simp;try with_reducible rfl
  intro K hK;go_simp;refine hK _ ?_;clear hK K;refine' PosG.takeK (k:=6) hS rfl (by kernel_rfl) (fun _ _ _ h=>h) (by rfl) ?_ ?_;rotate_left
  ·intro W hW;obtain ⟨s1,s2⟩:=hW;go_simp;try with_reducible rfl
  intro K hK;go_simp;refine hK _ ?_;clear hK K;refine' PosG.takeK (k:=7) hS rfl (by kernel_rfl) (fun _ _ _ h=>h) (by rfl) ?_ ?_;rotate_left
  ·intro W hW;obtain ⟨s1,s2⟩:=hW;go_simp;try with_reducible rfl
  intro K hK;go_simp;refine hK _ ?_;clear hK K;refine' PosG.takeK (k:=8) hS rfl (by kernel_rfl) (fun _ _ _ h=>h) (by rfl) ?_ ?_;rotate_left
  ·intro W hW;obtain ⟨s1,s2⟩:=hW;go_simp;try with_reducible rfl
  intro K hK;go_simp;refine hK _ ?_;clear hK K;refine' PosG.takeK (k:=9) hS rfl (by kernel_rfl) (fun _ _ _ h=>h) (by rfl) ?_ ?_;rotate_left
  ·intro W hW;obtain ⟨s1,s2⟩:=hW;go_simp;try with_reducible rfl
  intro K hK;go_simp;refine hK _ ?_;clear hK K;refine' PosG.takeK (k:=10) hS rfl (by kernel_rfl) (fun _ _ _ h=>h) (by rfl) ?_ ?_;rotate_left
  ·intro W hW;obtain ⟨s1,s2⟩:=hW;go_simp;try with_reducible rfl
  intro K hK;go_simp;refine hK _ ?_;clear hK K;refine' PosG.takeK (k:=11) hS rfl (by kernel_rfl) (fun _ _ _ h=>h) (by rfl) ?_ ?_;rotate_left
  ·intro W hW;obtain ⟨s1,s2⟩:=hW;go_simp;try with_reducible rfl
  intro K hK;go_simp;refine hK _ ?_;clear hK K;clear hS;refine PosG.eff (k:=3) rfl (by kernel_rfl) ?_;go_wp2_with fail
  have hS:(fun W:World=>W.cell? ⟨p,4,none⟩=some (.int .i64 N)∧W.cell? ⟨p,5,none⟩=some (.int .i64 (E))) ((w.alloc (Obj.cells #[] 5)).drewN 1):=⟨by go_simp,by go_simp⟩;refine ⟨hS,?_⟩;refine' PosG.takeK (k:=12) hS rfl (by kernel_rfl) (fun _ _ _ h=>h) (by rfl) ?_ ?_;rotate_left
  ·intro W hW;obtain ⟨s1,s2⟩:=hW;go_simp;try with_reducible rfl
  intro K hK;go_simp;refine hK _ ?_;clear hK K;refine PosG.eff (k:=13) rfl (by kernel_rfl) ?_;go_wp2_with fail
  clear hS;refine ⟨⟨by go_simp,by go_simp⟩,?_⟩;refine PosG.tail rfl (by kernel_rfl) (by kernel_rfl) (by decide) ?_;simp only [List.drop_succ_cons,List.drop_zero];go_upto_region 3 with fail
  obtain ⟨q1,q2⟩:=HFIN.out _ ⟨1,rfl⟩;have hst:=RStart.of_new HE0.out.ri (by unfold icN;rw [HN.out,HE.out];exact q1) q2;clear q1 HFIN;generalize hW:(World.drewN (World.alloc _ _) 1)=W at *;have hc0:W.cell? ⟨sl,0,none⟩=some sv:=(World.cell?_of_block (a:=⟨sl,0,none⟩) (q2.block _ HSL.out.lt)).trans (HSL.out.cell (k:=0) rfl);have HST:=hid hst;clear hst hW q2;go_cut [32] from 28 (fun v32 wx=>v32=.bool s.isSome∧wx=W)
  case first=>as_aux_lemma =>
   cases s with
   | none =>
    have hv:sv=.slice none 0 0:=HBS.out;rw [hv] at hc0;clear hv;go_wp2_with fail
    go_meet
    case rel=>exact ⟨rfl,rfl⟩
   | some l =>
    obtain ⟨b,o,n,cc,rfl,hb,hsl⟩:=HBS.out;go_wp2_with fail
    go_meet
    case rel=>exact ⟨rfl,rfl⟩
  case rest =>
  obtain ⟨rfl,hwc⟩:=hcut;rw [hwc];clear hwc wc;go_upto_if 32 with fail
  go_cut [] from 28 (fun wx=>RStart w (w.heap.size+1) r p _ d (rLo d.es s) wx)
  case first=>as_aux_lemma =>
   cases s with
   | none =>
    go_wp2_with fail
    go_meet
    case rel=>exact HST.out
   | some l =>
    obtain ⟨b,o,n,cc,rfl,hb,hsl⟩:=HBS.out;have hse:=HST.out.seek HFW.out HT.out hb hsl HR.out;rw [Nat.zero_max] at hse;clear hsl;go_wp2_with fail
    refine hse.mono ?_;rintro e w2 ⟨rfl,c,st,X,h1,h2,h3,hbc,hSR,hX,hbl⟩;clear hse;obtain ⟨s0,O,key,hBF,hR,hA,hdir,hpo⟩:=hbc.openF HFW.out;have HX:=hid (show (c.tr=r∧c.p=p∧c.x2=_)∧BRan c d 0 d.es.length st∧BAt d 0 d.es.length s0 key [] [] (sidx d.es l+1)∧c.riL=(bends d.ri d.p0 d.es).length∧(∀ k,X k→w.heap.size≤k∧k < w2.heap.size)∧Below w.heap.size w w2 from ⟨⟨h1,h2,h3⟩,hR,hA,hSR.1,hX,hbl⟩);try dsimp only
    by_cases hj:sidx d.es l < d.es.length
    ·rw [decide_eq_true hj];obtain ⟨hpo,hrx⟩:=hpo _ rfl hj;have hri:=(hBF.below (Below.drewN' _ w2 1)).be.restartIdx hj hrx;have c1:=(bends_cover (p:=d.p0) hBF.be.ri hj).1;obtain ⟨q4,q5⟩:=hBF.pcell;obtain ⟨q7,q10,_⟩:=hBF.cells;rw [hpo] at q7;rw [h2,HN.out] at q4 hri;have HB:=hid hBF;have HJ:=hid hj;have HC1:=hid c1;clear q5 hBF hbc hSR hX hbl hR hA hdir hrx h1 h3 hj c1;go_upto_region 5 with fail
     refine Pos.start (fun W:World=>W.cell? ⟨p,4,none⟩=some (.int .i64 N)∧W.cell? ⟨w.heap.size+1,10,none⟩=some (.int .i64 (s0.rix:Int))∧W.cell? ⟨w.heap.size+1,7,none⟩=some (.int .i64 (eoff d.ri d.p0 d.es (sidx d.es l):Nat))) 15 (by kernel_rfl) ?_;have hS:(fun W:World=>W.cell? ⟨p,4,none⟩=some (.int .i64 N)∧W.cell? ⟨w.heap.size+1,10,none⟩=some (.int .i64 (s0.rix:Int))∧W.cell? ⟨w.heap.size+1,7,none⟩=some (.int .i64 (eoff d.ri d.p0 d.es (sidx d.es l):Nat))) (w2.drewN 1):=⟨q4,q10,q7⟩
     iterate 14
      refine' Pos.takeK hS rfl (by kernel_rfl) (fun _ _ _ h=>h) (by rfl) ?_ ?_;rotate_left
      ·intro W hW;obtain ⟨s1,s2,s3⟩:=hW;go_simp;try with_reducible rfl
      intro K hK;go_simp;refine hK _ ?_;clear hK K
     refine Pos.eff rfl (by kernel_rfl) ?_;go_wp2_with fail
     refine hri.mono ?_;rintro e w3 ⟨rfl,hb3⟩;have hb23:Below w2.heap.size w2 w3:=(Below.drewN' w2.heap.size w2 1).trans hb3;have B3:=HB.out.below hb23;have B4:=B3.set { c with riS:=sidx d.es l / d.ri } 12 (.int .i64 ((sidx d.es l / d.ri:Nat):Int)) rfl rfl;have hro:=B4.be.restartOff HC1.out;rw [show ({ c with riS:=sidx d.es l / d.ri }:IC).p=p from h2] at hro;obtain ⟨t7,t10,r12,_⟩:=B3.cells;rw [hpo] at t7
     have f12:=B3.free 12;have hS3:(fun W:World=>W.cell? ⟨p,4,none⟩=some (.int .i64 N)∧W.cell? ⟨w.heap.size+1,10,none⟩=some (.int .i64 (s0.rix:Int))∧W.cell? ⟨w.heap.size+1,7,none⟩=some (.int .i64 (eoff d.ri d.p0 d.es (sidx d.es l):Nat))) w3:=⟨by have:=B3.pcell.1;rw [h2,HN.out] at this;exact this,t10,t7⟩;have HB4:=hid B4;have HB3:=hid hb23;clear hri hb3 hb23 B3 B4 hS q4 q10 q7 t7 t10;try dsimp only
     go_wp2_with fail
     refine ⟨hS3,?_⟩;clear hS3;refine Pos.tail (by kernel_rfl) (by decide) ?_;simp only [List.drop_succ_cons,List.drop_zero];go_wp2_with fail
     refine hro.mono ?_;rintro e w4 ⟨rfl,hb4⟩;have B5:=HB4.out.below hb4;obtain ⟨r7,_,_,_,r14,r15,_⟩:=B5.cells;rw [hpo] at r7;have f14:=B5.free 14;have f15:=B5.free 15;have B6:=(B5.set { c with riS:=sidx d.es l / d.ri,oS:=eoff d.ri d.p0 d.es (sidx d.es l / d.ri*d.ri) } 14 (.int .i64 (eoff d.ri d.p0 d.es (sidx d.es l / d.ri*d.ri):Nat)) rfl rfl).set { c with riS:=sidx d.es l / d.ri,oS:=eoff d.ri d.p0 d.es (sidx d.es l / d.ri*d.ri),oR:=eoff d.ri d.p0 d.es (sidx d.es l) } 15 (.int .i64 (eoff d.ri d.p0 d.es (sidx d.es l):Nat)) rfl rfl
     have HFIN:Hid (RStart w (w.heap.size+1) r p _ d (sidx d.es l) ((w4.setCell ⟨w.heap.size+1,14,none⟩ (.int .i64 (eoff d.ri d.p0 d.es (sidx d.es l / d.ri*d.ri):Nat))).setCell ⟨w.heap.size+1,15,none⟩ (.int .i64 (eoff d.ri d.p0 d.es (sidx d.es l):Nat)))):=hid (by
      obtain ⟨x1,x2,x3,x4,x5,x6⟩:=HX.out;have y1:=HB3.out.size;have y2:w3.heap.size≤w4.heap.size:=by have:=hb4.size;simpa [World.setCell] using this
      have y3:=x6.size;refine RStart.of_found HJ.out B6 x2 x3 x4 x1 (fun k hk=>⟨(x5 k hk).1,by have:=(x5 k hk).2;simp [World.setCell];omega⟩) ?_;have z1:=x6.trans (HB3.out.mono y3);have z2:=z1.setCell (p:=⟨w.heap.size+1,12,none⟩) (by simp) (.int .i64 ((sidx d.es l / d.ri:Nat):Int));have z3:=z2.trans (hb4.mono z2.size);exact (z3.setCell (p:=⟨w.heap.size+1,14,none⟩) (by simp) _).setCell (p:=⟨w.heap.size+1,15,none⟩) (by simp) _)
     clear hro hb4 B5 B6 HX HB HB3 HB4;try dsimp only
     go_wp2_with fail
     go_meet
     case rel=>exact HFIN.out
    ·rw [decide_eq_false hj];have hle:=sidx_le d.es l;have hjn:sidx d.es l=d.es.length:=by omega
     obtain ⟨q4,q5⟩:=hBF.pcell;rw [h2,HN.out] at q4;rw [h2,HE.out] at q5;obtain ⟨_,_,r12,_,r14,r15,_⟩:=hBF.cells;have f12:=hBF.free 12;have f14:=hBF.free 14;have f15:=hBF.free 15;have HFIN:Hid (RStart w (w.heap.size+1) r p _ d (sidx d.es l) (((w2.setCell ⟨w.heap.size+1,12,none⟩ (.int .i64 (N:Int))).setCell ⟨w.heap.size+1,14,none⟩ (.int .i64 (E:Int))).setCell ⟨w.heap.size+1,15,none⟩ (.int .i64 (E:Int)))):=hid (by
      obtain ⟨x1,x2,x3,x4,x5,x6⟩:=HX.out;rw [← HN.out,← HE.out,hjn];have B6:=((hBF.set { c with riS:=(bends d.ri d.p0 d.es).length } 12 (.int .i64 (bends d.ri d.p0 d.es).length) rfl rfl).set { c with riS:=(bends d.ri d.p0 d.es).length,oS:=eoff d.ri d.p0 d.es d.es.length } 14 (.int .i64 (eoff d.ri d.p0 d.es d.es.length)) rfl rfl).set { c with riS:=(bends d.ri d.p0 d.es).length,oS:=eoff d.ri d.p0 d.es d.es.length,oR:=eoff d.ri d.p0 d.es d.es.length } 15 (.int .i64 (eoff d.ri d.p0 d.es d.es.length)) rfl rfl
      exact RStart.of_none (cur:=sidx d.es l+1) (by rw [hjn]) (HNE.out (by simp)) B6 x2 x3 x4 x1 (fun k hk=>⟨(x5 k hk).1,by have:=(x5 k hk).2;simpa [World.setCell] using this⟩) (((x6.setCell (p:=⟨w.heap.size+1,12,none⟩) (by simp) _).setCell (p:=⟨w.heap.size+1,14,none⟩) (by simp) _).setCell (p:=⟨w.heap.size+1,15,none⟩) (by simp) _))
     clear hBF hbc hSR hX hbl hR hA hdir hpo h1 h3 HX hle hjn;go_wp2_with fail
     go_meet
     case rel=>exact HFIN.out
  case rest =>
   clear HST hc0;have HST:=hid hcut;have hc1:wc.cell? ⟨sl,1,none⟩=some tv:=by
    obtain ⟨_,_,_,_,_,_,_,_,_,_,q⟩:=hcut;exact (World.cell?_of_block (a:=⟨sl,1,none⟩) (q.block _ HSL.out.lt)).trans (HSL.out.cell (k:=1) rfl)
   clear hcut;go_upto_region 11 with fail
   generalize wc=wS at *;go_cut [97] from 93 (fun v97 wx=>v97=.bool t.isSome∧wx=wS)
   case first=>as_aux_lemma =>
    cases t with
    | none =>
     have hv:tv=.slice none 0 0:=HBT.out;rw [hv] at hc1;clear hv;go_wp2_with fail
     go_meet
     case rel=>exact ⟨rfl,rfl⟩
    | some l =>
     obtain ⟨b,o,n,cc,rfl,hb,hsl⟩:=HBT.out;go_wp2_with fail
     go_meet
     case rel=>exact ⟨rfl,rfl⟩
   case rest =>
   obtain ⟨rfl,hwc⟩:=hcut;rw [hwc];clear hwc wc;go_upto_if 97 with fail
   go_cut [] from 93 (fun wx=>RLim w (w.heap.size+1) r p _ d (rLo d.es s) (rHi d.es (rLo d.es s) incl t) wx)
   case first=>as_aux_lemma =>
    cases t with
    | none =>
     go_wp2_with fail
     go_meet
     case rel=>exact HST.out.lim HFW.out
    | some l =>
     obtain ⟨b,o,n,cc,rfl,hb,hsl⟩:=HBT.out;have hse:=HST.out.seek HFW.out HT.out hb hsl HR.out;clear hsl;generalize rLo d.es s=LO at *;have hlo:LO≤max LO (sidx d.es l):=Nat.le_max_left _ _;generalize hJJ:max LO (sidx d.es l)=J at *;have hrh:Hid (rHi d.es LO incl (some l)=if incl then min (J+1) d.es.length else J):=hid (by rw [← hJJ];rfl);clear hJJ;go_wp2_with fail
     refine hse.mono ?_;rintro e w2 ⟨rfl,c,st,X,h1,h2,h3,hbc,hSR,hX,hbl⟩;clear hse;try dsimp only
     by_cases hj:J < d.es.length
     ·rw [decide_eq_true hj];cases incl
      ·obtain ⟨s0,O,key,hBF,hR,hA,hdir,hpo⟩:=hbc.openF HFW.out;obtain ⟨hpo,hrx⟩:=hpo _ rfl hj;have hwx:=hBF.rixb hj hrx;obtain ⟨r7,r10,_,r13,_,_,r16⟩:=hBF.cells;rw [hpo] at r7;have f13:=hBF.free 13;have f16:=hBF.free 16;have HFIN:Hid (RLim w (w.heap.size+1) r p _ d LO (rHi d.es LO false (some l)) ((w2.setCell ⟨w.heap.size+1,16,none⟩ (.int .i64 (eoff d.ri d.p0 d.es J:Nat))).setCell ⟨w.heap.size+1,13,none⟩ (.int .i64 ((s0.rix+1:Nat):Int)))):=hid (by
        rw [hrh.out,if_neg (by simp)];have B6:=(hBF.set { c with oL:=eoff d.ri d.p0 d.es J } 16 (.int .i64 (eoff d.ri d.p0 d.es J:Nat)) rfl rfl).set { c with oL:=eoff d.ri d.p0 d.es J,riL:=s0.rix+1 } 13 (.int .i64 ((s0.rix+1:Nat):Int)) rfl rfl;exact RLim.of_set B6 hR hlo (Nat.le_of_lt hj) hdir ⟨h1,h2,h3⟩ (fun k hk=>⟨(hX k hk).1,by have:=(hX k hk).2;simpa [World.setCell] using this⟩) ((hbl.setCell (p:=⟨w.heap.size+1,16,none⟩) (by simp) _).setCell (p:=⟨w.heap.size+1,13,none⟩) (by simp) _))
       clear hBF hbc hSR hX hbl hR hA hdir hpo h1 h2 h3 hrx hj;go_wp2_with fail
       go_meet
       case rel=>exact HFIN.out
      ·have hnx:=hbc.next;have hn0:nxt LO d.es.length (J+1)=J+1+1:=by unfold nxt;rw [if_neg (by omega)];omega
       rw [hn0] at hnx;have HX:=hid (show (c.tr=r∧c.p=p∧c.x2=_)∧(∀ k,X k→w.heap.size≤k∧k < w2.heap.size)∧Below w.heap.size w w2 from ⟨⟨h1,h2,h3⟩,hX,hbl⟩);clear hbc hSR hX hbl h1 h2 h3 hn0;go_wp2_with fail
       refine hnx.mono ?_;rintro e w3 ⟨rfl,hbc,hf3⟩;clear hnx;have HX3:Hid ((∀ k,grow X w2 w3 k→w.heap.size≤k∧k < w3.heap.size)∧Below w.heap.size w w3):=hid (by
        obtain ⟨_,x5,x6⟩:=HX.out;exact ⟨fun k hk=>hk.elim (fun e=>⟨(x5 k e).1,Nat.lt_of_lt_of_le (x5 k e).2 hf3.size⟩) (fun e=>⟨Nat.le_trans x6.size e.1,e.2⟩),x6.trans (hf3.below x6.size (fun k hk e=>by have:=(x5 k e).1;omega))⟩)
       clear hf3;obtain ⟨s0,O,key,hBF,hR,hA,hdir,hpo⟩:=hbc.openF HFW.out;try dsimp only
       by_cases hj2:J+1 < d.es.length
       ·rw [decide_eq_true (show J+1+1≤d.es.length from hj2)];obtain ⟨hpo,hrx⟩:=hpo _ rfl hj2;have hwx:=hBF.rixb hj2 hrx;obtain ⟨r7,r10,_,r13,_,_,r16⟩:=hBF.cells;rw [hpo] at r7;have f13:=hBF.free 13;have f16:=hBF.free 16;have HFIN:Hid (RLim w (w.heap.size+1) r p _ d LO (rHi d.es LO true (some l)) ((w3.setCell ⟨w.heap.size+1,16,none⟩ (.int .i64 (eoff d.ri d.p0 d.es (J+1):Nat))).setCell ⟨w.heap.size+1,13,none⟩ (.int .i64 ((s0.rix+1:Nat):Int)))):=hid (by
         rw [hrh.out,if_pos trivial,Nat.min_eq_left (Nat.le_of_lt hj2)];have B6:=(hBF.set { c with oL:=eoff d.ri d.p0 d.es (J+1) } 16 (.int .i64 (eoff d.ri d.p0 d.es (J+1):Nat)) rfl rfl).set { c with oL:=eoff d.ri d.p0 d.es (J+1),riL:=s0.rix+1 } 13 (.int .i64 ((s0.rix+1:Nat):Int)) rfl rfl;exact RLim.of_set B6 hR (by omega) (Nat.le_of_lt hj2) hdir HX.out.1 (fun k hk=>⟨(HX3.out.1 k hk).1,by have:=(HX3.out.1 k hk).2;simpa [World.setCell] using this⟩) ((HX3.out.2.setCell (p:=⟨w.heap.size+1,16,none⟩) (by simp) _).setCell (p:=⟨w.heap.size+1,13,none⟩) (by simp) _))
        clear hBF hbc hR hA hdir hpo hrx hj hj2;go_wp2_with fail
        go_meet
        case rel=>exact HFIN.out
       ·rw [decide_eq_false (show ¬ J+1+1≤d.es.length from hj2)];have HFIN:Hid (RLim w (w.heap.size+1) r p _ d LO (rHi d.es LO true (some l)) w3):=hid (by
         rw [hrh.out,if_pos trivial,Nat.min_eq_right (by omega)];exact ⟨c,st,_,s0,O,key,HX.out.1.1,HX.out.1.2.1,HX.out.1.2.2,hBF,hR,hdir,HX3.out⟩)
        clear hBF hbc hR hA hdir hpo hj hj2;go_wp2_with fail
        go_meet
        case rel=>exact HFIN.out
     ·rw [decide_eq_false hj];obtain ⟨s0,O,key,hBF,hR,hA,hdir,hpo⟩:=hbc.openF HFW.out;have hlh:=hR.lh;have HFIN:Hid (RLim w (w.heap.size+1) r p _ d LO (rHi d.es LO incl (some l)) w2):=hid (by
       have hJ:(if incl then min (J+1) d.es.length else J)=d.es.length:=by
        have:=(hbc.curOk);split <;> omega
       rw [hrh.out,hJ];exact ⟨c,st,_,s0,O,key,h1,h2,h3,hBF,hR,hdir,hX,hbl⟩)
      clear hBF hbc hSR hX hbl hR hA hdir hpo h1 h2 h3 hj;go_wp2_with fail
      go_meet
      case rel=>exact HFIN.out
   case rest =>
    obtain ⟨c,st,X,s0,O,key,h1,h2,h3,hBF,hR,hdir,hX,hbl⟩:=hcut;have hrs:=breset_any wc _ c s0 O key [] [] hBF.bi hdir;generalize rLo d.es s=LO at *;generalize rHi d.es LO incl t=HI at *;have hX0:=hid (show (c.tr=r∧c.p=p∧c.x2=_)∧(∀ k,X k→w.heap.size≤k∧k < wc.heap.size)∧Below w.heap.size w wc∧BF wc (w.heap.size+1) X c d s0 O key∧BRan c d LO HI st from ⟨⟨h1,h2,h3⟩,hX,hbl,hBF,hR⟩);clear h1 h2 h3 hBF hdir hX hbl hR HST hc1
    go_wp2_with fail
    refine hrs.mono ?_;rintro e w2 ⟨rfl,a,kc,hBI,hf⟩;obtain ⟨h1,hX,hbl,hBF,hR⟩:=hX0.out;have hgl:=hBF.bi.blk.lt;have hg0:=(hX _ (hBF.cov _ (.inl rfl))).1;have r14:w2.cell? ⟨w.heap.size+1,14,none⟩=some (.int .i64 (c.oS:Int)):=hBI.blk.cell (k:=14) rfl;have r16:w2.cell? ⟨w.heap.size+1,16,none⟩=some (.int .i64 (c.oL:Int)):=hBI.blk.cell (k:=16) rfl;have hcmp:((c.oL:Int) < (c.oS:Int))=False:=by
     have h5:=eoff_mono (ri:=d.ri) (p:=d.p0) (es:=d.es) (i:=st) (j:=HI) (by have:=hR.sl;have:=hR.lh;omega);have h6:=hR.oS;have h7:=hR.oL;simp only [eq_iff_iff,iff_false];omega
    have HFIN:Hid (∀ k,NewTo r p _ d LO HI w (.returned (.pointer (some ⟨w.heap.size+1,0,none⟩))) (w2.drewN k)):=hid (fun k=>by
     have hf':=hf.drewN k;have hBF2:BE (w2.drewN k) c.p d.q d.off d.len d.ri d.p0 d.es:=hBF.be.keep (hf'.block _ hBF.be.rb.blk.lt hBF.ap.1) (hf'.block _ hBF.be.rb.qlt hBF.ap.2.1);refine ⟨w.heap.size+1,c,st,rfl,⟨_,O,[],[],[],hBI.drewN k,hBF2,hBF.ap,fun k hk=>?_,hR,.inl ⟨rfl,rfl,rfl,rfl⟩⟩,h1.1,h1.2.1,h1.2.2,hbl.trans (hf'.below hbl.size (fun k hk e=>by omega)),fun e=>by rw [HFW.out] at e;cases e⟩;exact ⟨(hX k (hBF.cov k hk)).1,Nat.lt_of_lt_of_le (hX k (hBF.cov k hk)).2 hf'.size⟩)
    clear hBI hf hbl hBF hR hX h1 hX0 hrs hgl hg0;try dsimp only
    go_upto_region 16 with fail
    go_quiet (fail)
    go_wp2_with fail
    go_ret
    exact HFIN.out _
end
section
open Go Go.RowKit Go.Shelf
theorem sidx_nil' {es:List KV} {s:Bs} (h:∀ e∈es,Lib.compareBytes e.1 s=-1):sidx es s=es.length:=by
 have:=sidx_append es [] s h;simpa [sidx] using this
theorem cmp_nil {s:Bs} (h:s≠[]):Lib.compareBytes [] s=-1:=by
 cases s with
 | nil=>exact absurd rfl h
 | cons a b=>simp [Lib.compareBytes]
theorem TI.ok.ne {T:TI} (h:T.ok) {s:Option Bs} (hs:s≠none) (hs0:s≠some []) {i:Nat} {b:DB} (hb:T.B[i]?=some b) (hi:rLo (ients T.ri T.B T.sp) s≤i):b.es≠[]:=by
 have hm:=List.mem_of_getElem? hb;by_cases hl:T.l=[]
 ·cases s with
  | none=>exact absurd rfl hs
  | some s =>
   have hse:s≠[]:=fun e=>hs0 (by rw [e])
   have h1:sidx (ients T.ri T.B T.sp) s=(ients T.ri T.B T.sp).length:=sidx_nil' (fun e he=>by
    obtain ⟨j,hj⟩:=List.mem_iff_getElem?.1 he;obtain ⟨_,_,h2,_⟩:=h.tab.iat hj;rw [h.tab.emp hl e.1 (List.mem_of_getElem? h2)];exact cmp_nil hse)
   have h3:=lt_of_some hb;have h4:sidx (ients T.ri T.B T.sp) s≤i:=hi;rw [h1,h.tab.ilen] at h4;omega
 ·exact h.tab.ne hl b hm
theorem keyIR_d {T:TI} (h:T.ok) {s t:Option Bs} {sl:Option Addr} {k:Nat} {b:DB} (hb:T.B[k]?=some b) (h1:(keyIR T s t sl).lo≤k) (h2:k < (keyIR T s t sl).hi):(keyIR T s t sl).dl k=rLo b.es s∧(keyIR T s t sl).dh k=rHi b.es (rLo b.es s) false t:=by
 have he:esAt T k=b.es:=by unfold esAt;rw [hb];rfl
 have eLo:(keyIR T s t sl).lo=rLo (ients T.ri T.B T.sp) s:=rfl;have eHi:(keyIR T s t sl).hi=rHi (ients T.ri T.B T.sp) (keyIR T s t sl).lo true t:=rfl;have edl:(keyIR T s t sl).dl k=if k=(keyIR T s t sl).lo∨k+1=(keyIR T s t sl).hi then rLo b.es s else 0:=by rw [← he];rfl
 have edh:(keyIR T s t sl).dh k=if k=(keyIR T s t sl).lo∨k+1=(keyIR T s t sl).hi then rHi b.es (rLo b.es s) false t else b.es.length:=by rw [← he];rfl
 rw [edl,edh];generalize (keyIR T s t sl).lo=lo at *;generalize (keyIR T s t sl).hi=hi at *;by_cases hc:k=lo∨k+1=hi
 ·rw [if_pos hc,if_pos hc];exact ⟨rfl,rfl⟩
 ·rw [if_neg hc,if_neg hc];have hlo:rLo b.es s=0:=by
   cases s with
   | none=>rfl
   | some s=>exact ((h.tab.place s hb).2.2 (by have:lo=sidx (ients T.ri T.B T.sp) s:=eLo;omega)).2
  rw [hlo];refine ⟨rfl,?_⟩;cases t with
  | none=>rfl
  | some t =>
   have hh:hi=min (max lo (sidx (ients T.ri T.B T.sp) t)+1) (ients T.ri T.B T.sp).length:=by rw [eHi];simp [rHi]
   have h3:=((h.tab.place t hb).1 (by omega)).2;have e2:rHi b.es 0 false (some t)=max 0 (sidx b.es t):=by simp [rHi]
   rw [e2,h3];omega
theorem BndAt.below {w w':World} {v:Value} {s:Option Bs} (h:BndAt w v s) (hb:Below w.heap.size w w'):BndAt w' v s:=by
 cases s with
 | none=>exact h
 | some l =>
  obtain ⟨b,o,n,c,e,h1,h2⟩:=h;exact ⟨b,o,n,c,e,Nat.lt_of_lt_of_le h1 hb.size,h2.fr' fun x p e j _=>by
   cases e
   exact World.cell?_of_block (hb.block b h1)⟩
theorem newRng_any {Bd:Nat} {w:World} {r:Nat} {C:RC} {T:TI} (h:RD Bd w r C T) {sl:Nat} {sv tv:Value} {s t:Option Bs} (hsl:Blk w sl #[sv,tv] 179) (hs:BndAt w sv s) (ht:BndAt w tv t) (hs0:s≠some []):Calls Tryz.prog 30 #[.pointer (some ⟨r,0,none⟩),.pointer (some ⟨sl,0,none⟩),.pointer none] w fun e w' =>
  ∃ P:IP,e=.returned (.iface 249 (.pointer (some ⟨P.it,0,none⟩)))∧P.base=w.heap.size∧P.T=T∧P.R=keyIR P.T s t (some ⟨sl,0,none⟩)∧P.gets∧II P w' 0∧Below w.heap.size w w':=by
 have hbd:=h.bd;have hine:s≠none→(ixD T C.ixq C.io C.il true).es≠[]:=fun _ e=>by
  have h1:=h.ok.tab.ilen;have h2:ients T.ri T.B T.sp=[]:=e;rw [h2] at h1;have:=h.ok.tab.pos;simp at h1;omega
 have hn:=newIt_any h (some ⟨sl,0,none⟩) _ _ true (newBR_any w r C.ixp sl (.iface 246 (.agg #[])) sv tv true (ixD T C.ixq C.io C.il true) rfl s t h.ix (.inl rfl) hsl hs ht (h.c 6) h.ok.tab.irising hine);refine hn.mono ?_;rintro e w' ⟨it,ii,gx,c,st,X,rfl,hb,h1,h2,h3,h4,h5,h6,h7,h8,h9,h10,h11⟩;refine ⟨⟨w.heap.size,it,ii,gx,r,Bd,C,T,keyIR T s t (some ⟨sl,0,none⟩),c,ixD T C.ixq C.io C.il true,st,fun wx=>Below w.heap.size w wx,fun _=>False,fun _=>none⟩,rfl,rfl,rfl,rfl,?_,⟨X,.inl ⟨rfl,?_⟩⟩,hb⟩
 ·intro w2 X2 i b dv hx hlo hhi hbb;have hbb':T.B[i]?=some b:=hbb;have hde:(ixD T C.ixq C.io C.il true).es=ients T.ri T.B T.sp:=rfl;have hM:Below w.heap.size w w2:=hx.mem;obtain ⟨d1,d2⟩:=keyIR_d (sl:=some ⟨sl,0,none⟩) h.ok hbb' hlo hhi;refine iget_any hx.rd ii gx (some ⟨sl,0,none⟩) true hx.hii hx.bc hhi hde (fun _=>rfl) hbb true _ _ (fun e=>?_) (fun _ w1 p q hb1 hp hq hE=>?_)
  ·rcases e with e | ⟨e1,e2⟩
   ·cases e
   ·show (keyIR T s t (some ⟨sl,0,none⟩)).dl i=0∧(keyIR T s t (some ⟨sl,0,none⟩)).dh i=_
    have e1':i≠(keyIR T s t (some ⟨sl,0,none⟩)).lo:=e1;have e2':i+1≠(keyIR T s t (some ⟨sl,0,none⟩)).hi:=e2;have a1:(keyIR T s t (some ⟨sl,0,none⟩)).dl i=if i=(keyIR T s t (some ⟨sl,0,none⟩)).lo∨i+1=(keyIR T s t (some ⟨sl,0,none⟩)).hi then rLo (esAt T i) s else 0:=rfl
    have a2:(keyIR T s t (some ⟨sl,0,none⟩)).dh i=if i=(keyIR T s t (some ⟨sl,0,none⟩)).lo∨i+1=(keyIR T s t (some ⟨sl,0,none⟩)).hi then rHi (esAt T i) (rLo (esAt T i) s) false t else (esAt T i).length:=rfl
    rw [a1,a2,if_neg (by omega),if_neg (by omega)];exact ⟨rfl,by unfold esAt;rw [hbb'];rfl⟩
  ·show Calls Tryz.prog 59 _ w1 (NewTo r p _ _ ((keyIR T s t (some ⟨sl,0,none⟩)).dl i) ((keyIR T s t (some ⟨sl,0,none⟩)).dh i) w1)
   rw [d1,d2];have hM1:Below w.heap.size w w1:=hM.trans (hb1.mono hM.size);exact newBR_any w1 r p sl (.iface 141 (.pointer (some ⟨p,0,none⟩))) sv tv false ⟨q,b.off,(b.bytes T.ri).length,T.ri,b.p0,b.es,true⟩ rfl s t hE (.inr rfl) ((hM1.block sl hsl.lt).trans hsl) (hs.below hM1) (ht.below hM1) ((h.below (hM1.mono hbd)).c 6) (h.ok.bRising hbb') (fun e=>h.ok.ne e hs0 hbb' hlo)
 ·exact ⟨h.below (hb.mono hbd),hbd,h1,h2,h3,rfl,rfl,h6,h4,fun e=>(nomatch e),fun e=>(h8 _ e).2.2.1 rfl,fun e=>(h8 _ e).2.2.2 rfl,h9,h10,h11,fun k hk=>⟨(h8 k hk).1,(h8 k hk).2.1⟩,by rw [h5];exact Nat.lt_of_lt_of_le h.lp hbd,Nat.lt_of_lt_of_le h.lq hbd,by
   show rHi (ients T.ri T.B T.sp) _ true t≤T.B.length
   have hil:=h.ok.tab.ilen;cases t with
   | none=>rw [← hil];exact Nat.le_refl _
   | some t=>simp only [rHi,if_true];omega,hb,fun _ _ h1 h2=>h2.trans h1,fun _ e=>False.elim e,fun _ e=>False.elim e,fun _ _ e=>False.elim e,fun e=>False.elim e,fun e=>False.elim e⟩
end
end Go.Proofs.YtmkdpjicgjhhjaaGreatDoor
