/- Part 31 of the proof of FnTableComesBack: contracts and lemmas, each under the conditions that it states. Texts: IFi, BPr0. -/
import Derived.Test.YtmkdpjicgjhhjaaGreatDoorC30
import Derived.Test.YtmkdpjicgjhhjaaGreatDoorC27
namespace Go.Proofs.YtmkdpjicgjhhjaaGreatDoor
open Go.Lib (hid)
set_option maxRecDepth 100000
set_option linter.all false
section
open Go Go.RowKit Go.Shelf
theorem II.out {P:IP} {w:World} {cur:Nat} (h:II P w cur):∃ X ci dv,IX P w X ci dv∧IDv P w X dv:=by
 obtain ⟨X,⟨_,h⟩ | ⟨_,h⟩ | ⟨i,j,dv,h1,h2,h3,h4,h5,h6,_⟩⟩:=h
 ·exact ⟨X,_,_,h,.inl rfl⟩
 ·exact ⟨X,_,_,h,.inl rfl⟩
 ·exact ⟨X,_,_,h3,.inr ⟨_,_,h4⟩⟩
section
variable {P:IP} {w w':World} {X:Nat→Prop} {ci:Nat} {dv:Value}
theorem idxFirst2 (h:IX P w X ci dv) (hd:IDv P w X dv):Calls Tryz.prog 171 #[.pointer (some ⟨P.gx,0,none⟩)] w fun e w'=>e=.returned (.bool (decide (P.R.lo < P.R.hi)))∧IX P w' (grow X w w') (P.R.lo+1) dv∧IDv P w' (grow X w w') dv∧Below P.base w w':=by
 refine h.bc.first.mono ?_;rintro e w' ⟨h1,h2,h3⟩;exact ⟨h1,(h.move h2 h3).1,hd.move h3,(h.move h2 h3).2⟩
end
theorem II.first {P:IP} (hg:P.gets) {w:World} {cur:Nat} (h:II P w cur):Calls Tryz.prog 210 #[.pointer (some ⟨P.it,0,none⟩)] w fun e w'=>e=.returned (.bool (decide (1≤(vis P).length)))∧II P w' 1∧Below P.base w w':=by
 obtain ⟨X,ci,dv,hx,hd⟩:=h.out;have h5:w.cell? ⟨P.it,5,none⟩=some .nilIface:=hx.hit.cell (k:=5) rfl;have h2:w.cell? ⟨P.it,2,none⟩=some (.iface 173 (.pointer (some ⟨P.ii,0,none⟩))):=hx.hit.cell (k:=2) rfl;have hm:=metFirst w P.ii (.pointer (some ⟨P.gx,0,none⟩)) (hx.hii.cell (k:=0) rfl);have hre:=released_any hx;have hfi:=idxFirst2 hx hd;have hlh:=hx.bc.lohi.1;clear h hx hd;by_cases hl:P.R.lo < P.R.hi
 ·rw [decide_eq_true hl] at hfi;go_enter Tryz.func210,Tryz.ntmps210
  go_wp2_with fail
  refine hre.mono ?_;rintro e w' ⟨rfl,hw'⟩;rw [hw'];clear hre hw' w';dsimp only;go_wp2_with fail
  refine hfi.mono ?_;rintro e w1 ⟨rfl,h1,hd1,hb1⟩;have hsd:=setData_any hg h1 hd1 (Nat.le_refl _) hl;have HB1:=hid hb1;clear hfi h1 hd1 hb1 h5 h2 hm;dsimp only;go_wp2_with fail
  refine hsd.mono ?_;rintro e w2 ⟨rfl,dv2,h2,h2d,hb2⟩;have hnx:=inext_any P hg _ w2 1 (.inr ⟨P.R.lo,⟨_,0,dv2,Nat.le_refl _,hl,h2,h2d,.inl ⟨rfl,by rw [vup_lo P _ (Nat.le_refl _)];rfl⟩⟩,Nat.le_refl _⟩);have HB2:=hid (HB1.out.trans hb2);clear hsd h2 h2d hb2;dsimp only;go_wp2_with fail
  refine hnx.mono ?_;rintro e w3 ⟨rfl,h3,hb3⟩;have HF:=hid (show II P w3 1∧Below P.base w w3 from ⟨h3,HB2.out.trans hb3⟩);clear hnx h3 hb3;dsimp only;go_wp2
  go_ret
  exact ⟨rfl,HF.out⟩
 ·rw [decide_eq_false hl] at hfi;have hv0:(vis P).length=0:=by
   unfold vis;rw [vup_lo P _ (by omega)];rfl
  have HV:=hid hv0;clear hv0;go_enter Tryz.func210,Tryz.ntmps210
  go_wp2_with fail
  refine hre.mono ?_;rintro e w' ⟨rfl,hw'⟩;rw [hw'];clear hre hw' w';dsimp only;go_wp2_with fail
  refine hfi.mono ?_;rintro e w1 ⟨rfl,h1,hd1,hb1⟩;have hie:=indexErr_any h1;have hcl:=clear_any h1 hd1;have HB1:=hid hb1;clear hfi h1 hd1 hb1 h5 h2 hm;dsimp only;go_wp2_with fail
  refine hie.mono ?_;rintro e w' ⟨rfl,hw'⟩;rw [hw'];clear hie hw' w';dsimp only;go_wp2_with fail
  refine hcl.mono ?_;rintro e w2 ⟨rfl,h2,hb2⟩;have HF:=hid (show II P w2 1∧Below P.base w w2 from ⟨⟨_,.inr (.inl ⟨by rw [HV.out],by rw [show P.R.hi+1=P.R.lo+1 by omega];exact h2⟩)⟩,HB1.out.trans hb2⟩);clear hcl h2 hb2;dsimp only;go_wp2
  go_ret
  exact ⟨by rw [decide_eq_false (by have:=HV.out;omega)];rfl,HF.out⟩
theorem II.valid {P:IP} {w:World} {cur:Nat} (h:II P w cur):Calls Tryz.prog 217 #[.pointer (some ⟨P.it,0,none⟩)] w fun e w'=>e=.returned (.bool (decide (1≤cur∧cur≤(vis P).length)))∧w'=w:=by
 obtain ⟨X,⟨rfl,h⟩ | ⟨rfl,h⟩ | ⟨i,j,dv,h1,h2,h3,h4,h5,h6,rfl⟩⟩:=h
 ·have hz4:w.cell? ⟨P.it,4,none⟩=some .nilIface:=h.hit.cell (k:=4) rfl;rw [decide_eq_false (by omega)];clear h;go_enter Tryz.func217,Tryz.ntmps217
  go_wp2
  go_ret
  exact ⟨rfl,rfl⟩
 ·have hz4:w.cell? ⟨P.it,4,none⟩=some .nilIface:=h.hit.cell (k:=4) rfl;rw [decide_eq_false (by omega)];clear h;go_enter Tryz.func217,Tryz.ntmps217
  go_wp2
  go_ret
  exact ⟨rfl,rfl⟩
 ·have hz4:w.cell? ⟨P.it,4,none⟩=some dv:=h3.hit.cell (k:=4) rfl;have hsl:=seg_len h4 h1 h2;have hvs:(vup P (i+1)).length=(vup P i).length+(P.R.dh i - P.R.dl i):=by rw [vup,List.length_append,hsl.1]
  have hm:(vup P (i+1)).length≤(vis P).length:=vup_mono P h2;rw [decide_eq_true (by omega)];obtain ⟨g,Y,c,d,st,b,rfl,_,hb,_⟩:=h4;have hc:=hb.valid rfl h6;clear h3 hb hsl hvs hm;go_enter Tryz.func217,Tryz.ntmps217
  go_wp2_with fail
  refine hc.mono ?_;rintro e w' ⟨rfl,rfl⟩;dsimp only;go_wp2
  go_ret
  exact ⟨rfl,rfl⟩
theorem II.key {P:IP} {w:World} {cur:Nat} (h:II P w cur) (hc:1≤cur) (hc2:cur≤(vis P).length):∃ e a n c,(vis P)[cur - 1]?=some e∧Sl w a n c e.1∧Calls Tryz.prog 211 #[.pointer (some ⟨P.it,0,none⟩)] w fun r w'=>r=.returned (.slice a n c)∧w'=w:=by
 obtain ⟨X,⟨rfl,h⟩ | ⟨rfl,h⟩ | ⟨i,j,dv,h1,h2,h3,h4,h5,h6,rfl⟩⟩:=h
 ·omega
 ·omega
 ·have hz4:w.cell? ⟨P.it,4,none⟩=some dv:=h3.hit.cell (k:=4) rfl;obtain ⟨g,Y,c,d,st,b,rfl,hbb,hb,hde,_,_,_,h8,_⟩:=h4;have hm:=hb.lohi.2;rw [hde] at hm;obtain ⟨e,v,n,c',he,hsl,hpl,hc⟩:=hb.key rfl h6;rw [hde] at he;refine ⟨e,v,n,c',?_,hsl,?_⟩
  ·rw [Nat.add_sub_cancel,seg_get hbb h1 h2 h5 h6 hm];exact he
  ·clear h3 hb hsl hpl;go_enter Tryz.func211,Tryz.ntmps211
   go_wp2_with fail
   refine hc.mono ?_;rintro e w' ⟨rfl,rfl⟩;dsimp only;go_wp2
   go_ret
   exact ⟨rfl,rfl⟩
theorem II.value {P:IP} {w:World} {cur:Nat} (h:II P w cur) (hc:1≤cur) (hc2:cur≤(vis P).length):∃ e a n c,(vis P)[cur - 1]?=some e∧Sl w a n c e.2∧Calls Tryz.prog 218 #[.pointer (some ⟨P.it,0,none⟩)] w fun r w'=>r=.returned (.slice a n c)∧w'=w:=by
 obtain ⟨X,⟨rfl,h⟩ | ⟨rfl,h⟩ | ⟨i,j,dv,h1,h2,h3,h4,h5,h6,rfl⟩⟩:=h
 ·omega
 ·omega
 ·have hz4:w.cell? ⟨P.it,4,none⟩=some dv:=h3.hit.cell (k:=4) rfl;obtain ⟨g,Y,c,d,st,b,rfl,hbb,hb,hde,_,_,_,h8,_⟩:=h4;have hm:=hb.lohi.2;rw [hde] at hm;obtain ⟨e,o,c',he,hsl,hc⟩:=hb.value rfl h6;rw [hde] at he;refine ⟨e,_,_,c',?_,hsl,?_⟩
  ·rw [Nat.add_sub_cancel,seg_get hbb h1 h2 h5 h6 hm];exact he
  ·clear h3 hb hsl;go_enter Tryz.func218,Tryz.ntmps218
   go_wp2_with fail
   refine hc.mono ?_;rintro e w' ⟨rfl,rfl⟩;dsimp only;go_wp2
   go_ret
   exact ⟨rfl,rfl⟩
theorem II.error {P:IP} {w:World} {cur:Nat} (h:II P w cur):Calls Tryz.prog 209 #[.pointer (some ⟨P.it,0,none⟩)] w fun e w'=>e=.returned .nilIface∧w'=w:=by
 obtain ⟨X,ci,dv,hx,hd⟩:=h.out;have h5:w.cell? ⟨P.it,5,none⟩=some .nilIface:=hx.hit.cell (k:=5) rfl;have h2:w.cell? ⟨P.it,2,none⟩=some (.iface 173 (.pointer (some ⟨P.ii,0,none⟩))):=hx.hit.cell (k:=2) rfl;have hm:=metError w P.ii (.pointer (some ⟨P.gx,0,none⟩)) (hx.hii.cell (k:=0) rfl);have hc:=hx.bc.error;clear h hx hd;go_enter Tryz.func209,Tryz.ntmps209
 go_wp2_with fail
 refine hc.mono ?_;rintro e w' ⟨rfl,rfl⟩;dsimp only;go_wp2
 go_ret
 exact ⟨rfl,rfl⟩
theorem II.release {P:IP} {w:World} {cur:Nat} (h:II P w cur):Calls Tryz.prog 215 #[.pointer (some ⟨P.it,0,none⟩)] w fun e w'=>e=.returned (.tuple #[])∧Below P.base w w'∧∀ k,P.A k→w'.heap[k]?=w.heap[k]?:=by
 obtain ⟨X,ci,dv,hx,hd⟩:=h.out;have hcl:=clear_any hx hd;have HAM:=hid hx.am;have hbr:∀ w1,w1.cell? ⟨P.it,0,none⟩=some .nilIface→w1.cell? ⟨P.it,1,none⟩=some (.bool false)→w1.frozen? ⟨P.it,1,none⟩=false→Calls Tryz.prog 201 #[.pointer (some ⟨P.it,0,none⟩)] w1 fun e w'=>e=.returned (.tuple #[])∧w'=w1.setCell ⟨P.it,1,none⟩ (.bool true):=fun w1 a b f=>by
  clear h hx hd hcl;go_enter Tryz.func201,Tryz.ntmps201
  go_wp2
  go_end0
  exact ⟨rfl,rfl⟩
 clear h hx hd;go_enter Tryz.func215,Tryz.ntmps215
 go_wp2_with fail
 refine hcl.mono ?_;rintro e w1 ⟨rfl,h1,hb1⟩;have h12:w1.cell? ⟨P.it,2,none⟩=some (.iface 173 (.pointer (some ⟨P.ii,0,none⟩))):=h1.hit.cell (k:=2) rfl;have hm:=metRelease w1 P.ii (.pointer (some ⟨P.gx,0,none⟩)) (h1.hii.cell (k:=0) rfl);have hr:=h1.bc.release' (.inr (.inl h1.x2));have H1:=hid h1;have HB1:=hid hb1;clear hcl h1 hb1;dsimp only;go_wp2_with fail
 refine hr.mono ?_;rintro e w2 ⟨rfl,hf2,_⟩;have hlow:=H1.out.low;have hgX:X P.gx:=by
  obtain ⟨s,O,key,nodes,pk,q1,q2,q3,q4,q5,q6⟩:=H1.out.bc;exact q4 _ (.inl rfl)
 have hgb:=(H1.out.xb _ hgX).1;have hx2:P.c.x2≠.iface 141 (.pointer (some ⟨P.c.p,0,none⟩)):=by rw [H1.out.x2];intro h;cases h
 have hne:¬ (P.it=P.gx∨(P.it=P.c.p∧P.c.x2=.iface 141 (.pointer (some ⟨P.c.p,0,none⟩)))):=by
  rintro (e | e)
  ·exact H1.out.xit (by rw [e];exact hgX)
  ·exact hx2 e.2
 have hb2:Below P.base w w2:=HB1.out.trans (hf2.below hlow (fun k hk e=>by
  rcases e with e | e
  ·omega
  ·exact hx2 e.2))
 have hit2:=H1.out.hit.fr hf2 hne;have q0:w2.cell? ⟨P.it,0,none⟩=some .nilIface:=hit2.cell (k:=0) rfl;have q1:w2.cell? ⟨P.it,1,none⟩=some (.bool false):=hit2.cell (k:=1) rfl;have hb3:=hbr w2 q0 q1 (hit2.free 1);have HF:Hid (Below P.base w (w2.setCell ⟨P.it,1,none⟩ (.bool true))∧∀ k,P.A k→(w2.setCell ⟨P.it,1,none⟩ (.bool true)).heap[k]?=w.heap[k]?):=hid ⟨hb2.setCell (p:=⟨P.it,1,none⟩) H1.out.bit _,fun k hk=>by
  rw [Below.heap_setCell w2 ⟨P.it,1,none⟩ _ k (fun e=>by subst e;exact H1.out.ia hk),hf2.block k (H1.out.ab k hk).2 (by
   rintro (e | e)
   ·exact H1.out.xa _ hgX (e ▸ hk)
   ·exact hx2 e.2),H1.out.am k hk,HAM.out k hk]⟩
 clear hr hf2 hne hb2 hit2 q0 q1 hbr hx2;dsimp only;go_wp2_with fail
 refine hb3.mono ?_;rintro e w3 ⟨rfl,hw3⟩;rw [hw3];dsimp only;go_wp2
 go_end0
 exact ⟨rfl,HF.out⟩
end
section
open Go Go.RowKit Go.Shelf
theorem own_take' {w:World} {e n:Nat} {a:Option Addr} {c:Nat} {xs:List Value} (h:w.ownsRow 0 e 1 (.slice a n c) n xs) (m:Nat) (hm:m≤n):w.ownsRow 0 e 1 (.slice a m c) m (xs.take m)∧(Value.slice a m c).ownBlock=(Value.slice a n c).ownBlock:=by
 obtain ⟨a',c',e',_,h1,h2⟩:=own_take h m hm;cases e'
 exact ⟨h1,h2⟩
theorem iv_take (l:List Nat) (n:Nat):(iv l).take n=iv (l.take n):=by simp [iv]
theorem lies_at {w:World} {v v':Value} {B:Nat} (h:Lies w v v') (hB:B≤w.heap.size):∀ k,v'.ownBlock=some k→v.ownBlock=some k∨B≤k:=fun k hk=>by
 rcases h with e | e
 ·exact .inl (by rw [← e,hk])
 ·rw [hk] at e;exact .inr (by have:=Option.some.inj e;omega)
section
variable {w:World} {g:Nat} {c:IC} {s:IS} {O:Own} {key:Bs} {nodes:List Nat} {pk:Bs}
theorem BI.frF (h:BI w g c s O key nodes pk) {w8:World} (hf:Fr (fun k=>O.f=some k) w w8):Blk w8 g (bic c s) 226:=h.blk.fr hf (fun e=>h.dis.fb g e rfl)
theorem BI.frR (h:BI w g c s O key nodes pk) {w8:World} (hf:Fr (fun k=>O.r=some k) w w8):Blk w8 g (bic c s) 226:=h.blk.fr hf (fun e=>h.dis.rb g e rfl)
theorem BI.frP (h:BI w g c s O key nodes pk) {w8:World} (hf:Fr (fun k=>O.p=some k) w w8):Blk w8 g (bic c s) 226:=h.blk.fr hf (fun e=>h.dis.pb g e rfl)
theorem BI.keyApp (h:BI w g c s O key nodes pk) {sh:Nat} {ka:Option Addr} {kc:Nat} {kd:Bs} (hob:(Value.slice ka sh kc).ownBlock=O.f) (hsh:sh≤key.length) (n:Nat) {v8:Value} {w8:World}
  (hown:w8.ownsRow 0 5 1 v8 (sh+kd.length) (bv (key.take sh)++bv kd)) (hgrow:(w.drewN n).grownBy w8 (Value.slice ka sh kc).ownBlock) (hlies:Lies (w.drewN n) (Value.slice ka sh kc) v8) :
  Blk w8 g (bic c s) 226∧BITo g c O w (w8.setCell ⟨g,4,none⟩ v8) (fun s' k' n' p'=>s'={ s with kv:=v8 }∧k'=key.take sh++kd∧n'=nodes∧p'=pk):=by
 have hg:w.grownBy w8 (Value.slice ka sh kc).ownBlock:=⟨hgrow.os,hgrow.tape,hgrow.output,hgrow.size,hgrow.block⟩;have hf:=fr_grown hg;rw [hob] at hf;have hl:(key.take sh++kd).length=sh+kd.length:=by simp;omega
 have ho:w8.ownsRow 0 5 1 v8 (key.take sh++kd).length (bv (key.take sh++kd)):=by rw [hl,bv_append];exact hown
 obtain ⟨h1,h2⟩:=h.keyTo hf ho (fun k hk=>(lies_at hlies (Nat.le_refl _) k hk).imp (fun e=>by rw [← hob,e]) id);have hF:Fr (fun k=>k=g∨O.has k) w w8:=hf.mono (fun k _ e=>.inr (.inl e));exact ⟨h.frF hf,_,_,_,_,_,h1,⟨rfl,rfl,rfl,rfl⟩,hF.setC g 4 _ (.inl rfl),h2⟩
theorem BI.nodesApp (h:BI w g c s O key nodes pk) (xs:List Nat) (o:Obj) (n:Nat) {v8:Value} {w8:World}
  (hown:w8.ownsRow 0 3 1 v8 (nodes.length+xs.length) (iv nodes++iv xs)) (hgrow:((w.alloc o).drewN n).grownBy w8 s.nv.ownBlock) (hlies:Lies ((w.alloc o).drewN n) s.nv v8) :
  Blk w8 g (bic c s) 226∧BITo g c O w (w8.setCell ⟨g,8,none⟩ v8) (fun s' k' n' p'=>s'={ s with nv:=v8 }∧k'=key∧n'=nodes++xs∧p'=pk):=by
 have hf:Fr (fun k=>O.r=some k) w w8:=(((Fr.refl (fun k=>O.r=some k) w).alloc o).drewN n).grown hgrow (fun k hk _=>by rw [← h.nodesO,hk]);have ho:w8.ownsRow 0 3 1 v8 (nodes++xs).length (iv (nodes++xs)):=by rw [List.length_append,iv_append];exact hown
 have hs:w.heap.size≤((w.alloc o).drewN n).heap.size:=by show w.heap.size≤(w.alloc o).heap.size;rw [World.size_alloc];omega
 obtain ⟨h1,h2⟩:=h.nodesTo hf ho (fun k hk=>(lies_at hlies hs k hk).imp (fun e=>by rw [← h.nodesO,e]) id);have hF:Fr (fun k=>k=g∨O.has k) w w8:=hf.mono (fun k _ e=>.inr (.inr (.inr e)));exact ⟨h.frR hf,_,_,_,_,_,h1,⟨rfl,rfl,rfl,rfl⟩,hF.setC g 8 _ (.inl rfl),h2⟩
theorem BI.pkApp (h:BI w g c s O key nodes pk) (kd:Bs) (n:Nat) {v8:Value} {w8:World}
  (hown:w8.ownsRow 0 5 1 v8 (pk.length+kd.length) (bv pk++bv kd)) (hgrow:(w.drewN n).grownBy w8 s.pv.ownBlock) (hlies:Lies (w.drewN n) s.pv v8) :
  Blk w8 g (bic c s) 226∧BITo g c O w (w8.setCell ⟨g,9,none⟩ v8) (fun s' k' n' p'=>s'={ s with pv:=v8 }∧k'=key∧n'=nodes∧p'=pk++kd):=by
 have hf:Fr (fun k=>O.p=some k) w w8:=((Fr.refl (fun k=>O.p=some k) w).drewN n).grown hgrow (fun k hk _=>by rw [← h.pkO,hk]);have ho:w8.ownsRow 0 5 1 v8 (pk++kd).length (bv (pk++kd)):=by rw [List.length_append,bv_append];exact hown
 obtain ⟨h1,h2⟩:=h.pkTo hf ho (fun k hk=>(lies_at hlies (Nat.le_refl _) k hk).imp (fun e=>by rw [← h.pkO,e]) id);have hF:Fr (fun k=>k=g∨O.has k) w w8:=hf.mono (fun k _ e=>.inr (.inr (.inl e)));exact ⟨h.frP hf,_,_,_,_,_,h1,⟨rfl,rfl,rfl,rfl⟩,hF.setC g 9 _ (.inl rfl),h2⟩
theorem BI.cached (h:BI w g c s O key nodes pk) {na:Option Addr} {nc N:Nat} (hnv:s.nv=.slice na nodes.length nc) (hN:N≤nodes.length) {ka:Option Addr} {kc:Nat} (hkob:(Value.slice ka 0 kc).ownBlock=O.f) {kb:Bs}
  {pa:Option Addr} {pc ko:Nat} (hpv:s.pv=.slice pa pk.length pc) (hko:ko≤pk.length) (vv:Value) (off n:Nat) (v8:Value) (w8:World) (hown:w8.ownsRow 0 5 1 v8 (0+kb.length) ([]++bv kb))
  (hgrow:((w.setCell ⟨g,8,none⟩ (.slice na N nc)).drewN n).grownBy w8 (Value.slice ka 0 kc).ownBlock) (hlies:Lies ((w.setCell ⟨g,8,none⟩ (.slice na N nc)).drewN n) (Value.slice ka 0 kc) v8) :
  Blk w8 g (bic c { s with nv:=.slice na N nc }) 226∧BITo g c O w ((((w8.setCell ⟨g,4,none⟩ v8).setCell ⟨g,9,none⟩ (.slice pa ko pc)).setCell ⟨g,5,none⟩ vv).setCell ⟨g,6,none⟩ (.int .i64 (off:Int)))
   (fun s' k' n' p'=>s'.dir=s.dir∧s'.rix=s.rix∧s'.vv=vv∧s'.off=off∧k'=kb∧n'=List.take N nodes∧p'=List.take ko pk):=by
 have hno:=h.nodes;have hnO:=h.nodesO;rw [hnv] at hno hnO;obtain ⟨h1,h2⟩:=own_take' hno N hN;obtain ⟨hb1,ho1⟩:=h.nodesTo (w1:=w) (v:=.slice na N nc) (nodes':=List.take N nodes) (Fr.refl _ _) (by rw [List.length_take,Nat.min_eq_left hN,← iv_take];exact h1) (fun k hk=>.inl (by rw [← hnO,← h2,hk]));obtain ⟨hB,hT⟩:=hb1.keyApp (sh:=0) (kd:=kb) hkob (Nat.zero_le _) n hown hgrow hlies;refine ⟨hB,?_⟩;obtain ⟨s2,O2,k2,n2,p2,hb2,⟨e1,e2,e3,e4⟩,hf2,ho2⟩:=hT
 subst s2 k2 n2 p2;have hpo:=hb2.pk;have hpO:=hb2.pkO;rw [show ({ s with nv:=Value.slice na N nc,kv:=v8 }:IS).pv=s.pv from rfl,hpv] at hpo hpO;obtain ⟨q1,q2⟩:=own_take' hpo ko hko;obtain ⟨hb3,ho3⟩:=hb2.pkTo (w1:=w8.setCell ⟨g,4,none⟩ v8) (v:=.slice pa ko pc) (pk':=List.take ko pk) (Fr.refl _ _) (by rw [List.length_take,Nat.min_eq_left hko,← bv_take];exact q1) (fun k hk=>.inl (by rw [← hpO,← q2,hk]))
 have hb4:=hb3.setNum { s with nv:=.slice na N nc,kv:=v8,pv:=.slice pa ko pc,vv:=vv } 5 vv rfl rfl rfl rfl;have hb5:=hb4.setNum { s with nv:=.slice na N nc,kv:=v8,pv:=.slice pa ko pc,vv:=vv,off:=off } 6 (.int .i64 (off:Int)) rfl rfl rfl rfl;have hsz:(w.setCell ⟨g,8,none⟩ (.slice na N nc)).heap.size=w.heap.size:=by simp [World.setCell]
 rw [hsz] at ho2;refine ⟨_,_,_,_,_,hb5,⟨rfl,rfl,rfl,rfl,by simp,rfl,rfl⟩,?_,fun k hk=>?_⟩
 ·refine Fr.setC (Fr.setC (Fr.setC (Fr.trans (Fr.setC (Fr.refl (fun k=>k=g∨O.has k) w) g 8 _ (.inl rfl)) hf2 (fun k hk e=>?_)) g 9 _ (.inl rfl)) g 5 _ (.inl rfl)) g 6 _ (.inl rfl);rcases e with e | e
  ·exact .inl e
  ·exact (ho1 k e).elim .inr (fun h=>by omega)
 ·rcases ho3 k hk with e | e
  ·rcases ho2 k e with e | e
   ·exact (ho1 k e).elim .inl .inr
   ·exact .inr e
  ·exact .inr (by have:=hf2.size;rw [hsz] at this;omega)
end
end
end Go.Proofs.YtmkdpjicgjhhjaaGreatDoor
