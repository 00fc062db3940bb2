/- Part 37 of the proof of FnTableComesBack: contracts and lemmas, each under the conditions that it states. Texts: ITf. -/
import Derived.Test.YtmkdpjicgjhhjaaGreatDoorC36
namespace Go.Proofs.YtmkdpjicgjhhjaaGreatDoor
open Go.Lib (hid)
set_option maxRecDepth 100000
set_option linter.all false
section
open Go Go.RowKit Go.Shelf
structure IP.like (P P0:IP):Prop where
 it:P.it=P0.it
 base:P.base=P0.base
 R:P.R=P0.R
 T:P.T=P0.T
 core:P.core=P0.core
theorem IP.like.refl (P:IP):P.like P:=⟨rfl,rfl,rfl,rfl,rfl⟩
theorem IP.like.grown {P P0:IP} (h:P.like P0) (w w':World):(P.grown w w').like P0:=⟨h.it,h.base,h.R,h.T,h.core⟩
theorem vup_like {P P0:IP} (h:P.like P0):∀ k,vup P k=vup P0 k
 | 0=>rfl
 | k+1=>by
  rw [vup,vup,vup_like h k];unfold seg;rw [h.R,h.T]
theorem vis_like {P P0:IP} (h:P.like P0):vis P=vis P0:=by unfold vis;rw [h.R];exact vup_like h _
theorem gets_like {P P0:IP} (h:P.like P0) (hg:P0.gets):P.gets:=by
 have e:∀ P Q:IP,P.core=Q.core→P.gets=Q.gets:=fun P Q h=>by
  have h1:P.core.gets=Q.core.gets:=by rw [h]
  exact h1
 rw [e P P0 h.core];exact hg
def zA:Array Value:=#[.slice none 0 0,.slice none 0 0,.int .i64 0,.bool false]
def ItSt (P0:IP) (ab rb cur:Nat) (l:List KV) (w:World):Prop :=
 ∃ P pv rs,P.like P0∧II P w cur∧P.A ab∧P.A rb∧Blk w ab #[pv,.slice none 0 0,.int .i64 0,.bool false] 71∧Blk w rb zA 71∧PairsAt (fun k=>P.A k∧k≠ab∧k≠rb) w pv l rs
theorem ItSt.move {P0:IP} {ab rb cur cur':Nat} {l:List KV} {w w':World} {P:IP} {pv:Value} {rs:List (Value × Value)} (h1:P.like P0) (h2:II P w cur) (h3:P.A ab) (h3':P.A rb) (h4:Blk w ab #[pv,.slice none 0 0,.int .i64 0,.bool false] 71) (h4':Blk w rb zA 71) (h5:PairsAt (fun k=>P.A k∧k≠ab∧k≠rb) w pv l rs) (h6:II P w' cur'):ItSt P0 ab rb cur' l w':=by
 have hk:∀ k,P.A k→w'.heap[k]?=w.heap[k]?:=fun k hk=>(h6.am k hk).trans (h2.am k hk).symm
 exact ⟨P,pv,rs,h1,h6,h3,h3',(hk ab h3).trans h4,(hk rb h3').trans h4',h5.keep (fun k h=>hk k h.1) (fun _ h=>h)⟩
def pnOf (w:World) (ab:Nat):Nat:=match w.cell? ⟨ab,0,none⟩ with
 | some (.slice _ n _)=>n
 | _=>0
theorem pnOf_of {w:World} {ab:Nat} {l:List KV} {pv x y z:Value} {rs:List (Value × Value)} {S:Nat→Prop} (hB:Blk w ab #[pv,x,y,z] 71) (hp:PairsAt S w pv l rs):pnOf w ab=l.length:=by
 obtain ⟨a,c,rfl,_⟩:=own_form hp.own;have h1:w.cell? ⟨ab,0,none⟩=some (.slice a l.length c):=hB.cell (k:=0) rfl;unfold pnOf;rw [h1]
theorem ItSt.pn {P0:IP} {ab rb cur:Nat} {l:List KV} {w:World} (h:ItSt P0 ab rb cur l w):pnOf w ab=l.length:=by
 obtain ⟨P,pv,rs,h1,h2,h3,h3',h4,h4',h5⟩:=h;exact pnOf_of h4 h5
theorem it_step {P':IP} {wr w2:World} {ab rb cur:Nat} {pv:Value} {l:List KV} {rs:List (Value × Value)} {ev:KV} {ka va:Option Addr} {kc vc:Nat} (h2:II P' wr cur) (hA:P'.A ab) (hA':P'.A rb) (hne:ab≠rb) (hB:Blk wr ab #[pv,.slice none 0 0,.int .i64 0,.bool false] 71) (hB':Blk wr rb zA 71) (hp:PairsAt (fun k=>P'.A k∧k≠ab∧k≠rb) wr pv l rs) (hb2:Below wr.heap.size wr w2) (hpr:Pr wr.heap.size w2 ka kc va vc ev) :
  (w2.alloc (.cells #[.slice ka ev.1.length kc,.slice va ev.2.length vc] 40)).ownsRow 0 40 2 pv l.length (rs.flatMap fun r=>[r.1,r.2])∧w2.cell? ⟨ab,0,none⟩=some pv∧(w2.alloc (.cells #[.slice ka ev.1.length kc,.slice va ev.2.length vc] 40)).cell? ⟨ab,0,none⟩=some pv ∧
  ∀ v8 w8,w8.ownsRow 0 40 2 v8 (l.length+1) ((rs.flatMap fun r=>[r.1,r.2])++[.slice ka ev.1.length kc,.slice va ev.2.length vc])→(w2.alloc (.cells #[.slice ka ev.1.length kc,.slice va ev.2.length vc] 40)).grownBy w8 pv.ownBlock→Lies (w2.alloc (.cells #[.slice ka ev.1.length kc,.slice va ev.2.length vc] 40)) pv v8 →
   w8.cell? ⟨ab,0,none⟩=some pv∧w8.frozen? ⟨ab,0,none⟩=false∧II (P'.grown wr (w8.setCell ⟨ab,0,none⟩ v8)) (w8.setCell ⟨ab,0,none⟩ v8) cur∧(P'.grown wr (w8.setCell ⟨ab,0,none⟩ v8)).A ab∧(P'.grown wr (w8.setCell ⟨ab,0,none⟩ v8)).A rb ∧
   Blk (w8.setCell ⟨ab,0,none⟩ v8) ab #[v8,.slice none 0 0,.int .i64 0,.bool false] 71∧Blk (w8.setCell ⟨ab,0,none⟩ v8) rb zA 71 ∧
   PairsAt (fun k=>(P'.grown wr (w8.setCell ⟨ab,0,none⟩ v8)).A k∧k≠ab∧k≠rb) (w8.setCell ⟨ab,0,none⟩ v8) v8 (l++[ev]) (rs++[(.slice ka ev.1.length kc,.slice va ev.2.length vc)])∧Below P'.base wr (w8.setCell ⟨ab,0,none⟩ v8):=by
 obtain ⟨w3,hw3⟩:∃ w3,w3=w2.alloc (.cells #[.slice ka ev.1.length kc,.slice va ev.2.length vc] 40):=⟨_,rfl⟩;rw [← hw3];have hs3:w3.heap.size=w2.heap.size+1:=by rw [hw3];simp
 have hb23:Below w2.heap.size w2 w3:=by rw [hw3];exact (Below.refl _ _).alloc (Nat.le_refl _) _
 have hs2:=hb2.size;have hb3:Below wr.heap.size wr w3:=hb2.trans (hb23.mono hs2);have hab:=h2.ab.2 ab hA;have hrb:=h2.ab.2 rb hA';have hB3:Blk w3 ab _ 71:=(hb3.block ab hab.2).trans hB;have hvne:∀ g,pv.ownBlock=some g→g≠ab∧g≠rb∧P'.A g:=fun g hg=>⟨(hp.vb g hg).2.1,(hp.vb g hg).2.2,(hp.vb g hg).1⟩
 have hown3:w3.ownsRow 0 40 2 pv l.length (rs.flatMap fun r=>[r.1,r.2]):=own_same hp.own (fun g hg=>hb3.block g (h2.ab.2 g (hvne g hg).2.2).2);refine ⟨hown3,(hb2.cell (p:=⟨ab,0,none⟩) hab.2).trans (hB.cell (k:=0) rfl),hB3.cell (k:=0) rfl,fun v8 w8 hown8 hgrow hlies=>?_⟩;have hB8:Blk w8 ab #[pv,.slice none 0 0,.int .i64 0,.bool false] 71:=(hgrow.block ab (by have:=hb3.size;omega) (fun e=>(hvne ab e.symm).1 rfl)).trans hB3
 have hfr8:Fr P'.A wr w8:=(Fr.of_below (S:=P'.A) hb3).grown hgrow (fun k hk _=>(hvne k hk).2.2);have hfr9:Fr P'.A wr (w8.setCell ⟨ab,0,none⟩ v8):=hfr8.setC ab 0 v8 hA;have hs8:=hgrow.size;have hv8:∀ g,v8.ownBlock=some g→grow P'.A wr w8 g∧g≠ab∧g≠rb:=fun g hg=>by
  have hlt:=own_lt hown8 hg;rcases hlies with h | h
  ·have h':=hvne g (h.symm.trans hg);exact ⟨.inl h'.2.2,h'.1,h'.2.1⟩
  ·rw [hg] at h;have h':g=w3.heap.size:=by simpa using h
   exact ⟨.inr ⟨by omega,hlt⟩,by omega,by omega⟩
 have hp3:PairsAt (fun k=>grow P'.A wr w3 k∧k≠ab∧k≠rb) w3 pv l rs:=hp.keep (fun k hk=>hb3.block k (h2.ab.2 k hk.1).2) (fun k hk=>⟨.inl hk.1,hk.2⟩);have hk3:w3.ownsRow 0 5 1 (.slice ka ev.1.length kc) ev.1.length (bv ev.1):=own_same hpr.k (fun g hg=>hb23.block g (hpr.kb g hg).2);have hv3:w3.ownsRow 0 5 1 (.slice va ev.2.length vc) ev.2.length (bv ev.2):=own_same hpr.v (fun g hg=>hb23.block g (hpr.vb g hg).2)
 have hpv:PrV (fun k=>grow P'.A wr w3 k∧k≠ab∧k≠rb) w3 (.slice ka ev.1.length kc,.slice va ev.2.length vc) ev:=⟨ka,kc,va,vc,rfl,rfl,hk3,hv3,fun g hg=>by
  have:wr.heap.size≤g∧g < w2.heap.size:=hg.elim (hpr.kb g) (hpr.vb g);exact ⟨.inr ⟨this.1,by omega⟩,by omega,by omega⟩⟩
 have hp8:PairsAt (fun k=>grow P'.A wr w8 k∧k≠ab∧k≠rb) w8 v8 (l++[ev]) (rs++[(.slice ka ev.1.length kc,.slice va ev.2.length vc)]) :=
  hp3.app hpv (fun k hk=>⟨hk.1.imp id (fun e=>⟨e.1,by omega⟩),hk.2⟩) (fun k hk=>hk.1.elim (fun e=>by have:=(h2.ab.2 k e).2;have:=hb3.size;omega) (fun e=>e.2)) hgrow hown8 hv8
 have hB9:=hB8.set 0 v8;refine ⟨hB8.cell (k:=0) rfl,hB8.free 0,h2.turn hfr9,.inl hA,.inl hA',by simpa using hB9,?_,hp8.keep (fun k hk=>Below.heap_setCell _ _ _ k hk.2.1) (fun k hk=>⟨hk.1.imp id (fun e=>⟨e.1,by simpa [World.setCell] using e.2⟩),hk.2⟩),hfr9.below h2.ab.1 (fun k hk e=>by have:=(h2.ab.2 k e).1;omega)⟩;exact ((Below.heap_setCell _ _ _ rb (by exact fun e=>hne e.symm)).trans (hgrow.block rb (by have:=hb3.size;omega) (fun e=>(hvne rb e.symm).2.1 rfl))).trans ((hb3.block rb hrb.2).trans hB')
set_option maxHeartbeats 4000000 in
theorem iterFwd_any {P:IP} (hg:P.gets) {w:World} {cur:Nat} (h:II P w cur) (K:Int) (hK:K=7∨K=9) (kv vv:Value) (n:Int) (hle:∀ e∈vis P,e.1.length≤4294967295∧e.2.length≤4294967295) (hN:(vis P).length≤2147483647) :
  Calls Tryz.prog 29 #[.iface 249 (.pointer (some ⟨P.it,0,none⟩)),.agg #[.int .i64 K,kv,vv,.int .i64 n]] w fun e w' =>
   ∃ pv rs S,e=.returned (.agg #[pv,.slice none 0 0,.int .i64 0,.bool true])∧PairsAt S w' pv (vis P) rs∧(∀ k,S k→P.base≤k∧k < w'.heap.size)∧Below P.base w w':=by
 go_enter Tryz.func29,Tryz.ntmps29
 rcases hK with rfl | rfl
 ·go_upto_region 5 with fail
  obtain ⟨w1,hw1⟩:∃ w1,w1=((w.alloc (Obj.cells #[Value.int IntKind.i64 7,kv,vv,Value.int IntKind.i64 n] 43)).alloc (Obj.cells #[Value.slice none 0 0,Value.slice none 0 0,Value.int IntKind.i64 0,Value.bool false] 71)).alloc (Obj.cells #[Value.slice none 0 0,Value.slice none 0 0,Value.int IntKind.i64 0,Value.bool false] 71):=⟨_,rfl⟩;rw [← hw1];have hs1:w1.heap.size=w.heap.size+3:=by rw [hw1];simp
  have hb1:Below w.heap.size w w1:=by rw [hw1];exact (((Below.refl _ _).alloc (Nat.le_refl _) _).alloc (by simp) _).alloc (by simp;omega) _
  have hab:Blk w1 (w.heap.size+1+1) zA 71:=by
   rw [hw1];have:=Blk.new ((w.alloc (Obj.cells #[Value.int IntKind.i64 7,kv,vv,Value.int IntKind.i64 n] 43)).alloc (Obj.cells #[Value.slice none 0 0,Value.slice none 0 0,Value.int IntKind.i64 0,Value.bool false] 71)) #[Value.slice none 0 0,Value.slice none 0 0,Value.int IntKind.i64 0,Value.bool false] 71;simpa [zA] using this
  have hrb:Blk w1 (w.heap.size+1) zA 71:=by
   rw [hw1];have:=(Blk.new (w.alloc (Obj.cells #[Value.int IntKind.i64 7,kv,vv,Value.int IntKind.i64 n] 43)) #[Value.slice none 0 0,Value.slice none 0 0,Value.int IntKind.i64 0,Value.bool false] 71).alloc (Obj.cells #[Value.slice none 0 0,Value.slice none 0 0,Value.int IntKind.i64 0,Value.bool false] 71);simpa [zA] using this
  have h1:II (P.grown w w1) w1 cur:=h.turn (Fr.of_below hb1);have hlow:=h.ab.1;clear hw1;have hfi:=II.first (gets_like ((IP.like.refl P).grown w w1) hg) h1;rw [vis_grown] at hfi;generalize hb5:w.heap.size+1+1=ab at *;generalize hb4:w.heap.size+1=rb at *;have H0:Hid (∀ w' cur',II (P.grown w w1) w' cur'→ItSt P ab rb cur' [] w'):=hid (fun w' cur' h6=>ItSt.move (P:=P.grown w w1) (pv:=.slice none 0 0) (rs:=[]) ((IP.like.refl P).grown w w1) h1 (.inr ⟨by omega,by omega⟩) (.inr ⟨by omega,by omega⟩) hab hrb (PairsAt.nil _ _) h6)
  have HB1:=hid (show Below P.base w w1 from hb1.mono hlow);have HG:=hid hg;have HLE:=hid hle;have HN:=hid hN;have HR:=hid (show ab≠rb∧P.base≤ab∧P.base≤rb from ⟨by omega,by omega,by omega⟩);have HBL:=hid hlow;clear h1 hab hrb hs1 hb1 hlow h hg hle hN hb5 hb4;go_wp2_with fail
  refine hfi.mono ?_;rintro e w2 ⟨rfl,h2,hb2⟩;have HST:=hid (show ItSt P ab rb 1 [] w2∧Below P.base w w2 from ⟨H0.out _ _ h2,HB1.out.trans hb2⟩);clear hfi h2 hb2 H0 HB1;try dsimp only
  generalize hNN:(vis P).length=N at *;go_wp2_with fail
  go_loopw [6] (fun v6 wr=>∃ k,v6=.bool (decide (k+1≤N))∧k≤N∧ItSt P ab rb (k+1) ((vis P).take k) wr∧Below P.base w wr) (fun _ wr=>N+1 - pnOf wr ab)
  case atStart=>exact ⟨0,by rw [Nat.zero_add],Nat.zero_le _,by simpa using HST.out.1,HST.out.2⟩
  case round =>
   obtain ⟨k,rfl,hkN,hst,hbw⟩:=hrel;clear HST;obtain ⟨P',pv,rs,hl,h2,hA,hA',hB,hB',hp⟩:=hst;by_cases hlt:k+1≤N
   ·have hpa:∀ kk,Calls Tryz.prog 69 #[.iface 249 (.pointer (some ⟨P.it,0,none⟩))] (wr.drewN kk) fun e w'=>∃ ev ka kc va vc,(vis P)[k]?=some ev∧e=.returned (.agg #[.slice ka ev.1.length kc,.slice va ev.2.length vc])∧Pr wr.heap.size w' ka kc va vc ev∧Below wr.heap.size wr w':=fun kk=>by
     have h2':=h2.turn (w':=wr.drewN kk) (Fr.of_below (Below.drewN' wr.heap.size wr kk));have hpa:=pair_any h2' (by omega) (by rw [vis_grown,vis_like hl,hNN];exact hlt) (by rw [vis_grown,vis_like hl];exact HLE.out);rw [show (P'.grown wr (wr.drewN kk)).it=P.it from hl.it,vis_grown,vis_like hl] at hpa;refine hpa.mono ?_;rintro e w' ⟨ev,ka,kc,va,vc,g1,g2,g3,g4⟩;exact ⟨ev,ka,kc,va,vc,g1,g2,g3,(Below.drewN' wr.heap.size wr kk).trans g4⟩
    have hz:=hB.cell (k:=0) rfl;have HS:=hid (show P'.like P∧II P' wr (k+1)∧P'.A ab∧P'.A rb∧Blk wr ab #[pv,.slice none 0 0,.int .i64 0,.bool false] 71∧Blk wr rb zA 71∧PairsAt (fun k=>P'.A k∧k≠ab∧k≠rb) wr pv ((vis P).take k) rs∧Below P.base w wr from ⟨hl,h2,hA,hA',hB,hB',hp,hbw⟩);clear hl h2 hA hA' hB hB' hp hbw;rw [decide_eq_true hlt];go_upto_region 8 with fail
    refine Pos.start (fun W:World=>W.cell? ⟨ab,0,none⟩=some pv) 6 (by kernel_rfl) ?_;iterate 3
     refine' Pos.takeK (show (fun W:World=>W.cell? ⟨ab,0,none⟩=some pv) (wr.drewN 1) from hz) rfl (by kernel_rfl) (fun _ _ _ h=>h) (by rfl) ?_ ?_;rotate_left
     ·intro W hW;go_simp;try with_reducible rfl
     intro K hK;go_simp;refine hK _ ?_;clear hK K
    refine Pos.eff rfl (by kernel_rfl) ?_;go_wp2_with fail
    refine (hpa _).mono ?_;rintro e w2 ⟨ev,ka,kc,va,vc,hev,rfl,hpr,hb2⟩;obtain ⟨t1,t2,t3,t4,t5,t6,t7,t8⟩:=HS.out;obtain ⟨hown3,hc2,hc3,hstep⟩:=it_step t2 t3 t4 HR.out.1 t5 t6 t7 hb2 hpr;have hln:((vis P).take k).length=k:=by rw [List.length_take,hNN];omega
    rw [hln] at hown3 hstep;have htk:(vis P).take (k+1)=(vis P).take k++[ev]:=by rw [List.take_add_one,hev];rfl
    rw [← htk] at hstep;have HO3:=hid hown3;have HSTEP:=hid hstep;have hN':=HN.out;clear hpa hev hpr hb2 t1 t2 t3 t4 t5 t6 t7 t8 hown3 hstep hln htk;try dsimp only
    go_wp2_with fail
    refine ⟨hc2,?_⟩;refine Pos.eff rfl (by kernel_rfl) ?_;go_wp2_with fail
    refine ⟨hc3,?_⟩;refine Pos.eff rfl (by kernel_rfl) ?_;refine wpList_app rfl _ _ 22 rfl 40 (.agg #[.slice none 0 0,.slice none 0 0]) 2 48 un22 info40 rfl (by omega) pv k (rs.flatMap fun r=>[r.1,r.2]) rfl (by exact HO3.out) (some ⟨w2.heap.size,0,none⟩) 1 1 [.slice ka ev.1.length kc,.slice va ev.2.length vc] rfl rfl (by simp) (by exact news_new [.slice ka ev.1.length kc,.slice va ev.2.length vc] _ (Blk.new w2 _ _)) (by simp [Value.oneCell']) (by unfold maxLen;omega) (by omega) ?_
    intro v8 w8 hown8 hgrow8 hlies8;obtain ⟨hz8,hf8,h9⟩:=HSTEP.out v8 w8 hown8 hgrow8 hlies8;have H9:=hid h9;obtain ⟨a8,c8,rfl,hc8⟩:=own_form hown8;have hnx:=II.next (gets_like (HS.out.1.grown wr (w8.setCell ⟨ab,0,none⟩ (.slice a8 (k+1) c8))) HG.out) h9.1;rw [show (P'.grown wr (w8.setCell ⟨ab,0,none⟩ (.slice a8 (k+1) c8))).it=P.it from HS.out.1.it,vis_grown,vis_like HS.out.1,hNN,show min (k+1+1) (N+1)=k+1+1 by omega,show (P'.grown wr (w8.setCell ⟨ab,0,none⟩ (.slice a8 (k+1) c8))).base=P.base from HS.out.1.base] at hnx
    clear hown8 hgrow8 hlies8 h9;refine ⟨hz8,?_⟩;refine Pos.tail (by kernel_rfl) (by decide) ?_;simp only [List.drop_succ_cons,List.drop_zero];go_wp2_with fail
    refine hnx.mono ?_;rintro e w10 ⟨rfl,h10,hb10⟩;have HX:Hid (ItSt P ab rb (k+1+1) ((vis P).take (k+1)) w10∧Below P.base w w10∧pnOf w10 ab=k+1∧pnOf wr ab=k):=hid (by
     obtain ⟨e1,e2,e3,e4,e5,e6,e7⟩:=H9.out;obtain ⟨t1,t2,t3,t4,t5,t6,t7,t8⟩:=HS.out;have hst:ItSt P ab rb (k+1+1) ((vis P).take (k+1)) w10:=ItSt.move (t1.grown _ _) e1 e2 e3 e4 e5 e6 h10;rw [t1.base] at e7;refine ⟨hst,(t8.trans e7).trans hb10,?_,?_⟩
     ·rw [hst.pn,List.length_take,hNN];omega
     ·rw [pnOf_of t5 t7,List.length_take,hNN];omega)
    clear hnx h10 hb10 H9 HS;try dsimp only
    go_wp2_with fail
    go_roundw
    case rel=>exact ⟨k+1,rfl,hlt,HX.out.1,HX.out.2.1⟩
    case measure =>
     obtain ⟨_,_,h3,h4⟩:=HX.out;rw [h3,h4];omega
   ·rw [decide_eq_false hlt];have hke:(vis P).take k=vis P:=by rw [show k=(vis P).length by omega,List.take_length]
    rw [hke] at hp;clear hke;obtain ⟨pa,pc,rfl,_⟩:=own_form hp.own;have herr:=h2.error;rw [hl.it] at herr;have q3:=hB.cell (k:=3) rfl;have f3:=hB.free 3;have hfr:Fr P'.A wr (wr.setCell ⟨ab,3,none⟩ (.bool true)):=(Fr.refl P'.A wr).setC ab 3 _ hA;have h2':=h2.turn hfr;have hrel:=h2'.release;rw [show (P'.grown wr (wr.setCell ⟨ab,3,none⟩ (.bool true))).it=P.it from hl.it,show (P'.grown wr (wr.setCell ⟨ab,3,none⟩ (.bool true))).base=P.base from hl.base] at hrel
    have hB3:=hB.set 3 (.bool true);have hB3':Blk (wr.setCell ⟨ab,3,none⟩ (.bool true)) rb zA 71:=(Below.heap_setCell _ _ _ rb (fun e=>HR.out.1 (by exact e.symm))).trans hB';have hp3:PairsAt (fun k=>(P'.grown wr (wr.setCell ⟨ab,3,none⟩ (.bool true))).A k∧k≠ab∧k≠rb) (wr.setCell ⟨ab,3,none⟩ (.bool true)) (.slice pa (vis P).length pc) (vis P) rs:=hp.keep (fun k hk=>Below.heap_setCell _ _ _ k hk.2.1) (fun k hk=>⟨.inl hk.1,hk.2⟩)
    have hA3:(P'.grown wr (wr.setCell ⟨ab,3,none⟩ (.bool true))).A ab:=.inl hA;have hA3':(P'.grown wr (wr.setCell ⟨ab,3,none⟩ (.bool true))).A rb:=.inl hA';have hab3:=h2'.ab;rw [show (P'.grown wr (wr.setCell ⟨ab,3,none⟩ (.bool true))).base=P.base from hl.base] at hab3;have hbw3:Below P.base w (wr.setCell ⟨ab,3,none⟩ (.bool true)):=hbw.setCell (p:=⟨ab,3,none⟩) HR.out.2.1 _;generalize P'.grown wr (wr.setCell ⟨ab,3,none⟩ (.bool true))=P3 at *
    have HEND:Hid (Blk (wr.setCell ⟨ab,3,none⟩ (.bool true)) ab #[.slice pa (vis P).length pc,.slice none 0 0,.int .i64 0,.bool true] 71∧Blk (wr.setCell ⟨ab,3,none⟩ (.bool true)) rb zA 71∧PairsAt (fun k=>P3.A k∧k≠ab∧k≠rb) (wr.setCell ⟨ab,3,none⟩ (.bool true)) (.slice pa (vis P).length pc) (vis P) rs∧P3.A ab∧P3.A rb∧(∀ k,P3.A k→P.base≤k∧k < (wr.setCell ⟨ab,3,none⟩ (.bool true)).heap.size)∧Below P.base w (wr.setCell ⟨ab,3,none⟩ (.bool true))):=hid ⟨by simpa using hB3,hB3',hp3,hA3,hA3',hab3.2,hbw3⟩
    clear h2 h2' hB hB' hp hA hA' hl hfr hB3 hB3' hp3 hA3 hA3' hab3 hbw hbw3;go_wp2_with fail
    refine herr.mono ?_;rintro e w' ⟨rfl,hw'⟩;rw [hw'];clear herr hw' w';try dsimp only
    go_wp2_with fail
    refine hrel.mono ?_;rintro e w12 ⟨rfl,hb12,hk12⟩;have hs12:=hb12.size;obtain ⟨z1,z2,z3,z4,z5,z6,z7⟩:=HEND.out;have hBa:Blk w12 ab #[.slice pa (vis P).length pc,.slice none 0 0,.int .i64 0,.bool true] 71:=(hk12 ab z4).trans z1;have hBr:Blk w12 rb zA 71:=(hk12 rb z5).trans z2;have a0:=hBa.cell (k:=0) rfl;have a1:=hBa.cell (k:=1) rfl;have a2:=hBa.cell (k:=2) rfl;have a3:=hBa.cell (k:=3) rfl;have b0:w12.cell? ⟨rb,0,none⟩=some (.slice none 0 0):=hBr.cell (k:=0) rfl
    have b1:w12.cell? ⟨rb,1,none⟩=some (.slice none 0 0):=hBr.cell (k:=1) rfl;have b2:w12.cell? ⟨rb,2,none⟩=some (.int .i64 0):=hBr.cell (k:=2) rfl;have b3:w12.cell? ⟨rb,3,none⟩=some (.bool false):=hBr.cell (k:=3) rfl;have c0:=hBr.free 0;have c1:=hBr.free 1;have c2:=hBr.free 2;have c3:=hBr.free 3;have HF:Hid (PairsAt (fun k=>P3.A k∧k≠ab∧k≠rb) w12 (.slice pa (vis P).length pc) (vis P) rs∧Blk w12 rb zA 71∧(∀ k,P3.A k→P.base≤k∧k < w12.heap.size)∧Below P.base w w12):=hid ⟨z3.keep (fun k hk=>hk12 k hk.1) (fun _ h=>h),hBr,fun k hk=>⟨(z6 k hk).1,Nat.lt_of_lt_of_le (z6 k hk).2 hs12⟩,z7.trans hb12⟩
    clear hrel hb12 hk12 z1 z2 z3 z4 z5 z6 z7 hBa hBr HEND;try dsimp only
    go_wp2
    have HC:Hid (Blk ((((w12.setCell ⟨rb,0,none⟩ (.slice pa N pc)).setCell ⟨rb,1,none⟩ (.slice none 0 0)).setCell ⟨rb,2,none⟩ (.int .i64 0)).setCell ⟨rb,3,none⟩ (.bool true)) rb #[.slice pa N pc,.slice none 0 0,.int .i64 0,.bool true] 71):=hid (by
     have:=(((HF.out.2.1.set 0 (.slice pa N pc)).set 1 (.slice none 0 0)).set 2 (.int .i64 0)).set 3 (.bool true);simpa [zA] using this)
    have hfrF:Fr (fun k=>k=rb) w12 ((((w12.setCell ⟨rb,0,none⟩ (.slice pa N pc)).setCell ⟨rb,1,none⟩ (.slice none 0 0)).setCell ⟨rb,2,none⟩ (.int .i64 0)).setCell ⟨rb,3,none⟩ (.bool true)):=Fr.setC (S:=fun k=>k=rb) (Fr.setC (S:=fun k=>k=rb) (Fr.setC (S:=fun k=>k=rb) (Fr.setC (S:=fun k=>k=rb) (Fr.refl _ w12) rb 0 _ rfl) rb 1 _ rfl) rb 2 _ rfl) rb 3 _ rfl;generalize (((w12.setCell ⟨rb,0,none⟩ (.slice pa N pc)).setCell ⟨rb,1,none⟩ (.slice none 0 0)).setCell ⟨rb,2,none⟩ (.int .i64 0)).setCell ⟨rb,3,none⟩ (.bool true)=W at HC hfrF ⊢
    have d0:=HC.out.cell (k:=0) rfl;have d1:=HC.out.cell (k:=1) rfl;have d2:=HC.out.cell (k:=2) rfl;have d3:=HC.out.cell (k:=3) rfl;have hF1:=HF.out;rw [hNN] at hF1;have HF1:=hid hF1;have HFR:=hid hfrF;clear hF1 HF hfrF;refine bodyPost_ret (v:=.agg #[.slice pa N pc,.slice none 0 0,.int .i64 0,.bool true]) (results_cell rfl rfl ?_) rfl ?_
    ·go_simp
    ·obtain ⟨y1,y2,y3,y4⟩:=HF1.out;exact ⟨_,rs,_,rfl,y1.keep (fun k hk=>HFR.out.block k (y3 k hk.1).2 hk.2.2) (fun _ h=>h),fun k hk=>⟨(y3 k hk.1).1,Nat.lt_of_lt_of_le (y3 k hk.1).2 HFR.out.size⟩,y4.trans (HFR.out.below (Nat.le_trans (by have:=(y3 rb);have:=y4.size;have:=HBL.out;omega) (Nat.le_refl _)) (fun k hk e=>by have:=HR.out.2.2;omega))⟩
 ·go_upto_region 5 with fail
  obtain ⟨w1,hw1⟩:∃ w1,w1=((w.alloc (Obj.cells #[Value.int IntKind.i64 9,kv,vv,Value.int IntKind.i64 n] 43)).alloc (Obj.cells #[Value.slice none 0 0,Value.slice none 0 0,Value.int IntKind.i64 0,Value.bool false] 71)).alloc (Obj.cells #[Value.slice none 0 0,Value.slice none 0 0,Value.int IntKind.i64 0,Value.bool false] 71):=⟨_,rfl⟩;rw [← hw1];have hs1:w1.heap.size=w.heap.size+3:=by rw [hw1];simp
  have hb1:Below w.heap.size w w1:=by rw [hw1];exact (((Below.refl _ _).alloc (Nat.le_refl _) _).alloc (by simp) _).alloc (by simp;omega) _
  have hab:Blk w1 (w.heap.size+1+1) zA 71:=by
   rw [hw1];have:=Blk.new ((w.alloc (Obj.cells #[Value.int IntKind.i64 9,kv,vv,Value.int IntKind.i64 n] 43)).alloc (Obj.cells #[Value.slice none 0 0,Value.slice none 0 0,Value.int IntKind.i64 0,Value.bool false] 71)) #[Value.slice none 0 0,Value.slice none 0 0,Value.int IntKind.i64 0,Value.bool false] 71;simpa [zA] using this
  have hrb:Blk w1 (w.heap.size+1) zA 71:=by
   rw [hw1];have:=(Blk.new (w.alloc (Obj.cells #[Value.int IntKind.i64 9,kv,vv,Value.int IntKind.i64 n] 43)) #[Value.slice none 0 0,Value.slice none 0 0,Value.int IntKind.i64 0,Value.bool false] 71).alloc (Obj.cells #[Value.slice none 0 0,Value.slice none 0 0,Value.int IntKind.i64 0,Value.bool false] 71);simpa [zA] using this
  have h1:II (P.grown w w1) w1 cur:=h.turn (Fr.of_below hb1);have hlow:=h.ab.1;clear hw1;have hfi:=II.first (gets_like ((IP.like.refl P).grown w w1) hg) h1;rw [vis_grown] at hfi;generalize hb5:w.heap.size+1+1=ab at *;generalize hb4:w.heap.size+1=rb at *;have H0:Hid (∀ w' cur',II (P.grown w w1) w' cur'→ItSt P ab rb cur' [] w'):=hid (fun w' cur' h6=>ItSt.move (P:=P.grown w w1) (pv:=.slice none 0 0) (rs:=[]) ((IP.like.refl P).grown w w1) h1 (.inr ⟨by omega,by omega⟩) (.inr ⟨by omega,by omega⟩) hab hrb (PairsAt.nil _ _) h6)
  have HB1:=hid (show Below P.base w w1 from hb1.mono hlow);have HG:=hid hg;have HLE:=hid hle;have HN:=hid hN;have HR:=hid (show ab≠rb∧P.base≤ab∧P.base≤rb from ⟨by omega,by omega,by omega⟩);have HBL:=hid hlow;clear h1 hab hrb hs1 hb1 hlow h hg hle hN hb5 hb4;go_wp2_with fail
  refine hfi.mono ?_;rintro e w2 ⟨rfl,h2,hb2⟩;have HST:=hid (show ItSt P ab rb 1 [] w2∧Below P.base w w2 from ⟨H0.out _ _ h2,HB1.out.trans hb2⟩);clear hfi h2 hb2 H0 HB1;try dsimp only
  generalize hNN:(vis P).length=N at *;go_wp2_with fail
  go_loopw [6] (fun v6 wr=>∃ k,v6=.bool (decide (k+1≤N))∧k≤N∧ItSt P ab rb (k+1) ((vis P).take k) wr∧Below P.base w wr) (fun _ wr=>N+1 - pnOf wr ab)
  case atStart=>exact ⟨0,by rw [Nat.zero_add],Nat.zero_le _,by simpa using HST.out.1,HST.out.2⟩
  case round =>
   obtain ⟨k,rfl,hkN,hst,hbw⟩:=hrel;clear HST;obtain ⟨P',pv,rs,hl,h2,hA,hA',hB,hB',hp⟩:=hst;by_cases hlt:k+1≤N
   ·have hpa:∀ kk,Calls Tryz.prog 69 #[.iface 249 (.pointer (some ⟨P.it,0,none⟩))] (wr.drewN kk) fun e w'=>∃ ev ka kc va vc,(vis P)[k]?=some ev∧e=.returned (.agg #[.slice ka ev.1.length kc,.slice va ev.2.length vc])∧Pr wr.heap.size w' ka kc va vc ev∧Below wr.heap.size wr w':=fun kk=>by
     have h2':=h2.turn (w':=wr.drewN kk) (Fr.of_below (Below.drewN' wr.heap.size wr kk));have hpa:=pair_any h2' (by omega) (by rw [vis_grown,vis_like hl,hNN];exact hlt) (by rw [vis_grown,vis_like hl];exact HLE.out);rw [show (P'.grown wr (wr.drewN kk)).it=P.it from hl.it,vis_grown,vis_like hl] at hpa;refine hpa.mono ?_;rintro e w' ⟨ev,ka,kc,va,vc,g1,g2,g3,g4⟩;exact ⟨ev,ka,kc,va,vc,g1,g2,g3,(Below.drewN' wr.heap.size wr kk).trans g4⟩
    have hz:=hB.cell (k:=0) rfl;have HS:=hid (show P'.like P∧II P' wr (k+1)∧P'.A ab∧P'.A rb∧Blk wr ab #[pv,.slice none 0 0,.int .i64 0,.bool false] 71∧Blk wr rb zA 71∧PairsAt (fun k=>P'.A k∧k≠ab∧k≠rb) wr pv ((vis P).take k) rs∧Below P.base w wr from ⟨hl,h2,hA,hA',hB,hB',hp,hbw⟩);clear hl h2 hA hA' hB hB' hp hbw;rw [decide_eq_true hlt];go_upto_region 8 with fail
    refine Pos.start (fun W:World=>W.cell? ⟨ab,0,none⟩=some pv) 6 (by kernel_rfl) ?_;iterate 3
     refine' Pos.takeK (show (fun W:World=>W.cell? ⟨ab,0,none⟩=some pv) (wr.drewN 1) from hz) rfl (by kernel_rfl) (fun _ _ _ h=>h) (by rfl) ?_ ?_;rotate_left
     ·intro W hW;go_simp;try with_reducible rfl
     intro K hK;go_simp;refine hK _ ?_;clear hK K
    refine Pos.eff rfl (by kernel_rfl) ?_;go_wp2_with fail
    refine (hpa _).mono ?_;rintro e w2 ⟨ev,ka,kc,va,vc,hev,rfl,hpr,hb2⟩;obtain ⟨t1,t2,t3,t4,t5,t6,t7,t8⟩:=HS.out;obtain ⟨hown3,hc2,hc3,hstep⟩:=it_step t2 t3 t4 HR.out.1 t5 t6 t7 hb2 hpr;have hln:((vis P).take k).length=k:=by rw [List.length_take,hNN];omega
    rw [hln] at hown3 hstep;have htk:(vis P).take (k+1)=(vis P).take k++[ev]:=by rw [List.take_add_one,hev];rfl
    rw [← htk] at hstep;have HO3:=hid hown3;have HSTEP:=hid hstep;have hN':=HN.out;clear hpa hev hpr hb2 t1 t2 t3 t4 t5 t6 t7 t8 hown3 hstep hln htk;try dsimp only
    go_wp2_with fail
    refine ⟨hc2,?_⟩;refine Pos.eff rfl (by kernel_rfl) ?_;go_wp2_with fail
    refine ⟨hc3,?_⟩;refine Pos.eff rfl (by kernel_rfl) ?_;refine wpList_app rfl _ _ 22 rfl 40 (.agg #[.slice none 0 0,.slice none 0 0]) 2 48 un22 info40 rfl (by omega) pv k (rs.flatMap fun r=>[r.1,r.2]) rfl (by exact HO3.out) (some ⟨w2.heap.size,0,none⟩) 1 1 [.slice ka ev.1.length kc,.slice va ev.2.length vc] rfl rfl (by simp) (by exact news_new [.slice ka ev.1.length kc,.slice va ev.2.length vc] _ (Blk.new w2 _ _)) (by simp [Value.oneCell']) (by unfold maxLen;omega) (by omega) ?_
    intro v8 w8 hown8 hgrow8 hlies8;obtain ⟨hz8,hf8,h9⟩:=HSTEP.out v8 w8 hown8 hgrow8 hlies8;have H9:=hid h9;obtain ⟨a8,c8,rfl,hc8⟩:=own_form hown8;have hnx:=II.next (gets_like (HS.out.1.grown wr (w8.setCell ⟨ab,0,none⟩ (.slice a8 (k+1) c8))) HG.out) h9.1;rw [show (P'.grown wr (w8.setCell ⟨ab,0,none⟩ (.slice a8 (k+1) c8))).it=P.it from HS.out.1.it,vis_grown,vis_like HS.out.1,hNN,show min (k+1+1) (N+1)=k+1+1 by omega,show (P'.grown wr (w8.setCell ⟨ab,0,none⟩ (.slice a8 (k+1) c8))).base=P.base from HS.out.1.base] at hnx
    clear hown8 hgrow8 hlies8 h9;refine ⟨hz8,?_⟩;refine Pos.tail (by kernel_rfl) (by decide) ?_;simp only [List.drop_succ_cons,List.drop_zero];go_wp2_with fail
    refine hnx.mono ?_;rintro e w10 ⟨rfl,h10,hb10⟩;have HX:Hid (ItSt P ab rb (k+1+1) ((vis P).take (k+1)) w10∧Below P.base w w10∧pnOf w10 ab=k+1∧pnOf wr ab=k):=hid (by
     obtain ⟨e1,e2,e3,e4,e5,e6,e7⟩:=H9.out;obtain ⟨t1,t2,t3,t4,t5,t6,t7,t8⟩:=HS.out;have hst:ItSt P ab rb (k+1+1) ((vis P).take (k+1)) w10:=ItSt.move (t1.grown _ _) e1 e2 e3 e4 e5 e6 h10;rw [t1.base] at e7;refine ⟨hst,(t8.trans e7).trans hb10,?_,?_⟩
     ·rw [hst.pn,List.length_take,hNN];omega
     ·rw [pnOf_of t5 t7,List.length_take,hNN];omega)
    clear hnx h10 hb10 H9 HS;try dsimp only
    go_wp2_with fail
    go_roundw
    case rel=>exact ⟨k+1,rfl,hlt,HX.out.1,HX.out.2.1⟩
    case measure =>
     obtain ⟨_,_,h3,h4⟩:=HX.out;rw [h3,h4];omega
   ·rw [decide_eq_false hlt];have hke:(vis P).take k=vis P:=by rw [show k=(vis P).length by omega,List.take_length]
    rw [hke] at hp;clear hke;obtain ⟨pa,pc,rfl,_⟩:=own_form hp.own;have herr:=h2.error;rw [hl.it] at herr;have q3:=hB.cell (k:=3) rfl;have f3:=hB.free 3;have hfr:Fr P'.A wr (wr.setCell ⟨ab,3,none⟩ (.bool true)):=(Fr.refl P'.A wr).setC ab 3 _ hA;have h2':=h2.turn hfr;have hrel:=h2'.release;rw [show (P'.grown wr (wr.setCell ⟨ab,3,none⟩ (.bool true))).it=P.it from hl.it,show (P'.grown wr (wr.setCell ⟨ab,3,none⟩ (.bool true))).base=P.base from hl.base] at hrel
    have hB3:=hB.set 3 (.bool true);have hB3':Blk (wr.setCell ⟨ab,3,none⟩ (.bool true)) rb zA 71:=(Below.heap_setCell _ _ _ rb (fun e=>HR.out.1 (by exact e.symm))).trans hB';have hp3:PairsAt (fun k=>(P'.grown wr (wr.setCell ⟨ab,3,none⟩ (.bool true))).A k∧k≠ab∧k≠rb) (wr.setCell ⟨ab,3,none⟩ (.bool true)) (.slice pa (vis P).length pc) (vis P) rs:=hp.keep (fun k hk=>Below.heap_setCell _ _ _ k hk.2.1) (fun k hk=>⟨.inl hk.1,hk.2⟩)
    have hA3:(P'.grown wr (wr.setCell ⟨ab,3,none⟩ (.bool true))).A ab:=.inl hA;have hA3':(P'.grown wr (wr.setCell ⟨ab,3,none⟩ (.bool true))).A rb:=.inl hA';have hab3:=h2'.ab;rw [show (P'.grown wr (wr.setCell ⟨ab,3,none⟩ (.bool true))).base=P.base from hl.base] at hab3;have hbw3:Below P.base w (wr.setCell ⟨ab,3,none⟩ (.bool true)):=hbw.setCell (p:=⟨ab,3,none⟩) HR.out.2.1 _;generalize P'.grown wr (wr.setCell ⟨ab,3,none⟩ (.bool true))=P3 at *
    have HEND:Hid (Blk (wr.setCell ⟨ab,3,none⟩ (.bool true)) ab #[.slice pa (vis P).length pc,.slice none 0 0,.int .i64 0,.bool true] 71∧Blk (wr.setCell ⟨ab,3,none⟩ (.bool true)) rb zA 71∧PairsAt (fun k=>P3.A k∧k≠ab∧k≠rb) (wr.setCell ⟨ab,3,none⟩ (.bool true)) (.slice pa (vis P).length pc) (vis P) rs∧P3.A ab∧P3.A rb∧(∀ k,P3.A k→P.base≤k∧k < (wr.setCell ⟨ab,3,none⟩ (.bool true)).heap.size)∧Below P.base w (wr.setCell ⟨ab,3,none⟩ (.bool true))):=hid ⟨by simpa using hB3,hB3',hp3,hA3,hA3',hab3.2,hbw3⟩
    clear h2 h2' hB hB' hp hA hA' hl hfr hB3 hB3' hp3 hA3 hA3' hab3 hbw hbw3;go_wp2_with fail
    refine herr.mono ?_;rintro e w' ⟨rfl,hw'⟩;rw [hw'];clear herr hw' w';try dsimp only
    go_wp2_with fail
    refine hrel.mono ?_;rintro e w12 ⟨rfl,hb12,hk12⟩;have hs12:=hb12.size;obtain ⟨z1,z2,z3,z4,z5,z6,z7⟩:=HEND.out;have hBa:Blk w12 ab #[.slice pa (vis P).length pc,.slice none 0 0,.int .i64 0,.bool true] 71:=(hk12 ab z4).trans z1;have hBr:Blk w12 rb zA 71:=(hk12 rb z5).trans z2;have a0:=hBa.cell (k:=0) rfl;have a1:=hBa.cell (k:=1) rfl;have a2:=hBa.cell (k:=2) rfl;have a3:=hBa.cell (k:=3) rfl;have b0:w12.cell? ⟨rb,0,none⟩=some (.slice none 0 0):=hBr.cell (k:=0) rfl
    have b1:w12.cell? ⟨rb,1,none⟩=some (.slice none 0 0):=hBr.cell (k:=1) rfl;have b2:w12.cell? ⟨rb,2,none⟩=some (.int .i64 0):=hBr.cell (k:=2) rfl;have b3:w12.cell? ⟨rb,3,none⟩=some (.bool false):=hBr.cell (k:=3) rfl;have c0:=hBr.free 0;have c1:=hBr.free 1;have c2:=hBr.free 2;have c3:=hBr.free 3;have HF:Hid (PairsAt (fun k=>P3.A k∧k≠ab∧k≠rb) w12 (.slice pa (vis P).length pc) (vis P) rs∧Blk w12 rb zA 71∧(∀ k,P3.A k→P.base≤k∧k < w12.heap.size)∧Below P.base w w12):=hid ⟨z3.keep (fun k hk=>hk12 k hk.1) (fun _ h=>h),hBr,fun k hk=>⟨(z6 k hk).1,Nat.lt_of_lt_of_le (z6 k hk).2 hs12⟩,z7.trans hb12⟩
    clear hrel hb12 hk12 z1 z2 z3 z4 z5 z6 z7 hBa hBr HEND;try dsimp only
    go_wp2
    have HC:Hid (Blk ((((w12.setCell ⟨rb,0,none⟩ (.slice pa N pc)).setCell ⟨rb,1,none⟩ (.slice none 0 0)).setCell ⟨rb,2,none⟩ (.int .i64 0)).setCell ⟨rb,3,none⟩ (.bool true)) rb #[.slice pa N pc,.slice none 0 0,.int .i64 0,.bool true] 71):=hid (by
     have:=(((HF.out.2.1.set 0 (.slice pa N pc)).set 1 (.slice none 0 0)).set 2 (.int .i64 0)).set 3 (.bool true);simpa [zA] using this)
    have hfrF:Fr (fun k=>k=rb) w12 ((((w12.setCell ⟨rb,0,none⟩ (.slice pa N pc)).setCell ⟨rb,1,none⟩ (.slice none 0 0)).setCell ⟨rb,2,none⟩ (.int .i64 0)).setCell ⟨rb,3,none⟩ (.bool true)):=Fr.setC (S:=fun k=>k=rb) (Fr.setC (S:=fun k=>k=rb) (Fr.setC (S:=fun k=>k=rb) (Fr.setC (S:=fun k=>k=rb) (Fr.refl _ w12) rb 0 _ rfl) rb 1 _ rfl) rb 2 _ rfl) rb 3 _ rfl;generalize (((w12.setCell ⟨rb,0,none⟩ (.slice pa N pc)).setCell ⟨rb,1,none⟩ (.slice none 0 0)).setCell ⟨rb,2,none⟩ (.int .i64 0)).setCell ⟨rb,3,none⟩ (.bool true)=W at HC hfrF ⊢
    have d0:=HC.out.cell (k:=0) rfl;have d1:=HC.out.cell (k:=1) rfl;have d2:=HC.out.cell (k:=2) rfl;have d3:=HC.out.cell (k:=3) rfl;have hF1:=HF.out;rw [hNN] at hF1;have HF1:=hid hF1;have HFR:=hid hfrF;clear hF1 HF hfrF;refine bodyPost_ret (v:=.agg #[.slice pa N pc,.slice none 0 0,.int .i64 0,.bool true]) (results_cell rfl rfl ?_) rfl ?_
    ·go_simp
    ·obtain ⟨y1,y2,y3,y4⟩:=HF1.out;exact ⟨_,rs,_,rfl,y1.keep (fun k hk=>HFR.out.block k (y3 k hk.1).2 hk.2.2) (fun _ h=>h),fun k hk=>⟨(y3 k hk.1).1,Nat.lt_of_lt_of_le (y3 k hk.1).2 HFR.out.size⟩,y4.trans (HFR.out.below (Nat.le_trans (by have:=(y3 rb);have:=y4.size;have:=HBL.out;omega) (Nat.le_refl _)) (fun k hk e=>by have:=HR.out.2.2;omega))⟩
end
end Go.Proofs.YtmkdpjicgjhhjaaGreatDoor
