/- Part 38 of the proof of FnTableComesBack: contracts and lemmas, each under the conditions that it states. Texts: ITb, ISl, SSt. -/
import Derived.Test.YtmkdpjicgjhhjaaGreatDoorC37
import Derived.Deep.CutBlock
namespace Go.Proofs.YtmkdpjicgjhhjaaGreatDoor
open Go.Lib (hid)
set_option maxRecDepth 100000
set_option linter.all false
section
open Go Go.RowKit Go.Shelf
set_option maxHeartbeats 4000000 in
theorem iterBwd_any {P:IP} (hg:P.gets) (hw:P.whole) {w:World} {cur:Nat} (h:II P w cur) (kv vv:Value) (n:Int) (hle:∀ e∈vis P,e.1.length≤4294967295∧e.2.length≤4294967295) (hN:(vis P).length≤2147483647) :
  Calls Tryz.prog 29 #[.iface 249 (.pointer (some ⟨P.it,0,none⟩)),.agg #[.int .i64 8,kv,vv,.int .i64 n]] w fun e w' =>
   ∃ pv rs S,e=.returned (.agg #[pv,.slice none 0 0,.int .i64 0,.bool true])∧PairsAt S w' pv (vis P).reverse rs∧(∀ k,S k→P.base≤k∧k < w'.heap.size)∧Below P.base w w':=by
 go_enter Tryz.func29,Tryz.ntmps29
 go_upto_region 10 with fail
 obtain ⟨w1,hw1⟩:∃ w1,w1=((w.alloc (Obj.cells #[Value.int IntKind.i64 8,kv,vv,Value.int IntKind.i64 n] 43)).alloc (Obj.cells #[Value.slice none 0 0,Value.slice none 0 0,Value.int IntKind.i64 0,Value.bool false] 71)).alloc (Obj.cells #[Value.slice none 0 0,Value.slice none 0 0,Value.int IntKind.i64 0,Value.bool false] 71):=⟨_,rfl⟩;rw [← hw1];have hs1:w1.heap.size=w.heap.size+3:=by rw [hw1];simp
 have hb1:Below w.heap.size w w1:=by rw [hw1];exact (((Below.refl _ _).alloc (Nat.le_refl _) _).alloc (by simp) _).alloc (by simp;omega) _
 have hab:Blk w1 (w.heap.size+1+1) zA 71:=by
  rw [hw1];have:=Blk.new ((w.alloc (Obj.cells #[Value.int IntKind.i64 8,kv,vv,Value.int IntKind.i64 n] 43)).alloc (Obj.cells #[Value.slice none 0 0,Value.slice none 0 0,Value.int IntKind.i64 0,Value.bool false] 71)) #[Value.slice none 0 0,Value.slice none 0 0,Value.int IntKind.i64 0,Value.bool false] 71;simpa [zA] using this
 have hrb:Blk w1 (w.heap.size+1) zA 71:=by
  rw [hw1];have:=(Blk.new (w.alloc (Obj.cells #[Value.int IntKind.i64 8,kv,vv,Value.int IntKind.i64 n] 43)) #[Value.slice none 0 0,Value.slice none 0 0,Value.int IntKind.i64 0,Value.bool false] 71).alloc (Obj.cells #[Value.slice none 0 0,Value.slice none 0 0,Value.int IntKind.i64 0,Value.bool false] 71);simpa [zA] using this
 have h1:II (P.grown w w1) w1 cur:=h.turn (Fr.of_below hb1);have hlow:=h.ab.1;clear hw1;have hfi:=II.last (gets_like ((IP.like.refl P).grown w w1) hg) (show (P.grown w w1).whole from hw) h1;rw [vis_grown] at hfi;generalize hb5:w.heap.size+1+1=ab at *;generalize hb4:w.heap.size+1=rb at *;have H0:Hid (∀ w' cur',II (P.grown w w1) w' cur'→ItSt P ab rb cur' [] w'):=hid (fun w' cur' h6=>ItSt.move (P:=P.grown w w1) (pv:=.slice none 0 0) (rs:=[]) ((IP.like.refl P).grown w w1) h1 (.inr ⟨by omega,by omega⟩) (.inr ⟨by omega,by omega⟩) hab hrb (PairsAt.nil _ _) h6)
 have HB1:=hid (show Below P.base w w1 from hb1.mono hlow);have HG:=hid hg;have HLE:=hid hle;have HN:=hid hN;have HR:=hid (show ab≠rb∧P.base≤ab∧P.base≤rb from ⟨by omega,by omega,by omega⟩);have HBL:=hid hlow;clear h1 hab hrb hs1 hb1 hlow h hg hle hN hb5 hb4;go_wp2_with fail
 refine hfi.mono ?_;rintro e w2 ⟨rfl,h2,hb2⟩;have HST:=hid (show ItSt P ab rb (vis P).length [] w2∧Below P.base w w2 from ⟨H0.out _ _ h2,HB1.out.trans hb2⟩);clear hfi h2 hb2 H0 HB1;try dsimp only
 have HW:=hid hw;clear hw;generalize hNN:(vis P).length=N at *;obtain ⟨L,hL⟩:∃ L,L=(vis P).reverse:=⟨_,rfl⟩;have hLN:L.length=N:=by rw [hL,List.length_reverse,hNN]
 have HL:=hid hL;clear hL;go_wp2_with fail
 go_loopw [7] (fun v6 wr=>∃ k,v6=.bool (decide (0 < N - k))∧k≤N∧ItSt P ab rb (N - k) (L.take k) wr∧Below P.base w wr) (fun _ wr=>N+1 - pnOf wr ab)
 case atStart=>exact ⟨0,by rw [Nat.sub_zero],Nat.zero_le _,by simpa using HST.out.1,HST.out.2⟩
 case round =>
  obtain ⟨k,rfl,hkN,hst,hbw⟩:=hrel;clear HST;obtain ⟨P',pv,rs,hl,h2,hA,hA',hB,hB',hp⟩:=hst;by_cases hlt:0 < N - k
  ·have hpa:∀ kk,Calls Tryz.prog 69 #[.iface 249 (.pointer (some ⟨P.it,0,none⟩))] (wr.drewN kk) fun e w'=>∃ ev ka kc va vc,L[k]?=some ev∧e=.returned (.agg #[.slice ka ev.1.length kc,.slice va ev.2.length vc])∧Pr wr.heap.size w' ka kc va vc ev∧Below wr.heap.size wr w':=fun kk=>by
    have h2':=h2.turn (w':=wr.drewN kk) (Fr.of_below (Below.drewN' wr.heap.size wr kk));have hpa:=pair_any h2' (by omega) (by rw [vis_grown,vis_like hl,hNN];omega) (by rw [vis_grown,vis_like hl];exact HLE.out);rw [show (P'.grown wr (wr.drewN kk)).it=P.it from hl.it,vis_grown,vis_like hl] at hpa;refine hpa.mono ?_;rintro e w' ⟨ev,ka,kc,va,vc,g1,g2,g3,g4⟩;exact ⟨ev,ka,kc,va,vc,by rw [HL.out,List.getElem?_reverse (by omega),hNN,show N - 1 - k=N - k - 1 by omega];exact g1,g2,g3,(Below.drewN' wr.heap.size wr kk).trans g4⟩
   have hz:=hB.cell (k:=0) rfl;have HS:=hid (show P'.like P∧II P' wr (N - k)∧P'.A ab∧P'.A rb∧Blk wr ab #[pv,.slice none 0 0,.int .i64 0,.bool false] 71∧Blk wr rb zA 71∧PairsAt (fun k=>P'.A k∧k≠ab∧k≠rb) wr pv (L.take k) rs∧Below P.base w wr from ⟨hl,h2,hA,hA',hB,hB',hp,hbw⟩);clear hl h2 hA hA' hB hB' hp hbw;rw [decide_eq_true hlt];go_upto_region 13 with fail
   refine Pos.start (fun W:World=>W.cell? ⟨ab,0,none⟩=some pv) 6 (by kernel_rfl) ?_;iterate 3
    refine' Pos.takeK (show (fun W:World=>W.cell? ⟨ab,0,none⟩=some pv) (wr.drewN 1) from hz) rfl (by kernel_rfl) (fun _ _ _ h=>h) (by rfl) ?_ ?_;rotate_left
    ·intro W hW;go_simp;try with_reducible rfl
    intro K hK;go_simp;refine hK _ ?_;clear hK K
   refine Pos.eff rfl (by kernel_rfl) ?_;go_wp2_with fail
   refine (hpa _).mono ?_;rintro e w2 ⟨ev,ka,kc,va,vc,hev,rfl,hpr,hb2⟩;obtain ⟨t1,t2,t3,t4,t5,t6,t7,t8⟩:=HS.out;obtain ⟨hown3,hc2,hc3,hstep⟩:=it_step t2 t3 t4 HR.out.1 t5 t6 t7 hb2 hpr;have hln:(L.take k).length=k:=by rw [List.length_take,hLN];omega
   rw [hln] at hown3 hstep;have htk:L.take (k+1)=L.take k++[ev]:=by rw [List.take_add_one,hev];rfl
   rw [← htk] at hstep;have HO3:=hid hown3;have HSTEP:=hid hstep;have hN':=HN.out;clear hpa hev hpr hb2 t1 t2 t3 t4 t5 t6 t7 t8 hown3 hstep hln htk;try dsimp only
   go_wp2_with fail
   refine ⟨hc2,?_⟩;refine Pos.eff rfl (by kernel_rfl) ?_;go_wp2_with fail
   refine ⟨hc3,?_⟩;refine Pos.eff rfl (by kernel_rfl) ?_;refine wpList_app rfl _ _ 22 rfl 40 (.agg #[.slice none 0 0,.slice none 0 0]) 2 48 un22 info40 rfl (by omega) pv k (rs.flatMap fun r=>[r.1,r.2]) rfl (by exact HO3.out) (some ⟨w2.heap.size,0,none⟩) 1 1 [.slice ka ev.1.length kc,.slice va ev.2.length vc] rfl rfl (by simp) (by exact news_new [.slice ka ev.1.length kc,.slice va ev.2.length vc] _ (Blk.new w2 _ _)) (by simp [Value.oneCell']) (by unfold maxLen;omega) (by omega) ?_
   intro v8 w8 hown8 hgrow8 hlies8;obtain ⟨hz8,hf8,h9⟩:=HSTEP.out v8 w8 hown8 hgrow8 hlies8;have H9:=hid h9;obtain ⟨a8,c8,rfl,hc8⟩:=own_form hown8;have hnx:=II.prev (gets_like (HS.out.1.grown wr (w8.setCell ⟨ab,0,none⟩ (.slice a8 (k+1) c8))) HG.out) (show P'.R.fw=false by rw [HS.out.1.R];exact HW.out) h9.1;rw [show (P'.grown wr (w8.setCell ⟨ab,0,none⟩ (.slice a8 (k+1) c8))).it=P.it from HS.out.1.it,show (P'.grown wr (w8.setCell ⟨ab,0,none⟩ (.slice a8 (k+1) c8))).base=P.base from HS.out.1.base] at hnx
   clear hown8 hgrow8 hlies8 h9;refine ⟨hz8,?_⟩;refine Pos.tail (by kernel_rfl) (by decide) ?_;simp only [List.drop_succ_cons,List.drop_zero];go_wp2_with fail
   refine hnx.mono ?_;rintro e w10 ⟨rfl,h10,hb10⟩;have HX:Hid (ItSt P ab rb (N - k - 1) (L.take (k+1)) w10∧Below P.base w w10∧pnOf w10 ab=k+1∧pnOf wr ab=k):=hid (by
    obtain ⟨e1,e2,e3,e4,e5,e6,e7⟩:=H9.out;obtain ⟨t1,t2,t3,t4,t5,t6,t7,t8⟩:=HS.out;have hst:ItSt P ab rb (N - k - 1) (L.take (k+1)) w10:=ItSt.move (t1.grown _ _) e1 e2 e3 e4 e5 e6 h10;rw [t1.base] at e7;refine ⟨hst,(t8.trans e7).trans hb10,?_,?_⟩
    ·rw [hst.pn,List.length_take,hLN];omega
    ·rw [pnOf_of t5 t7,List.length_take,hLN];omega)
   clear hnx h10 hb10 H9 HS;try dsimp only
   go_wp2_with fail
   go_roundw
   case rel=>exact ⟨k+1,by rw [Nat.sub_sub],by omega,by rw [← Nat.sub_sub];exact HX.out.1,HX.out.2.1⟩
   case measure =>
    obtain ⟨_,_,h3,h4⟩:=HX.out;rw [h3,h4];omega
  ·rw [decide_eq_false hlt];have hke:L.take k=L:=by rw [show k=L.length by omega,List.take_length]
   rw [hke] at hp;clear hke;obtain ⟨pa,pc,rfl,_⟩:=own_form hp.own;have herr:=h2.error;rw [hl.it] at herr;have q3:=hB.cell (k:=3) rfl;have f3:=hB.free 3;have hfr:Fr P'.A wr (wr.setCell ⟨ab,3,none⟩ (.bool true)):=(Fr.refl P'.A wr).setC ab 3 _ hA;have h2':=h2.turn hfr;have hrel:=h2'.release;rw [show (P'.grown wr (wr.setCell ⟨ab,3,none⟩ (.bool true))).it=P.it from hl.it,show (P'.grown wr (wr.setCell ⟨ab,3,none⟩ (.bool true))).base=P.base from hl.base] at hrel
   have hB3:=hB.set 3 (.bool true);have hB3':Blk (wr.setCell ⟨ab,3,none⟩ (.bool true)) rb zA 71:=(Below.heap_setCell _ _ _ rb (fun e=>HR.out.1 (by exact e.symm))).trans hB';have hp3:PairsAt (fun k=>(P'.grown wr (wr.setCell ⟨ab,3,none⟩ (.bool true))).A k∧k≠ab∧k≠rb) (wr.setCell ⟨ab,3,none⟩ (.bool true)) (.slice pa L.length pc) L rs:=hp.keep (fun k hk=>Below.heap_setCell _ _ _ k hk.2.1) (fun k hk=>⟨.inl hk.1,hk.2⟩)
   have hA3:(P'.grown wr (wr.setCell ⟨ab,3,none⟩ (.bool true))).A ab:=.inl hA;have hA3':(P'.grown wr (wr.setCell ⟨ab,3,none⟩ (.bool true))).A rb:=.inl hA';have hab3:=h2'.ab;rw [show (P'.grown wr (wr.setCell ⟨ab,3,none⟩ (.bool true))).base=P.base from hl.base] at hab3;have hbw3:Below P.base w (wr.setCell ⟨ab,3,none⟩ (.bool true)):=hbw.setCell (p:=⟨ab,3,none⟩) HR.out.2.1 _;generalize P'.grown wr (wr.setCell ⟨ab,3,none⟩ (.bool true))=P3 at *
   have HEND:Hid (Blk (wr.setCell ⟨ab,3,none⟩ (.bool true)) ab #[.slice pa L.length pc,.slice none 0 0,.int .i64 0,.bool true] 71∧Blk (wr.setCell ⟨ab,3,none⟩ (.bool true)) rb zA 71∧PairsAt (fun k=>P3.A k∧k≠ab∧k≠rb) (wr.setCell ⟨ab,3,none⟩ (.bool true)) (.slice pa L.length pc) L rs∧P3.A ab∧P3.A rb∧(∀ k,P3.A k→P.base≤k∧k < (wr.setCell ⟨ab,3,none⟩ (.bool true)).heap.size)∧Below P.base w (wr.setCell ⟨ab,3,none⟩ (.bool true))):=hid ⟨by simpa using hB3,hB3',hp3,hA3,hA3',hab3.2,hbw3⟩
   clear h2 h2' hB hB' hp hA hA' hl hfr hB3 hB3' hp3 hA3 hA3' hab3 hbw hbw3;go_wp2_with fail
   refine herr.mono ?_;rintro e w' ⟨rfl,hw'⟩;rw [hw'];clear herr hw' w';try dsimp only
   go_wp2_with fail
   refine hrel.mono ?_;rintro e w12 ⟨rfl,hb12,hk12⟩;have hs12:=hb12.size;obtain ⟨z1,z2,z3,z4,z5,z6,z7⟩:=HEND.out;have hBa:Blk w12 ab #[.slice pa L.length pc,.slice none 0 0,.int .i64 0,.bool true] 71:=(hk12 ab z4).trans z1;have hBr:Blk w12 rb zA 71:=(hk12 rb z5).trans z2;have a0:=hBa.cell (k:=0) rfl;have a1:=hBa.cell (k:=1) rfl;have a2:=hBa.cell (k:=2) rfl;have a3:=hBa.cell (k:=3) rfl;have b0:w12.cell? ⟨rb,0,none⟩=some (.slice none 0 0):=hBr.cell (k:=0) rfl
   have b1:w12.cell? ⟨rb,1,none⟩=some (.slice none 0 0):=hBr.cell (k:=1) rfl;have b2:w12.cell? ⟨rb,2,none⟩=some (.int .i64 0):=hBr.cell (k:=2) rfl;have b3:w12.cell? ⟨rb,3,none⟩=some (.bool false):=hBr.cell (k:=3) rfl;have c0:=hBr.free 0;have c1:=hBr.free 1;have c2:=hBr.free 2;have c3:=hBr.free 3;have HF:Hid (PairsAt (fun k=>P3.A k∧k≠ab∧k≠rb) w12 (.slice pa L.length pc) L rs∧Blk w12 rb zA 71∧(∀ k,P3.A k→P.base≤k∧k < w12.heap.size)∧Below P.base w w12):=hid ⟨z3.keep (fun k hk=>hk12 k hk.1) (fun _ h=>h),hBr,fun k hk=>⟨(z6 k hk).1,Nat.lt_of_lt_of_le (z6 k hk).2 hs12⟩,z7.trans hb12⟩
   clear hrel hb12 hk12 z1 z2 z3 z4 z5 z6 z7 hBa hBr HEND;try dsimp only
   go_wp2
   have HC:Hid (Blk ((((w12.setCell ⟨rb,0,none⟩ (.slice pa N pc)).setCell ⟨rb,1,none⟩ (.slice none 0 0)).setCell ⟨rb,2,none⟩ (.int .i64 0)).setCell ⟨rb,3,none⟩ (.bool true)) rb #[.slice pa N pc,.slice none 0 0,.int .i64 0,.bool true] 71):=hid (by
    have:=(((HF.out.2.1.set 0 (.slice pa N pc)).set 1 (.slice none 0 0)).set 2 (.int .i64 0)).set 3 (.bool true);simpa [zA] using this)
   have hfrF:Fr (fun k=>k=rb) w12 ((((w12.setCell ⟨rb,0,none⟩ (.slice pa N pc)).setCell ⟨rb,1,none⟩ (.slice none 0 0)).setCell ⟨rb,2,none⟩ (.int .i64 0)).setCell ⟨rb,3,none⟩ (.bool true)):=Fr.setC (S:=fun k=>k=rb) (Fr.setC (S:=fun k=>k=rb) (Fr.setC (S:=fun k=>k=rb) (Fr.setC (S:=fun k=>k=rb) (Fr.refl _ w12) rb 0 _ rfl) rb 1 _ rfl) rb 2 _ rfl) rb 3 _ rfl;generalize (((w12.setCell ⟨rb,0,none⟩ (.slice pa N pc)).setCell ⟨rb,1,none⟩ (.slice none 0 0)).setCell ⟨rb,2,none⟩ (.int .i64 0)).setCell ⟨rb,3,none⟩ (.bool true)=W at HC hfrF ⊢
   have d0:=HC.out.cell (k:=0) rfl;have d1:=HC.out.cell (k:=1) rfl;have d2:=HC.out.cell (k:=2) rfl;have d3:=HC.out.cell (k:=3) rfl;have hF1:=HF.out;rw [hLN] at hF1;have HF1:=hid hF1;have HFR:=hid hfrF;clear hF1 HF hfrF;refine bodyPost_ret (v:=.agg #[.slice pa N pc,.slice none 0 0,.int .i64 0,.bool true]) (results_cell rfl rfl ?_) rfl ?_
   ·go_simp
   ·obtain ⟨y1,y2,y3,y4⟩:=HF1.out;have y5:PairsAt (fun k=>P3.A k∧k≠ab∧k≠rb) W (.slice pa N pc) (vis P).reverse rs:=by rw [← HL.out];exact y1.keep (fun k hk=>HFR.out.block k (y3 k hk.1).2 hk.2.2) (fun _ h=>h)
    exact ⟨_,rs,_,rfl,y5,fun k hk=>⟨(y3 k hk.1).1,Nat.lt_of_lt_of_le (y3 k hk.1).2 HFR.out.size⟩,y4.trans (HFR.out.below (Nat.le_trans (by have:=(y3 rb);have:=y4.size;have:=HBL.out;omega) (Nat.le_refl _)) (fun k hk e=>by have:=HR.out.2.2;omega))⟩
end
section
open Go Go.RowKit Go.Shelf
theorem slice_none (w:World) (K:Int) (kv vv:Value) (n:Int) (hK:K≠9):Calls Tryz.prog 31 #[.agg #[.int .i64 K,kv,vv,.int .i64 n]] w fun e w'=>e=.returned (.pointer none)∧Below w.heap.size w w':=by
 have hb:((K:Int) != 9)=true:=by simpa using hK
 have hbl:Below w.heap.size w (w.alloc (.cells #[.int .i64 K,kv,vv,.int .i64 n] 43)):=(Below.refl _ _).alloc (Nat.le_refl _) _;have HB:=hid hbl;clear hbl;go_enter Tryz.func31,Tryz.ntmps31
 go_wp2
 go_ret
 exact ⟨rfl,HB.out⟩
def bnd (a:Option Addr) (n c:Nat):Value:=if 0 < n then .slice a n c else .slice none 0 0
set_option maxHeartbeats 4000000 in
theorem slice_rng (w:World) (ka va:Option Addr) (kn kc vn vc:Nat) (n:Int):Calls Tryz.prog 31 #[.agg #[.int .i64 9,.slice ka kn kc,.slice va vn vc,.int .i64 n]] w fun e w'=>∃ q,e=.returned (.pointer (some ⟨q,0,none⟩))∧w.heap.size≤q∧Blk w' q #[bnd ka kn kc,bnd va vn vc] 179∧Below w.heap.size w w':=by
 obtain ⟨w1,hw1⟩:∃ w1,w1=(w.alloc (.cells #[.int .i64 9,.slice ka kn kc,.slice va vn vc,.int .i64 n] 43)).alloc (.cells #[.slice none 0 0,.slice none 0 0] 179):=⟨_,rfl⟩;have hs1:w1.heap.size=w.heap.size+2:=by rw [hw1];simp
 have hb1:Below w.heap.size w w1:=by rw [hw1];exact ((Below.refl _ _).alloc (Nat.le_refl _) _).alloc (by simp) _
 have hB1:Blk w1 (w.heap.size+1) #[.slice none 0 0,.slice none 0 0] 179:=by
  rw [hw1];have:=Blk.new (w.alloc (.cells #[.int .i64 9,.slice ka kn kc,.slice va vn vc,.int .i64 n] 43)) #[.slice none 0 0,.slice none 0 0] 179;simpa using this
 have hO1:Blk w1 w.heap.size #[.int .i64 9,.slice ka kn kc,.slice va vn vc,.int .i64 n] 43:=by
  rw [hw1];exact (Blk.new w _ _).alloc _
 have h0:=hB1.cell (k:=0) rfl;have h1:=hB1.cell (k:=1) rfl;have f0:=hB1.free 0;have f1:=hB1.free 1;have o1:=hO1.cell (k:=1) rfl;have o2:=hO1.cell (k:=2) rfl;have hl:=hO1.lt;have hl1:=hB1.lt;have HB1:=hid hb1;have HBL:=hid hB1;clear hb1 hB1 hO1;go_enter Tryz.func31,Tryz.ntmps31
 go_upto_region 4 with fail
 rw [← hw1];clear hw1;by_cases hk:0 < kn <;> by_cases hv:0 < vn
 ·have HF:Hid (Blk ((w1.setCell ⟨w.heap.size+1,0,none⟩ (.slice ka kn kc)).setCell ⟨w.heap.size+1,1,none⟩ (.slice va vn vc)) (w.heap.size+1) #[bnd ka kn kc,bnd va vn vc] 179∧Below w.heap.size w ((w1.setCell ⟨w.heap.size+1,0,none⟩ (.slice ka kn kc)).setCell ⟨w.heap.size+1,1,none⟩ (.slice va vn vc))):=hid ⟨by
   have:=((HBL.out.set 0 (.slice ka kn kc)).set 1 (.slice va vn vc));unfold bnd;rw [if_pos hk,if_pos hv];simpa using this,((HB1.out.setCell (p:=⟨w.heap.size+1,0,none⟩) (by simp) _).setCell (p:=⟨w.heap.size+1,1,none⟩) (by simp) _)⟩
  have HS:=hid hs1;clear hs1;go_wp2
  go_ret
  exact ⟨_,rfl,by omega,HF.out⟩
 ·have HF:Hid (Blk (w1.setCell ⟨w.heap.size+1,0,none⟩ (.slice ka kn kc)) (w.heap.size+1) #[bnd ka kn kc,bnd va vn vc] 179∧Below w.heap.size w (w1.setCell ⟨w.heap.size+1,0,none⟩ (.slice ka kn kc))):=hid ⟨by
   have:=(HBL.out.set 0 (.slice ka kn kc));unfold bnd;rw [if_pos hk,if_neg hv];simpa using this,(HB1.out.setCell (p:=⟨w.heap.size+1,0,none⟩) (by simp) _)⟩
  have HS:=hid hs1;clear hs1;go_wp2
  go_ret
  exact ⟨_,rfl,by omega,HF.out⟩
 ·have HF:Hid (Blk (w1.setCell ⟨w.heap.size+1,1,none⟩ (.slice va vn vc)) (w.heap.size+1) #[bnd ka kn kc,bnd va vn vc] 179∧Below w.heap.size w (w1.setCell ⟨w.heap.size+1,1,none⟩ (.slice va vn vc))):=hid ⟨by
   have:=(HBL.out.set 1 (.slice va vn vc));unfold bnd;rw [if_neg hk,if_pos hv];simpa using this,(HB1.out.setCell (p:=⟨w.heap.size+1,1,none⟩) (by simp) _)⟩
  have HS:=hid hs1;clear hs1;go_wp2
  go_ret
  exact ⟨_,rfl,by omega,HF.out⟩
 ·have HF:Hid (Blk w1 (w.heap.size+1) #[bnd ka kn kc,bnd va vn vc] 179∧Below w.heap.size w w1):=hid ⟨by
   have:=HBL.out;unfold bnd;rw [if_neg hk,if_neg hv];simpa using this,HB1.out⟩
  have HS:=hid hs1;clear hs1;go_wp2
  go_ret
  exact ⟨_,rfl,by omega,HF.out⟩
end
section
open Go Go.RowKit Go.Shelf
def cmove (N sk:Nat) (c:UInt8) (cur:Nat):Nat:=if c.toNat % 5=0 then 1 else if c.toNat % 5=1 then N else if c.toNat % 5=2 then min (cur+1) (N+1) else if c.toNat % 5=3 then cur - 1 else sk+1
def cAt (N sk c0:Nat) (l:Bs) (k:Nat):Nat:=(l.take k).foldl (fun x c=>cmove N sk c x) c0
theorem cAt_succ {N sk c0:Nat} {l:Bs} {k:Nat} {c:UInt8} (h:l[k]?=some c):cAt N sk c0 l (k+1)=cmove N sk c (cAt N sk c0 l k):=by
 unfold cAt;rw [List.take_add_one,h];simp [List.foldl_append]
def sFl (N x:Nat):Bool:=decide (1≤x∧x≤N)
def sPr (V:List KV) (x:Nat):KV:=if 1≤x∧x≤V.length then (V[x - 1]?).getD ([],[]) else ([],[])
def sFls (N sk c0:Nat) (l:Bs) (k:Nat):List Bool:=(List.range k).map fun i=>sFl N (cAt N sk c0 l (i+1))
def sPrs (V:List KV) (sk c0:Nat) (l:Bs) (k:Nat):List KV:=(List.range k).map fun i=>sPr V (cAt V.length sk c0 l (i+1))
theorem sFls_succ (N sk c0:Nat) (l:Bs) (k:Nat):sFls N sk c0 l (k+1)=sFls N sk c0 l k++[sFl N (cAt N sk c0 l (k+1))]:=by simp [sFls,List.range_succ]
theorem sPrs_succ (V:List KV) (sk c0:Nat) (l:Bs) (k:Nat):sPrs V sk c0 l (k+1)=sPrs V sk c0 l k++[sPr V (cAt V.length sk c0 l (k+1))]:=by simp [sPrs,List.range_succ]
theorem sFls_len (N sk c0:Nat) (l:Bs) (k:Nat):(sFls N sk c0 l k).length=k:=by simp [sFls]
theorem sPrs_len (V:List KV) (sk c0:Nat) (l:Bs) (k:Nat):(sPrs V sk c0 l k).length=k:=by simp [sPrs]
def bools (l:List Bool):List Value:=l.map Value.bool
theorem un69:Tryz.prog.underlying 69=some (.slice 4):=by kernel_rfl
theorem info4:(Tryz.prog.info? 4).map (fun i=>(i.zero,i.size,i.bytes))=some (some (.bool false),1,1):=by kernel_rfl
def ScSt (P0:IP) (w0:World) (cur:Nat) (l:List KV) (fs:List Bool) (pv fv:Value) (w:World):Prop :=
 ∃ P rs,P.like P0∧II P w cur∧PairsAt (fun k=>P.A k∧¬ P0.A k∧fv.ownBlock≠some k) w pv l rs∧w.ownsRow 0 4 1 fv fs.length (bools fs)∧(∀ g,fv.ownBlock=some g→P.A g∧¬ P0.A g)∧Below P0.base w0 w∧∀ k,P0.A k→P.A k∧w.heap[k]?=w0.heap[k]?
section
variable {P0:IP} {w0 w w':World} {cur cur':Nat} {l:List KV} {fs:List Bool} {pv fv:Value}
theorem ScSt.to (h:ScSt P0 w0 cur l fs pv fv w) {f:Nat} {args:Array Value} (hc:∀ P,P.like P0→II P w cur→Calls Tryz.prog f args w fun e w'=>(∃ b,e=.returned (.bool b))∧II P w' cur'∧Below P.base w w') :
  Calls Tryz.prog f args w fun e w'=>(∃ b,e=.returned (.bool b))∧ScSt P0 w0 cur' l fs pv fv w':=by
 obtain ⟨P,rs,h1,h2,h3,h4,h5,h6,h7'⟩:=h;refine (hc P h1 h2).mono ?_;rintro e w' ⟨hb,h7,h8⟩;have hk:∀ k,P.A k→w'.heap[k]?=w.heap[k]?:=fun k hk=>(h7.am k hk).trans (h2.am k hk).symm
 exact ⟨hb,P,rs,h1,h7,h3.keep (fun k h=>hk k h.1) (fun _ h=>h),own_same h4 (fun g e=>hk g (h5 g e).1),h5,h6.trans (by rw [h1.base] at h8;exact h8),fun k e=>⟨(h7' k e).1,(hk k (h7' k e).1).trans (h7' k e).2⟩⟩
theorem ScSt.first (h:ScSt P0 w0 cur l fs pv fv w) (hg:P0.gets):Calls Tryz.prog 210 #[.pointer (some ⟨P0.it,0,none⟩)] w fun e w'=>(∃ b,e=.returned (.bool b))∧ScSt P0 w0 1 l fs pv fv w' :=
 h.to fun P hl h2=>by
  rw [← hl.it];exact (II.first (gets_like hl hg) h2).mono fun _ _ ⟨h1,h2⟩=>⟨⟨_,h1⟩,h2⟩
theorem ScSt.last (h:ScSt P0 w0 cur l fs pv fv w) (hg:P0.gets) (hw:P0.whole):Calls Tryz.prog 212 #[.pointer (some ⟨P0.it,0,none⟩)] w fun e w'=>(∃ b,e=.returned (.bool b))∧ScSt P0 w0 (vis P0).length l fs pv fv w' :=
 h.to fun P hl h2=>by
  rw [← hl.it,← vis_like hl];exact (II.last (gets_like hl hg) (by unfold IP.whole;rw [hl.R];exact hw) h2).mono fun _ _ ⟨h1,h2⟩=>⟨⟨_,h1⟩,h2⟩
theorem ScSt.next (h:ScSt P0 w0 cur l fs pv fv w) (hg:P0.gets):Calls Tryz.prog 213 #[.pointer (some ⟨P0.it,0,none⟩)] w fun e w'=>(∃ b,e=.returned (.bool b))∧ScSt P0 w0 (min (cur+1) ((vis P0).length+1)) l fs pv fv w' :=
 h.to fun P hl h2=>by
  rw [← hl.it,← vis_like hl];exact (II.next (gets_like hl hg) h2).mono fun _ _ ⟨h1,h2⟩=>⟨⟨_,h1⟩,h2⟩
theorem ScSt.prev (h:ScSt P0 w0 cur l fs pv fv w) (hg:P0.gets) (hw:P0.whole):Calls Tryz.prog 214 #[.pointer (some ⟨P0.it,0,none⟩)] w fun e w'=>(∃ b,e=.returned (.bool b))∧ScSt P0 w0 (cur - 1) l fs pv fv w' :=
 h.to fun P hl h2=>by
  rw [← hl.it];exact (II.prev (gets_like hl hg) (by unfold IP.whole;rw [hl.R];exact hw) h2).mono fun _ _ ⟨h1,h2⟩=>⟨⟨_,h1⟩,h2⟩
theorem ScSt.seek (h:ScSt P0 w0 cur l fs pv fv w) (hg:P0.gets) (hR:P0.R=wholeIR P0.T) {ka:Option Addr} {kn kc:Nat} {tk:Bs} (hk:Key P0.base w0 ka kn kc tk):Calls Tryz.prog 216 #[.pointer (some ⟨P0.it,0,none⟩),.slice ka kn kc] w fun e w'=>(∃ b,e=.returned (.bool b))∧ScSt P0 w0 (sidx P0.T.l tk+1) l fs pv fv w':=by
 obtain ⟨_,_,_,_,_,_,_,h6,_⟩:=id h;exact h.to fun P hl h2=>by
  rw [← hl.it,← hl.T];exact II.seek (gets_like hl hg) (by rw [hl.R,hl.T];exact hR) h2 (by rw [hl.base];exact hk.below h6)
theorem ScSt.valid (h:ScSt P0 w0 cur l fs pv fv w):Calls Tryz.prog 217 #[.pointer (some ⟨P0.it,0,none⟩)] w fun e w'=>e=.returned (.bool (sFl (vis P0).length cur))∧w'=w:=by
 obtain ⟨P,rs,h1,h2,_⟩:=h;rw [← h1.it,← vis_like h1];exact h2.valid
theorem ScSt.flag (h:ScSt P0 w0 cur l fs pv fv w) (b:Bool):(w.alloc (.cells #[.bool b] 4)).ownsRow 0 4 1 fv fs.length (bools fs)∧∀ v8 w8,w8.ownsRow 0 4 1 v8 (fs.length+1) (bools fs++[.bool b])→(w.alloc (.cells #[.bool b] 4)).grownBy w8 fv.ownBlock→Lies (w.alloc (.cells #[.bool b] 4)) fv v8→ScSt P0 w0 cur l (fs++[b]) pv v8 w8:=by
 obtain ⟨P,rs,h1,h2,h3,h4,h5,h6,h7⟩:=h;have hb3:Below w.heap.size w (w.alloc (.cells #[.bool b] 4)):=(Below.refl _ _).alloc (Nat.le_refl _) _;have hs3:(w.alloc (.cells #[.bool b] 4)).heap.size=w.heap.size+1:=by simp
 refine ⟨own_same h4 (fun g e=>hb3.block g (own_lt h4 e)),fun v8 w8 g1 g2 g3=>?_⟩;have hs8:=g2.size;have hfr8:Fr P.A w w8:=(Fr.of_below (S:=P.A) hb3).grown g2 (fun k hk _=>(h5 k hk).1);have hv8:∀ g,v8.ownBlock=some g→fv.ownBlock=some g∨g=w.heap.size+1:=fun g hg=>by
  rcases g3 with e | e
  ·exact .inl (e.symm.trans hg)
  ·rw [hg] at e;exact .inr (by simpa using e)
 refine ⟨P.grown w w8,rs,h1.grown w w8,h2.turn hfr8,h3.keep (fun k hk=>?_) (fun k hk=>⟨.inl hk.1,hk.2.1,fun e=>?_⟩),by rw [List.length_append];simpa [bools] using g1,fun g hg=>?_,h6.trans (hfr8.below (by rw [← h1.base];exact h2.ab.1) (fun k hk e=>by have:=(h2.ab.2 k e).1;rw [h1.base] at this;omega)),fun k hk=>⟨.inl (h7 k hk).1,?_⟩⟩
 ·have hlt:=(h2.ab.2 k hk.1).2;exact (g2.block k (by omega) (fun e=>hk.2.2 e.symm)).trans (hb3.block k hlt)
 ·have hlt:=(h2.ab.2 k hk.1).2;rcases hv8 k e with e | e
  ·exact hk.2.2 e
  ·omega
 ·have hlt:=own_lt g1 hg;rcases hv8 g hg with e | e
  ·exact ⟨.inl (h5 g e).1,(h5 g e).2⟩
  ·exact ⟨.inr ⟨by omega,hlt⟩,fun e'=>by have:=(h2.ab.2 g (h7 g e').1).2;omega⟩
 ·have hlt:=(h2.ab.2 k (h7 k hk).1).2;exact ((g2.block k (by omega) (fun e=>(h5 k e.symm).2 hk)).trans (hb3.block k hlt)).trans (h7 k hk).2
theorem ScSt.pairs (h:ScSt P0 w0 cur l fs pv fv w) {w2:World} {x y:Value} {ev:KV} (hb2:Below w.heap.size w w2) (hpv:PrV (fun g=>w.heap.size≤g∧g < w2.heap.size) w2 (x,y) ev):∃ rs:List (Value × Value),(w2.alloc (.cells #[x,y] 40)).ownsRow 0 40 2 pv l.length (rs.flatMap fun r=>[r.1,r.2]) ∧
  ∀ v8 w8,w8.ownsRow 0 40 2 v8 (l.length+1) ((rs.flatMap fun r=>[r.1,r.2])++[x,y])→(w2.alloc (.cells #[x,y] 40)).grownBy w8 pv.ownBlock→Lies (w2.alloc (.cells #[x,y] 40)) pv v8→ScSt P0 w0 cur (l++[ev]) fs v8 fv w8:=by
 obtain ⟨P,rs,h1,h2,h3,h4,h5,h6,h7⟩:=h;have hb23:Below w2.heap.size w2 (w2.alloc (.cells #[x,y] 40)):=(Below.refl _ _).alloc (Nat.le_refl _) _;have hs3:(w2.alloc (.cells #[x,y] 40)).heap.size=w2.heap.size+1:=by simp
 have hs2:=hb2.size;generalize (w2.alloc (.cells #[x,y] 40))=w3 at *;have hb3:Below w.heap.size w w3:=hb2.trans (hb23.mono hs2);have hA:∀ k,P.A k→P.base≤k∧k < w.heap.size:=h2.ab.2;have hown3:=own_same h3.own (fun g hg=>hb3.block g (hA g (h3.vb g hg).1).2);refine ⟨rs,hown3,fun v8 w8 g1 g2 g3=>?_⟩;have hs8:=g2.size;have hfr8:Fr P.A w w8:=(Fr.of_below (S:=P.A) hb3).grown g2 (fun k hk _=>(h3.vb k hk).1)
 have hfl:∀ g,fv.ownBlock=some g→w8.heap[g]?=w.heap[g]?:=fun g hg=>by
  have hlt:=own_lt h4 hg;exact (g2.block g (by omega) (fun e=>(h3.vb g e.symm).2.2 hg)).trans (hb3.block g hlt)
 have hv8:∀ g,v8.ownBlock=some g→(P.grown w w8).A g∧¬ P0.A g∧fv.ownBlock≠some g:=fun g hg=>by
  have hlt:=own_lt g1 hg;rcases g3 with e | e
  ·have h':=h3.vb g (e.symm.trans hg);exact ⟨.inl h'.1,h'.2⟩
  ·rw [hg] at e;have h':g=w3.heap.size:=by simpa using e
   exact ⟨.inr ⟨by omega,hlt⟩,fun e'=>by have:=(hA g (h7 g e').1).2;omega,fun e=>by have:=own_lt h4 e;omega⟩
 have hp3:PairsAt (fun k=>grow P.A w w3 k∧¬ P0.A k∧fv.ownBlock≠some k) w3 pv l rs:=h3.keep (fun k hk=>hb3.block k (hA k hk.1).2) (fun k hk=>⟨.inl hk.1,hk.2⟩);have hpv3:PrV (fun k=>grow P.A w w3 k∧¬ P0.A k∧fv.ownBlock≠some k) w3 (x,y) ev:=hpv.keep (fun g hg=>by
  obtain ⟨_,_,_,_,_,_,_,_,q⟩:=id hpv;exact hb23.block g (q g hg).2) (fun k hk=>⟨.inr ⟨hk.1,by omega⟩,fun e'=>by have:=(hA k (h7 k e').1).2;omega,fun e=>by have:=own_lt h4 e;omega⟩)
 refine ⟨P.grown w w8,_,h1.grown w w8,h2.turn hfr8,hp3.app hpv3 (fun k hk=>⟨hk.1.imp id (fun e=>⟨e.1,by omega⟩),hk.2⟩) (fun k hk=>hk.1.elim (fun e=>by have:=(hA k e).2;omega) (fun e=>e.2)) g2 g1 hv8,own_same h4 hfl,fun g hg=>⟨.inl (h5 g hg).1,(h5 g hg).2⟩,h6.trans (hfr8.below (by rw [← h1.base];exact h2.ab.1) (fun k hk e=>by have:=(hA k e).1;rw [h1.base] at this;omega)),fun k hk=>⟨.inl (h7 k hk).1,((g2.block k (by have:=(hA k (h7 k hk).1).2;omega) (fun e=>(h3.vb k e.symm).2.1 hk)).trans (hb3.block k (hA k (h7 k hk).1).2)).trans (h7 k hk).2⟩⟩
theorem ScSt.pair (h:ScSt P0 w0 cur l fs pv fv w) (hc:sFl (vis P0).length cur=true) (hle:∀ e∈vis P0,e.1.length≤4294967295∧e.2.length≤4294967295) :
  Calls Tryz.prog 69 #[.iface 249 (.pointer (some ⟨P0.it,0,none⟩))] w fun e w'=>∃ ka kc va vc,∃ ev:KV,e=.returned (.agg #[.slice ka ev.1.length kc,.slice va ev.2.length vc])∧ev=sPr (vis P0) cur∧Below w.heap.size w w'∧PrV (fun g=>w.heap.size≤g∧g < w'.heap.size) w' (.slice ka ev.1.length kc,.slice va ev.2.length vc) ev:=by
 obtain ⟨P,rs,h1,h2,_⟩:=h;have hc':1≤cur∧cur≤(vis P0).length:=by simpa [sFl] using hc
 rw [← h1.it];refine (pair_any h2 hc'.1 (by rw [vis_like h1];exact hc'.2) (by rw [vis_like h1];exact hle)).mono ?_;rintro e w' ⟨ev,ka,kc,va,vc,g1,g2,g3,g4⟩;rw [vis_like h1] at g1;exact ⟨ka,kc,va,vc,ev,g2,by unfold sPr;rw [if_pos hc',g1];rfl,g4,ka,kc,va,vc,rfl,rfl,g3.k,g3.v,fun g hg=>hg.elim (g3.kb g) (g3.vb g)⟩
end
theorem prv_nil (S:Nat→Prop) (w:World):PrV S w (.slice none 0 0,.slice none 0 0) ([],[]):=⟨none,0,none,0,rfl,rfl,World.ownsRow_nil w 0 5 1,World.ownsRow_nil w 0 5 1,fun g h=>by rcases h with h | h <;> cases h⟩
theorem ScSt.start {P:IP} {w:World} {cur:Nat} (h:II P w cur):ScSt P w cur [] [] (.slice none 0 0) (.slice none 0 0) w:=⟨P,[],IP.like.refl P,h,PairsAt.nil _ _,World.ownsRow_nil w 0 4 1,fun g e=>(nomatch e),Below.refl _ _,fun k hk=>⟨hk,rfl⟩⟩
end
end Go.Proofs.YtmkdpjicgjhhjaaGreatDoor
