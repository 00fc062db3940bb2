/- Part 34 of the proof of FnTableComesBack: contracts and lemmas, each under the conditions that it states. Texts: BRelD, ROff, RIt, RFil. -/
import Derived.Test.YtmkdpjicgjhhjaaGreatDoorC29
import Derived.Test.YtmkdpjicgjhhjaaGreatDoorC33
namespace Go.Proofs.YtmkdpjicgjhhjaaGreatDoor
open Go.Lib (hid)
set_option maxRecDepth 100000
set_option linter.all false
section
open Go Go.RowKit Go.Shelf
theorem noopD_any (w:World):CallsD Tryz.prog 208 #[.agg #[]] .returning w fun e u' w'=>u'=.returning∧(e=.returned (.tuple #[])∧Below w.heap.size w w'):=by
 go_enter_d Tryz.func208,Tryz.ntmps208
 go_wp2
 go_end0
 exact ⟨rfl,(Below.refl _ _).alloc (Nat.le_refl _) _⟩
theorem blkRelD_any (w:World) (p q off len:Nat) (D:Bs) (nr ro:Nat) (h:Rb w p q off len D nr ro):CallsD Tryz.prog 66 #[.pointer (some ⟨p,0,none⟩)] .returning w fun e u' w'=>u'=.returning∧(e=.returned (.tuple #[])∧Fr (fun k=>k=p) w w'):=by
 have hz0:w.cell? ⟨p,0,none⟩=some (.pointer none):=h.blk.cell (k:=0) rfl;have hz3:w.cell? ⟨p,3,none⟩=some (.slice (some ⟨q,0,none⟩) D.length (D.length+5)):=h.blk.cell (k:=3) rfl;have hf0:=h.blk.free 0;have hf3:=h.blk.free 3;have hF:∀ k x y,Fr (fun k=>k=p) w ((((w.drewN k).setCell ⟨p,0,none⟩ x).setCell ⟨p,3,none⟩ y)):=fun k x y=>(((Fr.refl (fun k=>k=p) w).drewN k).setC p 0 x rfl).setC p 3 y rfl
 have HF:=hid hF;clear h hF;generalize D.length=L at *;go_enter_d Tryz.func66,Tryz.ntmps66
 go_upto_region 0 with fail
 refine wp_tail 8 (by kernel_rfl) ?_;simp only [List.take_succ_cons,List.take_zero,List.drop_succ_cons,List.drop_zero];repeat still_step
 refine wpStill_nil ?_;go_wp2_with fail
 refine (bpput_any _ _).mono ?_;rintro e w2 ⟨rfl,rfl⟩;dsimp only;go_wp2
 go_end0
 exact ⟨rfl,HF.out 1 _ _⟩
set_option maxHeartbeats 4000000 in
theorem BC.releaseD {w:World} {g:Nat} {S:Nat→Prop} {c:IC} {d:DBk} {lo hi st cur:Nat} (h:BC w g S c d lo hi st cur) (hx:c.x2=.nilIface) :
  CallsD Tryz.prog 65 #[.pointer (some ⟨g,0,none⟩)] .returning w fun e u' w'=>u'=.returning∧(e=.returned (.tuple #[])∧Fr (fun k=>k=g) w w'):=by
 obtain ⟨s,O,key,nodes,pk,h1,h2,h3,h4,h5,h6⟩:=h;have hdm:((s.dir:Int) == -1)=false:=by rw [beq_eq_false_iff_ne];omega
 have hz11:=h1.dirCell;have hz0:w.cell? ⟨g,0,none⟩=some (.pointer (some ⟨c.tr,0,none⟩)):=h1.blk.cell (k:=0) rfl;have hz1:w.cell? ⟨g,1,none⟩=some (.pointer (some ⟨c.p,0,none⟩)):=h1.blk.cell (k:=1) rfl;have hz2:w.cell? ⟨g,2,none⟩=some c.x2:=h1.blk.cell (k:=2) rfl;have hz3:w.cell? ⟨g,3,none⟩=some .nilIface:=h1.blk.cell (k:=3) rfl;have hz4:w.cell? ⟨g,4,none⟩=some s.kv:=h1.blk.cell (k:=4) rfl;have hz5:w.cell? ⟨g,5,none⟩=some s.vv:=h1.blk.cell (k:=5) rfl
 have hz8:w.cell? ⟨g,8,none⟩=some s.nv:=h1.blk.cell (k:=8) rfl;have hz9:w.cell? ⟨g,9,none⟩=some s.pv:=h1.blk.cell (k:=9) rfl;have hf:=fun k=>h1.blk.free k
 have hf0:=hf 0;have hf1:=hf 1;have hf2:=hf 2;have hf4:=hf 4;have hf5:=hf 5;have hf8:=hf 8;have hf9:=hf 9;have hf11:=hf 11;have hF7:Fr (fun k=>k=g) w (((((((w.setCell ⟨g,0,none⟩ (.pointer none)).setCell ⟨g,1,none⟩ (.pointer none)).setCell ⟨g,8,none⟩ (.slice none 0 0)).setCell ⟨g,9,none⟩ (.slice none 0 0)).setCell ⟨g,4,none⟩ (.slice none 0 0)).setCell ⟨g,5,none⟩ (.slice none 0 0)).setCell ⟨g,11,none⟩ (.int .i64 (-1))) :=
  (((((((Fr.refl (fun k=>k=g) w).setC g 0 _ rfl).setC g 1 _ rfl).setC g 8 _ rfl).setC g 9 _ rfl).setC g 4 _ rfl).setC g 5 _ rfl).setC g 11 _ rfl
 have HF7:=hid hF7;rw [hx] at hz2;clear hf h1 h2 h3 h4 h5 h6 hF7 hx;go_enter_d Tryz.func65,Tryz.ntmps65
 go_wp2_with fail
 go_end0
 exact ⟨rfl,HF7.out⟩
end
section
open Go Go.RowKit Go.Shelf
def ixD (T:TI) (q off len:Nat) (fw:Bool):DBk:=⟨q,off,len,1,[],ients T.ri T.B T.sp,fw⟩
theorem RD.newIx {Bd:Nat} {w:World} {r:Nat} {C:RC} {T:TI} (h:RD Bd w r C T) {w1:World} {p q off len:Nat} (hE:BE w1 p q off len 1 [] (ients T.ri T.B T.sp)) (x2:Value) (hx:x2=.nilIface∨x2=.iface 246 (.agg #[])∨x2=.iface 141 (.pointer (some ⟨p,0,none⟩))) (incl fw:Bool) :
  Calls Tryz.prog 59 #[.pointer (some ⟨r,0,none⟩),.pointer (some ⟨p,0,none⟩),x2,.pointer none,.bool incl] w1 (NewTo r p x2 (ixD T q off len fw) 0 T.B.length w1):=by
 have:=newBI_to w1 r p x2 incl (ixD T q off len fw) hE hx (show (1:Nat)≤1000 by omega);rwa [show (ixD T q off len fw).es.length=T.B.length from h.ok.tab.ilen] at this
theorem RD.seekIx {Bd:Nat} {w:World} {r:Nat} {C:RC} {T:TI} (h:RD Bd w r C T) {g:Nat} {S:Nat→Prop} {c:IC} {q off len st cur:Nat} (hb:BC w g S c (ixD T q off len false) 0 T.B.length st cur) (hf:BFull c (ixD T q off len false) 0 T.B.length st) (htr:c.tr=r) (hS:∀ k,S k→Bd≤k)
  {ka:Option Addr} {kn kc:Nat} {tk:Bs} (hk:Key Bd w ka kn kc tk) :
  Calls Tryz.prog 77 #[.pointer (some ⟨g,0,none⟩),.slice ka kn kc] w fun e w'=>e=.returned (.bool (decide (sidx (ients T.ri T.B T.sp) tk < T.B.length)))∧BC w' g (grow S w w') c (ixD T q off len false) 0 T.B.length st (sidx (ients T.ri T.B T.sp) tk+1)∧Fr S w w' :=
 hb.seekW hf (by rw [htr];exact h.c 6) (fun e=>by have:=hS _ e;rw [htr] at this;have:=h.lr;omega) ka kn kc tk hk.sl (fun x p e h0 hX=>by have:=hS x hX;have:=hk.low x p e h0;omega) h.ok.tab.irising
theorem RD.handle {Bd:Nat} {w:World} {r:Nat} {C:RC} {T:TI} (h:RD Bd w r C T) {g:Nat} {S:Nat→Prop} {c:IC} {q off len st i:Nat} {w1:World} (hb:BC w1 g S c (ixD T q off len false) 0 T.B.length st (i+1)) (hi:i < T.B.length):∃ b o n c',T.B[i]?=some b∧b.off < 34359738368∧0 < n ∧
  (Calls Tryz.prog 64 #[.pointer (some ⟨g,0,none⟩)] w1 fun r w'=>r=.returned (.slice (some ⟨q,o,none⟩) n c')∧w'=w1) ∧
  (Calls Tryz.prog 56 #[.slice (some ⟨q,o,none⟩) n c'] w1 fun e w'=>e=.returned (.tuple #[.agg #[.int .u64 b.off,.int .u64 (b.bytes T.ri).length],.int .i64 n])∧Below w1.heap.size w1 w'):=by
 obtain ⟨e,o,c',he,hsv,hval⟩:=hb.value rfl hi;obtain ⟨b,hbb,_,hhd⟩:=h.ok.tab.iat he;have hbl:b.off < 34359738368∧(b.bytes T.ri).length < 34359738368:=by
  have h1:=(h.ok.tab.sealed hbb).len;have h2:=h.ok.tab.len;omega
 have hpos:=hdl_pos b.off (b.bytes T.ri).length;rw [hhd] at hsv hval;exact ⟨b,o,_,c',hbb,hbl.1,hpos,hval,decodeBH_any _ _ _ b.off (b.bytes T.ri).length [] w1 (by rw [List.append_nil];exact hsv) hbl.1 hbl.2⟩
def EndD (g p:Nat) (w w5:World):Prop:=CallsD Tryz.prog 65 #[.pointer (some ⟨g,0,none⟩)] .returning w5 fun e u' w'=>u'=.returning∧e=.returned (.tuple #[])∧Below w.heap.size w w' ∧
 CallsD Tryz.prog 66 #[.pointer (some ⟨p,0,none⟩)] .returning w' fun e u' w'=>u'=.returning∧e=.returned (.tuple #[])∧Below w.heap.size w w'
def OffTo (w:World) (e:Ending) (w':World):Prop:=∃ a:Nat,e=.returned (.tuple #[.int .i64 a,.nilIface])∧Below w.heap.size w w'
set_option maxHeartbeats 8000000 in
theorem offsetOf_any {Bd:Nat} {w:World} {r:Nat} {C:RC} {T:TI} (h:RD Bd w r C T) {ka:Option Addr} {kn kc:Nat} {tk:Bs} (hk:Key Bd w ka kn kc tk) :
  Calls Tryz.prog 32 #[.pointer (some ⟨r,0,none⟩),.slice ka kn kc] w (OffTo w):=by
 have h3:w.cell? ⟨r,3,none⟩=some .nilIface:=h.c 3;have h12:w.cell? ⟨r,12,none⟩=some (.int .u64 C.io):=h.c 12;have h13:w.cell? ⟨r,13,none⟩=some (.int .u64 C.il):=h.c 13;have hca:=h.cached C.io 1 [] (ients T.ri T.B T.sp) (by rw [h.io];exact tab_sealedIndex) (by omega) h.ok.tab.ikeys true;rw [show (bdata 1 [] (ients T.ri T.B T.sp)).length=C.il from h.il.symm] at hca;have H:=hid h;have HK:=hid hk;have hrl:=h.blk.lt
 clear h hk;go_enter_defers Tryz.func32,Tryz.ntmps32
 go_wp2_with fail
 refine hca.mono ?_;rintro e w1 ⟨p,q,rfl,hE,hp,hq,hpq,hb1⟩;have hn:=H.out.newIx hE .nilIface (.inl rfl) true false;have HE:=hid hE;have HB1:=hid hb1;have HPQ:=hid (show w.heap.size≤p∧w.heap.size≤q∧p≠q∧p < w1.heap.size∧q < w1.heap.size from ⟨hp,hq,hpq,hE.rb.blk.lt,hE.rb.qlt⟩);clear hca hE hp hq hpq hb1 h12 h13;dsimp only;go_wp2_with fail
 refine hn.mono ?_;rintro e w2 ⟨g,c,st,rfl,hbc,htr,hcp,hcx,hb2,hful⟩;have hb12:Below w.heap.size w w2:=HB1.out.trans (hb2.mono HB1.out.size);have h2:=H.out.below (hb12.mono H.out.bd);have hse:=h2.seekIx hbc (hful rfl) htr (fun k hk=>by have:=HB1.out.size;have:=H.out.bd;omega) (HK.out.below (hb12.mono H.out.bd));have hgS:w1.heap.size≤g∧g < w2.heap.size:=by
  obtain ⟨s,O,key,nodes,pk,_,_,_,q4,_⟩:=hbc;exact q4 g (.inl rfl)
 have HG:=hid hgS;have HB2:=hid hb2;have HX:=hid (show c.p=p∧c.x2=.nilIface from ⟨hcp,hcx⟩);have HB12:=hid hb12;have hs2:=hb2.size;have HS2:=hid hs2;clear hgS hn hbc htr hcp hcx hb2 hful hb12 h2 hs2;dsimp only;have hgm:w1.heap.size≤g∧g < w2.heap.size:=by have:=HG.out;exact this
 have HEND:Hid (∀ w3 cur3,BC w3 g (grow (fun k=>w1.heap.size≤k∧k < w2.heap.size) w2 w3) c (ixD T q C.io C.il false) 0 T.B.length st cur3→Fr (fun k=>w1.heap.size≤k∧k < w2.heap.size) w2 w3→Below w.heap.size w w3∧∀ w5,Below w3.heap.size w3 w5 →
   EndD g p w w5):=hid (fun w3 cur3 hbc hf=>by
  obtain ⟨p1,p2,p3,p4,p5⟩:=HPQ.out;have hsz1:=HB1.out.size;have hb3:Below w.heap.size w w3:=HB12.out.trans (hf.below (by have:=HB12.out.size;omega) (fun k hk e=>by omega));refine ⟨hb3,fun w5 hb5=>?_⟩;have hb35:Below w.heap.size w w5:=hb3.trans (hb5.mono hb3.size);have hE5:BE w5 p q C.io C.il 1 [] (ients T.ri T.B T.sp):=HE.out.keep (((hb5.block p (by have:=hf.size;have:=HS2.out;omega)).trans (hf.block p (by have:=HS2.out;omega) (by omega))).trans (HB2.out.block p p4)) (((hb5.block q (by have:=hf.size;have:=HS2.out;omega)).trans (hf.block q (by have:=HS2.out;omega) (by omega))).trans (HB2.out.block q p5))
  refine ((hbc.keep (fun k hk _=>hb5.block k hk)).releaseD HX.out.2).mono ?_;rintro e u' w6 ⟨rfl,rfl,hf6⟩;have hb6:Below w.heap.size w w6:=hb35.trans (hf6.below (by have:=hb35.size;omega) (fun k hk e=>by omega));refine ⟨rfl,rfl,hb6,?_⟩;refine (blkRelD_any _ _ _ _ _ _ _ _ (hE5.keep (hf6.block p hE5.rb.blk.lt (by omega)) (hf6.block q hE5.rb.qlt (by omega))).rb).mono ?_;rintro e u' w7 ⟨rfl,rfl,hf7⟩;exact ⟨rfl,rfl,hb6.trans (hf7.below hb6.size (fun k hk e=>by omega))⟩)
 by_cases hl:sidx (ients T.ri T.B T.sp) tk < T.B.length
 ·rw [decide_eq_true hl] at hse;go_wp2_with fail
  refine hse.mono ?_;rintro e w3 ⟨rfl,hbc3,hf3⟩;obtain ⟨b,o,n,c',hbb,hbo,hn0,hval,hdec⟩:=H.out.handle hbc3 hl;obtain ⟨hb3,hend⟩:=HEND.out w3 _ hbc3 hf3;have hnz:((n:Int) == 0)=false:=by rw [beq_eq_false_iff_ne];omega
  have HL:=hid hend;clear hse hbc3 hf3 hend hb3;dsimp only;go_wp2_with fail
  refine hval.mono ?_;rintro e w' ⟨rfl,hw'⟩;rw [hw'];clear hval hw' w';dsimp only;go_wp2_with fail
  refine hdec.mono ?_;rintro e w4 ⟨rfl,hb4⟩;have HB4:=hid hb4;have hwo:IntKind.i64.wrap (b.off:Int)=(b.off:Int):=IntWalk.i64_in _ (by omega);clear hdec hb4;dsimp only;go_wp2
  have hb5:Below w3.heap.size w3 (w4.alloc (Obj.cells #[Value.int IntKind.u64 b.off,Value.int IntKind.u64 (b.bytes T.ri).length] 114)):=HB4.out.alloc HB4.out.size _;refine leaves_cons (f:=65) (args:=#[.pointer (some ⟨g,0,none⟩)]) (by simp) (enters_of Tryz.func65 (by kernel_rfl) rfl _ _) ?_;refine (HL.out _ hb5).mono ?_;rintro e u' w8 ⟨rfl,rfl,hb8,h66⟩;refine leaves_cons (f:=66) (args:=#[.pointer (some ⟨p,0,none⟩)]) (by simp [settle]) (by kernel_rfl) ?_
  refine h66.mono ?_;rintro e u' w9 ⟨rfl,rfl,hb9⟩;refine ⟨_,results_tmp2 rfl _ _ _,?_⟩;exact ⟨b.off,rfl,hb9⟩
 ·rw [decide_eq_false hl] at hse;go_wp2_with fail
  refine hse.mono ?_;rintro e w3 ⟨rfl,hbc3,hf3⟩;have herr:=hbc3.error;obtain ⟨hb3,hend⟩:=HEND.out w3 _ hbc3 hf3;have h39:w3.cell? ⟨r,9,none⟩=some (.int .i64 C.de):=(H.out.below (hb3.mono H.out.bd)).c 9;have HL:=hid hend;clear hse hbc3 hf3 hend hb3;dsimp only;go_wp2_with fail
  refine herr.mono ?_;rintro e w' ⟨rfl,hw'⟩;rw [hw'];clear herr hw' w';dsimp only;go_wp2
  refine leaves_cons (f:=65) (args:=#[.pointer (some ⟨g,0,none⟩)]) (by simp) (enters_of Tryz.func65 (by kernel_rfl) rfl _ _) ?_;refine (HL.out _ (Below.refl _ _)).mono ?_;rintro e u' w8 ⟨rfl,rfl,hb8,h66⟩;refine leaves_cons (f:=66) (args:=#[.pointer (some ⟨p,0,none⟩)]) (by simp [settle]) (by kernel_rfl) ?_;refine h66.mono ?_;rintro e u' w9 ⟨rfl,rfl,hb9⟩;refine ⟨_,results_tmp2 rfl _ _ _,?_⟩;exact ⟨C.de,rfl,hb9⟩
end
section
open Go Go.RowKit Go.Shelf
def NewItTo (r:Nat) (C:RC) (T:TI) (sl:Option Addr) (lo hi:Nat) (fw:Bool) (w:World) (e:Ending) (w':World):Prop :=
 ∃ it ii gx c st X,e=.returned (.iface 249 (.pointer (some ⟨it,0,none⟩)))∧Below w.heap.size w w' ∧
  Blk w' it #[.nilIface,.bool false,.iface 173 (.pointer (some ⟨ii,0,none⟩)),.bool true,.nilIface,.nilIface,.nilFunc,.bool false] 251 ∧
  Blk w' ii #[.pointer (some ⟨gx,0,none⟩),.pointer (some ⟨r,0,none⟩),.pointer sl,.bool true] 175 ∧
  BC w' gx X c (ixD T C.ixq C.io C.il fw) lo hi st 0∧c.tr=r∧c.p=C.ixp∧c.x2=.iface 246 (.agg #[])∧(fw=false→BFull c (ixD T C.ixq C.io C.il fw) lo hi st) ∧
  (∀ k,X k→w.heap.size≤k∧k < w'.heap.size∧k≠it∧k≠ii)∧it≠ii∧w.heap.size≤it∧w.heap.size≤ii
theorem newIndexed_any (w:World) (ii:Nat):Calls Tryz.prog 74 #[.iface 173 (.pointer (some ⟨ii,0,none⟩)),.bool true] w fun e w'=>e=.returned (.iface 249 (.pointer (some ⟨w.heap.size,0,none⟩))) ∧
  w'=w.alloc (.cells #[.nilIface,.bool false,.iface 173 (.pointer (some ⟨ii,0,none⟩)),.bool true,.nilIface,.nilIface,.nilFunc,.bool false] 251):=by
 go_enter Tryz.func74,Tryz.ntmps74
 go_wp2
 go_ret
 exact ⟨rfl,rfl⟩
set_option maxHeartbeats 8000000 in
theorem newIt_any {Bd:Nat} {w:World} {r:Nat} {C:RC} {T:TI} (h:RD Bd w r C T) (sl:Option Addr) (lo hi:Nat) (fw:Bool)
  (hN:Calls Tryz.prog 59 #[.pointer (some ⟨r,0,none⟩),.pointer (some ⟨C.ixp,0,none⟩),.iface 246 (.agg #[]),.pointer sl,.bool true] w (NewTo r C.ixp (.iface 246 (.agg #[])) (ixD T C.ixq C.io C.il fw) lo hi w)) :
  Calls Tryz.prog 30 #[.pointer (some ⟨r,0,none⟩),.pointer sl,.pointer none] w (NewItTo r C T sl lo hi fw w):=by
 have h3:w.cell? ⟨r,3,none⟩=some .nilIface:=h.c 3;have hix:=h.index true;have hbd:=h.bd;have hrl:=h.blk.lt;have hd:=getDont_any w;have H:=hid h;clear h;go_enter Tryz.func30,Tryz.ntmps30
 go_wp2_with fail
 refine hd.mono ?_;rintro e w' ⟨rfl,hw'⟩;rw [hw'];clear hd hw' w';try dsimp only
 go_wp2_with fail
 refine hix.mono ?_;rintro e w' ⟨rfl,hw'⟩;rw [hw'];clear hix hw' w';try dsimp only
 go_wp2_with fail
 refine hN.mono ?_;rintro e w2 ⟨g,c,st,rfl,hbc,htr,hcp,hcx,hb2,hful⟩;have h2:=H.out.below (hb2.mono hbd);have hd2:=getDont_any w2;have H2:=hid h2;have hs2:=hb2.size;have HB:=hid hbc;have HX:=hid (show Below w.heap.size w w2∧c.tr=r∧c.p=C.ixp∧c.x2=.iface 246 (.agg #[])∧(fw=false→BFull c (ixD T C.ixq C.io C.il fw) lo hi st) from ⟨hb2,htr,hcp,hcx,hful⟩);clear hN hbc htr hcp hcx hb2 hful h2;try dsimp only
 go_wp2_with fail
 refine hd2.mono ?_;rintro e w' ⟨rfl,hw'⟩;rw [hw'];clear hd2 hw' w';try dsimp only
 go_upto_region 8 with fail
 obtain ⟨w3,hw3⟩:∃ w3,w3=w2.alloc (Obj.cells #[Value.pointer (some { block:=g,off:=0 }),Value.pointer (some { block:=r,off:=0 }),Value.pointer sl,Value.bool true] 175):=⟨_,rfl⟩;rw [← hw3];have hs3:w3.heap.size=w2.heap.size+1:=by rw [hw3];simp
 have hb3:Below w2.heap.size w2 w3:=by rw [hw3];exact (Below.refl _ _).alloc (Nat.le_refl _) _
 have hii:Blk w3 w2.heap.size #[Value.pointer (some { block:=g,off:=0 }),Value.pointer (some { block:=r,off:=0 }),Value.pointer sl,Value.bool true] 175:=by rw [hw3];exact Blk.new _ _ _
 have h3':=H.out.below ((HX.out.1.trans (hb3.mono hs2)).mono hbd);have h5:w3.cell? ⟨r,5,none⟩=some (.pointer (some ⟨C.o,0,none⟩)):=h3'.c 5;have hst:=h3'.strict;have hni:=newIndexed_any w3 w2.heap.size;have HB3:=hid hb3;have HII:=hid hii;have HS3:=hid hs3;clear hw3 h3' hb3 hii hs3;go_wp2_with fail
 refine hst.mono ?_;rintro e w' ⟨rfl,hw'⟩;rw [hw'];clear hst hw' w';try dsimp only
 go_wp2_with fail
 refine hni.mono ?_;rintro e w4 ⟨rfl,hw4⟩;clear hni;try dsimp only
 go_wp2
 go_ret
 obtain ⟨hb2,htr,hcp,hcx,hful⟩:=HX.out;have hb34:Below w3.heap.size w3 w4:=by rw [hw4];exact (Below.refl _ _).alloc (Nat.le_refl _) _
 have hs4:w4.heap.size=w3.heap.size+1:=by rw [hw4];simp
 have hb24:Below w2.heap.size w2 w4:=HB3.out.trans (hb34.mono (by have:=HS3.out;omega));have h1:=HS3.out;refine ⟨w3.heap.size,w2.heap.size,g,c,st,_,rfl,hb2.trans (hb24.mono hs2),by rw [hw4];exact Blk.new _ _ _,(hb34.block _ (by omega)).trans HII.out,HB.out.keep (fun k hk _=>hb24.block k hk),htr,hcp,hcx,hful,fun k hk=>⟨hk.1,?_,?_,?_⟩,by omega,by omega,hs2⟩
 ·have:=hk.2;omega
 ·have:=hk.2;omega
 ·have:=hk.2;omega
theorem newWhole_any {Bd:Nat} {w:World} {r:Nat} {C:RC} {T:TI} (h:RD Bd w r C T):Calls Tryz.prog 30 #[.pointer (some ⟨r,0,none⟩),.pointer none,.pointer none] w fun e w' =>
  ∃ P:IP,e=.returned (.iface 249 (.pointer (some ⟨P.it,0,none⟩)))∧P.base=w.heap.size∧P.T=T∧P.R=wholeIR P.T∧P.r=r∧P.C=C∧P.Bd=Bd∧P.gets∧II P w' 0∧Below w.heap.size w w':=by
 have hn:=newIt_any h none 0 T.B.length false (h.newIx h.ix (.iface 246 (.agg #[])) (.inr (.inl rfl)) true false);refine hn.mono ?_;rintro e w' ⟨it,ii,gx,c,st,X,rfl,hb,h1,h2,h3,h4,h5,h6,h7,h8,h9,h10,h11⟩;refine ⟨⟨w.heap.size,it,ii,gx,r,Bd,C,T,wholeIR T,c,ixD T C.ixq C.io C.il false,st,fun _=>True,fun _=>False,fun _=>none⟩,rfl,rfl,rfl,rfl,rfl,rfl,rfl,?_,⟨X,.inl ⟨rfl,?_⟩⟩,hb⟩
 ·intro w2 X2 i b dv hx hlo hhi hbb;have hde:(ixD T C.ixq C.io C.il false).es=ients T.ri T.B T.sp:=rfl;refine iget_any hx.rd ii gx none true hx.hii hx.bc hhi hde (fun e=>absurd rfl e) hbb false 0 _ (fun _=>⟨rfl,?_⟩) (fun e=>absurd rfl e);show ((T.B[i]?.map DB.es).getD []).length=_
  have hbb':T.B[i]?=some b:=hbb;rw [hbb'];rfl
 ·have hbd:=h.bd;exact ⟨h.below (hb.mono hbd),hbd,h1,h2,h3,rfl,rfl,h6,h4,fun _=>h7 rfl,fun e=>(h8 _ e).2.2.1 rfl,fun e=>(h8 _ e).2.2.2 rfl,h9,h10,h11,fun k hk=>⟨(h8 k hk).1,(h8 k hk).2.1⟩,by rw [h5];exact Nat.lt_of_lt_of_le h.lp hbd,Nat.lt_of_lt_of_le h.lq hbd,Nat.le_refl _,trivial,fun _ _ _ _=>trivial,fun _ e=>False.elim e,fun _ e=>False.elim e,fun _ _ e=>False.elim e,fun e=>False.elim e,fun e=>False.elim e⟩
end
section
open Go Go.RowKit Go.Shelf
theorem coffs_at {cs:List (List Nat × List UInt8)} {i:Nat} (h:i≤cs.length):(coffs cs++[(cbuf cs).length])[i]?=some (cbuf (cs.take i)).length:=by
 rcases Nat.eq_or_lt_of_le h with e | e
 ·subst e;rw [List.getElem?_append_right (by rw [coffs_length];omega),coffs_length,Nat.sub_self,List.take_length];rfl
 ·rw [List.getElem?_append_left (by rw [coffs_length];exact e)];unfold coffs;rw [List.getElem?_map,List.getElem?_range e];rfl
theorem fdata_at {cs:List (List Nat × List UInt8)} {i:Nat} (h:i≤cs.length):∃ r,(fdata (cbuf cs) (coffs cs)).drop ((cbuf cs).length+4*i)=Lib.leBytes 4 (cbuf (cs.take i)).length++r:=by
 obtain ⟨r,hr⟩:=le32s_at (coffs_at h);refine ⟨r++[11],?_⟩;unfold fdata;rw [List.append_assoc,← List.drop_drop,List.drop_left,List.drop_append_of_le_length (by rw [le32s_length,List.length_append,coffs_length];simp;omega),hr,List.append_assoc]
theorem fdata_flen (cs:List (List Nat × List UInt8)):(fdata (cbuf cs) (coffs cs)).length=(cbuf cs).length+4*(cs.length+1)+1:=by
 unfold fdata;simp only [List.length_append,le32s_length,coffs_length,List.length_singleton]
theorem cbuf_take {cs:List (List Nat × List UInt8)} {i:Nat} {c:List Nat × List UInt8} (h:cs[i]?=some c):∃ r,cbuf cs=cbuf (cs.take i)++(c.2++r)∧cbuf (cs.take (i+1))=cbuf (cs.take i)++c.2:=by
 have h1:cbuf (cs.take (i+1))=cbuf (cs.take i)++c.2:=by rw [List.take_add_one,h,cbuf_append];simp [cbuf]
 refine ⟨cbuf (cs.drop (i+1)),?_,h1⟩;have:cbuf cs=cbuf (cs.take (i+1))++cbuf (cs.drop (i+1)):=by rw [← cbuf_append,List.take_append_drop]
 rw [this,h1,List.append_assoc]
theorem na194 (n : Nat) (w : World) : (nilAhead 401 194 (Value.int .i64 n) "Contains").run Tryz.prog w = .ok (some false) w := by kernel_rfl
def FCRes (fs:FS) (off:Nat) (key:Bs) (w:World) (e:Ending) (w':World):Prop:=∃ r,e=.returned (.bool r)∧(∀ c,fs.cs[off / 2048]?=some c→bhash key∈c.1→r=true)∧Below w.heap.size w w'
set_option maxHeartbeats 8000000 in
theorem fcontains_any (w:World) (f q n off:Nat) (fd:Bs) (fs:FS) (hf:FBk w f q fd fs) (hok:fs.ok n) (hfd:fd=fdata (cbuf fs.cs) (coffs fs.cs)) (hn:n≤20) (hl:fd.length≤268435456) (hoff:off < 34359738368) (ka:Option Addr) (kn kc:Nat) (key:Bs) (hk:Sl w ka kn kc key) (hkn:kn≤4294967295) :
  Calls Tryz.prog 111 #[.pointer (some ⟨f,0,none⟩),.iface 194 (.int .i64 n),.int .u64 off,.slice ka kn kc] w (FCRes fs off key w):=by
 have hz1:w.cell? ⟨f,1,none⟩=some (.slice (some ⟨q,0,none⟩) fd.length (fd.length+5)):=hf.blk.cell (k:=1) rfl;have hz2:w.cell? ⟨f,2,none⟩=some (.int .i64 (cbuf fs.cs).length):=hf.blk.cell (k:=2) rfl;have hz3:w.cell? ⟨f,3,none⟩=some (.int .u64 11):=hf.blk.cell (k:=3) rfl;have hz4:w.cell? ⟨f,4,none⟩=some (.int .i64 fs.cs.length):=hf.blk.cell (k:=4) rfl;have hfl:=fdata_flen fs.cs;rw [← hfd] at hfl;have hdiv:off / 2048≤16777216:=by omega
 by_cases hi:off / 2048 < fs.cs.length
 ·obtain ⟨c,hc⟩:∃ c,fs.cs[off / 2048]?=some c:=⟨_,List.getElem?_eq_getElem hi⟩;obtain ⟨r0,hd0⟩:=fdata_at (cs:=fs.cs) (i:=off / 2048) (by omega);obtain ⟨r1,hd1⟩:=fdata_at (cs:=fs.cs) (i:=off / 2048+1) (by omega);obtain ⟨rr,hcb,hcb1⟩:=cbuf_take hc;have hco:=hok.1 c (List.mem_of_getElem? hc);rw [← hfd] at hd0 hd1;have hm0:(cbuf (fs.cs.take (off / 2048+1))).length=(cbuf (fs.cs.take (off / 2048))).length+c.2.length:=by rw [hcb1,List.length_append]
  have hL:(cbuf fs.cs).length=(cbuf (fs.cs.take (off / 2048))).length+c.2.length+rr.length:=by rw [hcb,List.length_append,List.length_append];omega
  have hpart:(fd.drop (cbuf (fs.cs.take (off / 2048))).length).take c.2.length=c.2:=by
   rw [hfd];unfold fdata;have hcb':=hcb;generalize cbuf (fs.cs.take (off / 2048))=A at *;rw [hcb'];simp only [List.append_assoc,List.drop_left,List.take_left]
  have HC:=hid hc;have HKK:=hid hk;rw [hm0] at hd1;clear hcb hcb1 hm0 hc hfd hok hk;have hI':(off:Int) / 2048=((off / 2048:Nat):Int):=by omega
  generalize hIe:off / 2048=I at *;generalize (cbuf (fs.cs.take I)).length=n0 at *;generalize hLe:(cbuf fs.cs).length=L at *;generalize hM:fs.cs.length=M at *;have HI:=hid hIe;have HLe:=hid hLe;clear hIe hLe hM;have hlt:(I:Int) < (M:Int):=by omega
  have hs0:=(hf.sl.cut (lo:=L+4*I) (by omega));rw [cutq _ _ _ (by omega)] at hs0;have hs1:=(hf.sl.cut (lo:=L+4*(I+1)) (by omega));rw [cutq _ _ _ (by omega)] at hs1;have hu0:=fun k=>uint32_any _ _ _ _ (w.drewN k) (hs0.drewN k) (by omega)
  have hu1:=fun (w1:World) (hb:Below w.heap.size w w1)=>uint32_any _ _ _ _ w1 (hs1.fr (S:=fun _=>False) (Fr.of_below hb) (fun _ _ h=>h)) (by omega)
  have hle0:Lib.leNat ((fd.drop (L+4*I)).take 4)=n0:=by rw [hd0,List.take_left' (leBytes_length 4 n0),leNat_leBytes 4 n0 (by show n0 < 4294967296;omega)]
  have hle1:Lib.leNat ((fd.drop (L+4*(I+1))).take 4)=n0+c.2.length:=by rw [hd1,List.take_left' (leBytes_length 4 _),leNat_leBytes 4 _ (by show _ < 4294967296;omega)]
  rw [hle0] at hu0;rw [hle1] at hu1;have hss0:∀ w',(Instr.slice 29 (.slice (some ⟨q,0,none⟩) fd.length (fd.length+5)) (some (.int .i64 ((L+4*I:Nat):Int))) none none).run Tryz.prog w'=.ok (.slice (some ⟨q,L+4*I,none⟩) (fd.length - (L+4*I)) (fd.length+5 - (L+4*I))) w':=fun w'=>by
   rw [run_slice_lo (P:=Tryz.prog) 29 5 un29 sz5 .i64 _ _ _ (L+4*I) (by omega) w',cutq _ _ _ (by omega)]
  have hss1:∀ w',(Instr.slice 29 (.slice (some ⟨q,L+4*I,none⟩) (fd.length - (L+4*I)) (fd.length+5 - (L+4*I))) (some (.int .i64 4)) none none).run Tryz.prog w'=.ok (.slice (some ⟨q,L+4*(I+1),none⟩) (fd.length - (L+4*(I+1))) (fd.length+5 - (L+4*(I+1)))) w':=fun w'=>by
   have:=run_slice_lo (P:=Tryz.prog) 29 5 un29 sz5 .i64 (some ⟨q,L+4*I,none⟩) (fd.length - (L+4*I)) (fd.length+5 - (L+4*I)) 4 (by omega) w';rw [cutA_some (by omega)] at this;rw [show L+4*(I+1)=L+4*I+4 by omega,show fd.length - (L+4*I+4)=fd.length - (L+4*I) - 4 by omega,show fd.length+5 - (L+4*I+4)=fd.length+5 - (L+4*I) - 4 by omega];exact this
  have hw1:IntKind.i64.wrap ((I:Int)*4)=((4*I:Nat):Int):=by rw [show (I:Int)*4=((4*I:Nat):Int) by omega];exact IntWalk.i64_in _ (by omega)
  have hw2:IntKind.i64.wrap ((L:Int)+((4*I:Nat):Int))=((L+4*I:Nat):Int):=by rw [show (L:Int)+((4*I:Nat):Int)=((L+4*I:Nat):Int) by omega];exact IntWalk.i64_in _ (by omega)
  have HIB:=hid (show L≤268435456∧I≤16777216 from ⟨by omega,by omega⟩);have HF:=hid hf;have HCO:=hid hco;have HP:=hid hpart;have HU1:=hid hu1;have HLL:=hid (show L=n0+c.2.length+rr.length∧fd.length=L+4*(M+1)+1 from ⟨hL,hfl⟩);have hnb:n0≤268435456:=by omega
  have hcb:c.2.length≤268435456:=by omega
  have hfdp:L+4*(I+1)+4≤fd.length:=by omega
  clear hf hs0 hs1 hle0 hle1 hd0 hd1 hco hpart hL hfl hu1;generalize L+4*(I+1)=J1 at *;generalize L+4*I=J at *;generalize 4*I=K4 at *;generalize fd.length - J1=a1 at *;generalize fd.length+5 - J1=c1 at *;generalize fd.length - J=a0 at *;generalize fd.length+5 - J=c0 at *;go_enter Tryz.func111,Tryz.ntmps111
  go_wp2_with fail
  refine wp_tail 11 (by kernel_rfl) ?_;simp only [List.take_succ_cons,List.take_zero,List.drop_succ_cons,List.drop_zero];repeat still_step
  refine wpStill_nil ?_;go_wp2_with fail
  refine (hu0 _).mono ?_;rintro e w1 ⟨rfl,hb1⟩;have hb1':Below w.heap.size w w1:=(Below.drewN' _ w 1).trans hb1;have hu1:=HU1.out _ (hb1'.trans (Below.drewN' _ w1 1));have HB1:=hid hb1';clear hu0 hb1 hb1';dsimp only;go_wp2_with fail
  refine wp_tail 3 (by kernel_rfl) ?_;simp only [List.take_succ_cons,List.take_zero,List.drop_succ_cons,List.drop_zero];repeat still_step
  refine wpStill_nil ?_;go_wp2_with fail
  refine hu1.mono ?_;rintro e w2 ⟨rfl,hb2⟩;have hb12:Below w.heap.size w w2:=(HB1.out.trans (Below.drewN' _ w1 1)).trans (hb2.mono HB1.out.size);have hfb:FBk w2 f q fd fs:=⟨(hb12.block _ HF.out.blk.lt).trans HF.out.blk,HF.out.sl.fr (S:=fun _=>False) (Fr.of_below hb12) (fun _ _ h=>h)⟩;have hy1:w2.cell? ⟨f,1,none⟩=some (.slice (some ⟨q,0,none⟩) fd.length (fd.length+5)):=hfb.blk.cell (k:=1) rfl;have hy2:w2.cell? ⟨f,2,none⟩=some (.int .i64 L):=by rw [← HLe.out];exact hfb.blk.cell (k:=2) rfl
  have HB2:=hid hb12;have HK2:=hid (HKK.out.fr (S:=fun _=>False) (Fr.of_below hb12) (fun _ _ h=>h));obtain ⟨hLL,hfl⟩:=HLL.out;have hHI:=HI.out;rcases Nat.eq_zero_or_pos c.2.length with h0 | h0
  ·have hm:((n0+c.2.length:Nat):Int)=(n0:Int):=by omega
   have hFIN:FCRes fs off key w (.returned (.bool false)) w2:=⟨false,rfl,fun c' hc' hk=>by
    rw [hHI] at hc';obtain rfl:c'=c:=Option.some.inj (hc'.symm.trans HC.out);rcases HCO.out with ⟨e1,_⟩ | ⟨_,e2⟩
    ·rw [e1] at hk;simp at hk
    ·have:=e2.len;omega,hb12⟩
   have HFIN:=hid hFIN;have hwm:wrap64 (n0:Int)=(n0:Int):=IntWalk.wrap64_in _ ⟨by omega,by omega⟩;clear hu1 hb2 hb12 hfb hLL hfl hHI;rw [hm];dsimp only;go_wp2_with fail
   go_ret
   exact HFIN.out
  ·have hFR:∀ (r:Bool) (w3:World),(bIn c.2 (c.2.length - 1) (bk n) (bhash key)→r=true)→Below w2.heap.size w2 w3→FCRes fs off key w (.returned (.bool r)) w3:=fun r w3 hr hb3=>⟨r,rfl,fun c' hc' hk=>by
    rw [hHI] at hc';obtain rfl:c'=c:=Option.some.inj (hc'.symm.trans HC.out);rcases HCO.out with ⟨e1,_⟩ | ⟨_,e2⟩
    ·rw [e1] at hk;simp at hk
    ·refine hr ?_;have h1:=e2.len;have h2:=e2.all _ hk;rw [show c'.2.length - 1=bm c'.1.length n by omega];exact h2,hb12.trans (hb3.mono hb12.size)⟩
   have hsp:=(hfb.sl.cut (lo:=n0) (by omega)).take (hi:=c.2.length) (by omega);rw [cutq _ _ _ (by omega),HP.out] at hsp;have hlast:∃ y:UInt8,c.2[c.2.length - 1]?=some y∧y.toNat=bk n:=by
    rcases HCO.out with ⟨_,e1⟩ | ⟨_,e2⟩
    ·rw [e1] at h0;simp at h0
    ·have h1:=e2.len;rw [show c.2.length - 1=bm c.1.length n by omega];exact e2.last
   have hm1:1≤c.2.length - 1:=by
    rcases HCO.out with ⟨_,e1⟩ | ⟨_,e2⟩
    ·rw [e1] at h0;simp at h0
    ·have h1:=e2.len;have h2:1≤bm c.1.length n:=by unfold bm;split <;> omega
     omega
   have hcon:=fun k=>contains_any n (some ⟨q,n0,none⟩) (c.2.length - 1) (fd.length+5 - n0) c.2 ka kn kc key (bk n) (w2.drewN k) (by rw [show c.2.length - 1+1=c.2.length by omega];exact hsp.drewN k) (HK2.out.drewN k) hkn hm1 (by omega) hlast (by have:=bk_le hn;omega)
   rw [show c.2.length - 1+1=c.2.length by omega] at hcon;have HFR:=hid hFR;have hna:=na194 n;have hle:((n0:Int) < ((n0+c.2.length:Nat):Int)):=by omega
   have hle2:(((n0+c.2.length:Nat):Int)≤(L:Int)):=by omega
   have hwm:wrap64 ((n0+c.2.length:Nat):Int)=((n0+c.2.length:Nat):Int):=IntWalk.wrap64_in _ ⟨by omega,by omega⟩;have hsl7:∀ w',(Instr.slice 29 (.slice (some ⟨q,0,none⟩) fd.length (fd.length+5)) (some (.int .i64 (n0:Int))) (some (.int .i64 ((n0+c.2.length:Nat):Int))) none).run Tryz.prog w'=.ok (.slice (some ⟨q,n0,none⟩) c.2.length (fd.length+5 - n0)) w':=fun w'=>by
    have:=run_slice_lohi (P:=Tryz.prog) 29 5 un29 sz5 .i64 .i64 (some ⟨q,0,none⟩) fd.length (fd.length+5) n0 (n0+c.2.length) (by omega) (by omega) w';rwa [cutq _ _ _ (by omega),show n0+c.2.length - n0=c.2.length by omega] at this
   clear hu1 hb2 hb12 hfb hLL hfl hHI hFR hsp hlast hm1;generalize n0+c.2.length=M0 at *;generalize fd.length+5 - n0=CC at *;dsimp only;go_wp2_with fail
   refine wp_tail 12 (by kernel_rfl) ?_;simp only [List.take_succ_cons,List.take_zero,List.drop_succ_cons,List.drop_zero];repeat still_step
   refine wpStill_nil ?_;go_wp2_with fail
   refine (hcon _).mono ?_;rintro e w3 ⟨r,rfl,hr,hb3⟩;have HF3:=hid (HFR.out r w3 hr (⟨hb3.os,hb3.tape,hb3.output,hb3.size,fun k hk=>hb3.block k hk⟩));clear hcon hr hb3;dsimp only;go_wp2
   go_ret
   exact HF3.out
 ·have hnn:fs.cs[off / 2048]?=none:=List.getElem?_eq_none (by omega);have hlt:¬ (((off / 2048:Nat):Int) < (fs.cs.length:Int)):=by omega
  clear hf hk hok;generalize hI:off / 2048=I at *;have HNN:=hid hnn;have HI:=hid hI;clear hnn;generalize fs.cs.length=M at *;go_enter Tryz.func111,Tryz.ntmps111
  go_wp2_with fail
  go_ret
  exact ⟨_,rfl,fun _ _ _=>rfl,Below.refl _ _⟩
end
end Go.Proofs.YtmkdpjicgjhhjaaGreatDoor
