/- Part 35 of the proof of FnTableComesBack: contracts and lemmas, each under the conditions that it states. Texts: RFind. -/
import Derived.Test.YtmkdpjicgjhhjaaGreatDoorC34
namespace Go.Proofs.YtmkdpjicgjhhjaaGreatDoor
open Go.Lib (hid)
set_option maxRecDepth 100000
set_option linter.all false
section
open Go Go.RowKit Go.Shelf
def EndN (g:Nat) (w:World):Prop:=CallsD Tryz.prog 65 #[.pointer (some ⟨g,0,none⟩)] .returning w fun e u' w'=>u'=.returning∧e=.returned (.tuple #[])∧Fr (fun k=>k=g) w w' ∧
 CallsD Tryz.prog 208 #[.agg #[]] .returning w' fun e u' w''=>u'=.returning∧e=.returned (.tuple #[])∧Below w'.heap.size w' w''
theorem endN_any {w:World} {g:Nat} {S:Nat→Prop} {c:IC} {d:DBk} {lo hi st cur:Nat} (h:BC w g S c d lo hi st cur) (hx:c.x2=.nilIface):EndN g w:=by
 refine (h.releaseD hx).mono ?_;rintro e u' w' ⟨h1,h2,h3⟩;exact ⟨h1,h2,h3,noopD_any w'⟩
def FindTo (T:TI) (tk:Bs) (filtered noVal:Bool) (w:World) (e:Ending) (w':World):Prop :=
 ∃ rk rv err,e=.returned (.tuple #[rk,rv,err])∧Below w.heap.size w w' ∧
  ((∃ ev,T.l[sidx T.l tk]?=some ev∧err=.nilIface∧(∃ a n c,rk=.slice a n c∧Sl w' a n c ev.1)∧(noVal=false→∃ a n c,rv=.slice a n c∧Sl w' a n c ev.2)) ∨
   (∃ s,err=.iface 164 (.string s)∧(sidx T.l tk=T.l.length∨(filtered=true∧∀ ev,T.l[sidx T.l tk]?=some ev→ev.1≠tk))))
theorem FindTo.none {T:TI} {tk:Bs} {filtered noVal:Bool} {w w8 w9 wx:World} {g:Nat} {rk rv:Value} {s:ByteArray} (hb:Below w.heap.size w wx) (hg:w.heap.size≤g) (hf:Fr (fun k=>k=g) wx w8) (h9:Below w8.heap.size w8 w9) (hn:sidx T.l tk=T.l.length∨(filtered=true∧∀ ev,T.l[sidx T.l tk]?=some ev→ev.1≠tk)) :
  FindTo T tk filtered noVal w (.returned (.tuple #[rk,rv,.iface 164 (.string s)])) w9:=by
 have h8:Below w.heap.size w w8:=hb.trans (hf.below hb.size (fun k hk e=>by omega));exact ⟨_,_,_,rfl,h8.trans (h9.mono h8.size),.inr ⟨s,rfl,hn⟩⟩
theorem RD.filt {Bd:Nat} {w:World} {r:Nat} {C:RC} {T:TI} (h:RD Bd w r C T) (x:Bool) {f:Nat} (hf:C.fb=.pointer (some ⟨f,0,none⟩)):Calls Tryz.prog 110 #[.pointer (some ⟨r,0,none⟩),.bool x] w fun e w'=>e=.returned (.tuple #[.pointer (some ⟨f,0,none⟩),.iface 246 (.agg #[]),.nilIface])∧w'=w:=by
 have h17:w.cell? ⟨r,17,none⟩=some (.pointer (some ⟨f,0,none⟩)):=by rw [← hf];exact h.c 17
 clear h;go_enter Tryz.func110,Tryz.ntmps110
 go_wp2
 go_returns
 exact ⟨rfl,rfl⟩
theorem leaves_eq {fn:Func} {t1 t2:Array Value} {R:Ending→World→Prop} (he:∀ w,(results fn t1).run Tryz.prog w=(results fn t2).run Tryz.prog w):∀ (ds:List Deferred) (u:FrameMode) (w:World),Leaves Tryz.prog fn t1 R ds u w→Leaves Tryz.prog fn t2 R ds u w
 | [],.returning,w,h=>by
  obtain ⟨v,h1,h2⟩:=h;exact ⟨v,by rw [← he];exact h1,h2⟩
 | [],.panicking c,w,h=>h
 | [],.run,w,h=>h
 | d :: ds,u,w,h=>by
  obtain ⟨h1,fv,cap,f,args,h2,h3,h4⟩:=h;refine ⟨h1,fv,cap,f,args,h2,h3,h4.mono ?_⟩;intro e u' w' hh;cases e with
  | returned v=>exact leaves_eq he ds _ _ hh
  | panicked c=>exact leaves_eq he ds _ _ hh
  | outgrown=>exact hh
theorem leaves_put {R:Ending→World→Prop} {a:Act} {w:World} {c:List PanicEntry} (d:Nat) (v:Value) (hd:d≠10∧d≠11∧d≠12) (h:bodyPostD Tryz.prog Tryz.f68 R (.panic c) (a.put (some d) v) w):bodyPostD Tryz.prog Tryz.f68 R (.panic c) a w:=by
 refine leaves_eq (fun w=>?_) a.defers _ w h;rw [results_tmp3 (t:=10) (u:=11) (v:=12) rfl,results_tmp3 (t:=10) (u:=11) (v:=12) rfl];have hg:∀ k,k≠d→(a.put (some d) v).tmps.getD k undef=a.tmps.getD k undef:=fun k hk=>by
  simp only [Act.put,Array.getD_eq_getD_getElem?];rw [Array.getElem?_setIfInBounds_ne (by omega)]
 rw [hg 10 (by omega),hg 11 (by omega),hg 12 (by omega)]
theorem berr_cell {w:World} {g:Nat} (h:w.cell? ⟨g,17,none⟩=some .nilIface):Calls Tryz.prog 79 #[.pointer (some ⟨g,0,none⟩)] w fun e w'=>e=.returned .nilIface∧w'=w:=by
 go_enter Tryz.func79,Tryz.ntmps79
 go_wp2
 go_ret
 exact ⟨rfl,rfl⟩
def FdMid (T:TI) (tk:Bs) (g:Nat) (c:IC) (d:DBk) (st:Nat) (B0:Nat) (w:World) (v21 v12:Value) (wx:World):Prop :=
 ∃ g2 S2 c2 d2 lo2 hi2 st2 k ev S1 cur1,v21=.iface 153 (.pointer (some ⟨g2,0,none⟩))∧v12=.nilIface∧BC wx g2 S2 c2 d2 lo2 hi2 st2 (k+1)∧k < hi2∧d2.es[k]?=some ev∧T.l[sidx T.l tk]?=some ev∧c2.x2=.iface 141 (.pointer (some ⟨c2.p,0,none⟩)) ∧
  (∀ k,S2 k∨k=c2.p∨k=d2.q→B0≤k∧¬ S1 k)∧BC wx g S1 c d 0 T.B.length st cur1∧(∀ k,S1 k→w.heap.size≤k)∧Below w.heap.size w wx
set_option maxHeartbeats 16000000 in
theorem find_any {Bd:Nat} {w:World} {r:Nat} {C:RC} {T:TI} (h:RD Bd w r C T) {ka:Option Addr} {kn kc:Nat} {tk:Bs} (hk:Key Bd w ka kn kc tk) (hkn:kn≤4294967295) (filtered noVal:Bool) :
  Calls Tryz.prog 68 #[.pointer (some ⟨r,0,none⟩),.slice ka kn kc,.bool filtered,.pointer none,.bool noVal] w (FindTo T tk filtered noVal w):=by
 have h3:w.cell? ⟨r,3,none⟩=some .nilIface:=h.c 3;have hix:=h.index true;have hn:=h.newIx h.ix .nilIface (.inl rfl) true false;have hbd:=h.bd;have hok:=h.ok;have H:=hid h;have HK:=hid hk;have hrl:=h.blk.lt;clear h hk;go_enter_defers Tryz.func68,Tryz.ntmps68
 go_wp2_with fail
 refine hix.mono ?_;rintro e w' ⟨rfl,hw'⟩;rw [hw'];clear hix hw' w';try dsimp only
 go_wp2_with fail
 refine hn.mono ?_;rintro e w2 ⟨g,c,st,rfl,hbc,htr,hcp,hcx,hb2,hful⟩;have h2:=H.out.below (hb2.mono hbd);have hse:=h2.seekIx hbc (hful rfl) htr (fun k hk=>by omega) (HK.out.below (hb2.mono hbd));have hgS:w.heap.size≤g∧g < w2.heap.size:=by
  obtain ⟨s,O,key,nodes,pk,_,_,_,q4,_⟩:=hbc;exact q4 g (.inl rfl)
 have hs2:=hb2.size;have HX:=hid (show c.p=C.ixp∧c.x2=.nilIface∧c.tr=r∧BFull c (ixD T C.ixq C.io C.il false) 0 T.B.length st from ⟨hcp,hcx,htr,hful rfl⟩);have HB2:=hid hb2;clear hn hbc htr hcp hcx hb2 hful h2;try dsimp only
 by_cases hl:sidx (ients T.ri T.B T.sp) tk < T.B.length
 ·rw [decide_eq_true hl] at hse;generalize hI:sidx (ients T.ri T.B T.sp) tk=I at *;go_wp2_with fail
  refine hse.mono ?_;rintro e w3 ⟨rfl,hbc3,hf3⟩;have hb3:Below w.heap.size w w3:=HB2.out.trans (hf3.below hs2 (fun k hk e=>by omega));obtain ⟨b,o,n,c',hbb,hbo,hn0,hval,hdec⟩:=H.out.handle hbc3 hl;have hnz:((n:Int) == 0)=false:=by rw [beq_eq_false_iff_ne];omega
  have HBC:=hid hbc3;have HB3:=hid hb3;have HF3:=hid hf3;clear hse hbc3 hf3 hb3;try dsimp only
  go_wp2_with fail
  refine hval.mono ?_;rintro e w' ⟨rfl,hw'⟩;rw [hw'];clear hval hw' w';try dsimp only
  go_wp2_with fail
  refine hdec.mono ?_;rintro e w4 ⟨rfl,hb4⟩;have hs4:=hb4.size;have H4:Hid (Below w3.heap.size w3 (w4.alloc (Obj.cells #[Value.int IntKind.u64 b.off,Value.int IntKind.u64 (b.bytes T.ri).length] 114))):=hid (hb4.alloc hs4 _);have HBX:Hid (Blk (w4.alloc (Obj.cells #[Value.int IntKind.u64 b.off,Value.int IntKind.u64 (b.bytes T.ri).length] 114)) w4.heap.size #[Value.int IntKind.u64 b.off,Value.int IntKind.u64 (b.bytes T.ri).length] 114):=hid (Blk.new w4 _ _)
  clear hdec hb4;try dsimp only
  go_upto_region 16 with fail
  obtain ⟨w5,hw5⟩:∃ w5,w5=w4.alloc (Obj.cells #[Value.int IntKind.u64 b.off,Value.int IntKind.u64 (b.bytes T.ri).length] 114):=⟨_,rfl⟩;rw [← hw5] at H4 HBX ⊢;have hs5:w4.heap.size < w5.heap.size:=by rw [hw5];simp
  have hb5:Below w.heap.size w w5:=HB3.out.trans (H4.out.mono HB3.out.size);have h5:=H.out.below (hb5.mono hbd);have h57:w5.cell? ⟨r,7,none⟩=some C.fv:=h5.c 7;have HB5:=hid hb5;have H5:=hid h5;clear hw5 hb5 h5;go_cut [82] from 22 (fun v wx=>v=.bool (filtered && decide (0 < T.n))∧wx=w5)
  case first=>as_aux_lemma =>
   rcases H5.out.fil with ⟨hn1,hfv⟩ | ⟨hn1,hfv,_⟩
   ·rw [hfv] at h57;have hdec0:decide (0 < T.n)=false:=decide_eq_false (by omega);cases filtered
    ·go_wp2_with fail
     go_meet
     case rel=>exact ⟨by rw [hdec0];rfl,rfl⟩
    ·go_wp2_with fail
     go_meet
     case rel=>exact ⟨by rw [hdec0];rfl,rfl⟩
   ·rw [hfv] at h57;have hdec0:decide (0 < T.n)=true:=decide_eq_true hn1;cases filtered
    ·go_wp2_with fail
     go_meet
     case rel=>exact ⟨by rw [hdec0];rfl,rfl⟩
    ·go_wp2_with fail
     go_meet
     case rel=>exact ⟨by rw [hdec0];rfl,rfl⟩
  case rest =>
   obtain ⟨rfl,hwc⟩:=hcut;rw [hwc];clear hwc wc;have hsk:sidx T.l tk=before T.B I+sidx b.es tk:=by rw [← hI];exact hok.tab.seek_in tk (by rw [hI];exact hbb)
   have hz0:=HBX.out.cell (k:=0) rfl;have hz1:=HBX.out.cell (k:=1) rfl;go_upto_if 82 with fail
   go_cut [12] from 22 (fun v12 wx=>v12=.nilIface∧Below w5.heap.size w5 wx)
   case first=>as_aux_lemma =>
    generalize hFB:(filtered && decide (0 < T.n))=fb;cases fb with
    | false =>
     go_wp2_with fail
     go_meet
     case rel=>exact ⟨rfl,Below.refl _ _⟩
    | true =>
     obtain ⟨rfl,hn1⟩:filtered=true∧0 < T.n:=by simpa using hFB
     rcases H5.out.fil with ⟨hn2,_⟩ | ⟨_,hfv,f,q,fs,hfb,hfk,hfB,hqB,hfok⟩
     ·omega
     ·rw [hfv] at h57;have hgf:=H5.out.filt true hfb;have hcon:=fun k=>fcontains_any (w5.drewN k) f q T.n b.off T.fd fs ⟨hfk.blk,hfk.sl.drewN k⟩ hfok.ok hfok.eq hok.n (by have h1:=hok.tab.len;have h2:=(tab_sealedFilt (ri:=T.ri) (B:=T.B) (sp:=T.sp) (fd:=T.fd) (show T.n≠0 by omega)).len;omega) hbo ka kn kc tk ((HK.out.below (HB5.out.mono hbd)).sl.drewN k) hkn
      have hno:=fun w'=>noop_any w'
      have HNO:=hid hno;have HFOK:=hid hfok;clear hfk hfok hno;go_wp2_with fail
      refine hgf.mono ?_;rintro e w' ⟨rfl,hw'⟩;rw [hw'];clear hgf hw' w';try dsimp only
      go_wp2_with fail
      refine wp_tail 8 (by kernel_rfl) ?_;simp only [List.take_succ_cons,List.take_zero,List.drop_succ_cons,List.drop_zero];repeat still_step
      refine wpStill_nil ?_;go_wp2_with fail
      refine (hcon _).mono ?_;rintro e w6 ⟨rr,rfl,hr,hb6⟩;have hb6':Below w5.heap.size w5 w6:=⟨hb6.os,hb6.tape,hb6.output,hb6.size,fun k hk=>hb6.block k hk⟩;have HB6:=hid hb6';have HR:=hid hr;have hno:=HNO.out w6;clear hcon hb6 hb6' hr;try dsimp only
      cases rr with
      | true =>
       go_wp2_with fail
       refine hno.mono ?_;rintro e w7 ⟨rfl,hb7⟩;have H7:=hid (HB6.out.trans (hb7.mono HB6.out.size));clear hno hb7;try dsimp only
       go_wp2_with fail
       go_meet
       case rel=>exact ⟨rfl,H7.out⟩
      | false =>
       go_wp2_with fail
       refine hno.mono ?_;rintro e w7 ⟨rfl,hb7⟩;have h7:=HB6.out.trans (hb7.mono HB6.out.size);have H7:=hid h7;have HE:=hid (endN_any (HBC.out.keep (w':=w7) (fun k hk _=>(h7.block k (by have:=H4.out.size;omega)).trans (H4.out.block k hk))) HX.out.2.1);clear hno hb7 h7;try dsimp only
       go_wp2
       refine leaves_cons (f:=65) (args:=#[.pointer (some ⟨g,0,none⟩)]) (by simp) (enters_of Tryz.func65 (by kernel_rfl) rfl _ _) ?_;refine (HE.out).mono ?_;rintro e u' w8 ⟨rfl,rfl,hf8,h208⟩;refine leaves_cons (f:=208) (args:=#[.agg #[]]) (by simp [settle]) (by kernel_rfl) ?_;refine h208.mono ?_;rintro e u' w9 ⟨rfl,rfl,hb9⟩;refine ⟨_,results_tmp3 rfl _ _ _,?_⟩;refine FindTo.none (HB5.out.trans (H7.out.mono HB5.out.size)) hgS.1 hf8 hb9 (.inr ⟨rfl,fun ev hev he=>?_⟩)
       by_cases hj:sidx b.es tk < b.es.length
       ·rw [hsk,hok.tab.pair hbb hj] at hev;obtain ⟨cc,hc1,hc2⟩:=HFOK.out.has b (List.mem_of_getElem? hbb) ev (List.mem_of_getElem? hev);rw [he] at hc2;have:=HR.out cc hc1 hc2;cases this
       ·have hse:=sidx_le b.es tk;have hhi:=hok.tab.high tk (lt_of_some hbb) (by omega);rw [hsk,show sidx b.es tk=b.es.length by omega] at hev;rw [← hok.tab.flat,dents_cut hbb] at hev;have hlen:(dents (T.B.take I)).length=before T.B I:=rfl;rw [List.getElem?_append_right (by omega),List.getElem?_append_right (by omega)] at hev;have:=hhi ev (List.mem_of_getElem? hev);rw [he,cmp_self] at this;exact absurd this (by decide)
   case rest =>
    obtain ⟨rfl,hbc6⟩:=hcut;have hb6:Below w.heap.size w wc:=HB5.out.trans (hbc6.mono HB5.out.size);have h6:=H.out.below (hb6.mono hbd);have hy0:wc.cell? ⟨w4.heap.size,0,none⟩=some (.int .u64 b.off):=(World.cell?_of_block (a:=⟨w4.heap.size,0,none⟩) (hbc6.block _ hs5)).trans hz0;have hy1:wc.cell? ⟨w4.heap.size,1,none⟩=some (.int .u64 (b.bytes T.ri).length):=(World.cell?_of_block (a:=⟨w4.heap.size,1,none⟩) (hbc6.block _ hs5)).trans hz1
    have hf8':wc.frozen? ⟨w4.heap.size,0,none⟩=false∧wc.frozen? ⟨w4.heap.size,1,none⟩=false:=by
     have hx:Blk wc w4.heap.size _ 114:=(hbc6.block _ hs5).trans HBX.out;exact ⟨hx.free 0,hx.free 1⟩
    have hr8:wc.cell? ⟨r,8,none⟩=some (.bool true):=h6.c 8;have hdat:=fun k=>(h6.below (Below.drewN' _ wc k)).data hbb none false 0 b.es.length true (fun w7 p q _ _ _ hE=>newBI_to w7 r p _ false ⟨q,b.off,(b.bytes T.ri).length,T.ri,b.p0,b.es,false⟩ hE (.inr (.inr rfl)) (show T.ri≤1000 by have:=hok.ri;omega))
    have hdon:=fun k=>getDont_any (wc.drewN k)
    have HB6:=hid hb6;have HC6:=hid hbc6;have HF8:=hid hf8';have hxk:BC wc g (grow (fun k=>w.heap.size≤k∧k < w2.heap.size) w2 w3) c (ixD T C.ixq C.io C.il false) 0 T.B.length st (I+1):=HBC.out.keep (fun k hk _=>(hbc6.block k (by have:=H4.out.size;omega)).trans (H4.out.block k hk));have HXK:=hid hxk;clear hb6 h6 hf8' hbc6 hz0 hz1 h57 hxk;go_upto_region 25 with fail
    refine Pos.start (fun W:World=>W.cell? ⟨w4.heap.size,0,none⟩=some (.int .u64 b.off)∧W.cell? ⟨w4.heap.size,1,none⟩=some (.int .u64 (b.bytes T.ri).length)∧W.cell? ⟨r,8,none⟩=some (.bool true)) 10 (by kernel_rfl) ?_;have hS:(fun W:World=>W.cell? ⟨w4.heap.size,0,none⟩=some (.int .u64 b.off)∧W.cell? ⟨w4.heap.size,1,none⟩=some (.int .u64 (b.bytes T.ri).length)∧W.cell? ⟨r,8,none⟩=some (.bool true)) (wc.drewN 1):=⟨hy0,hy1,hr8⟩
    iterate 7
     refine' Pos.takeK hS rfl (by kernel_rfl) (fun _ _ _ h=>leaves_put _ _ (by decide) h) (by rfl) ?_ ?_;rotate_left
     ·intro W hW;obtain ⟨s1,s2,s3⟩:=hW;go_simp;try with_reducible rfl
     intro K hK;go_simp;refine hK _ ?_;clear hK K
    refine Pos.eff rfl (by kernel_rfl) ?_;go_wp2_with fail
    refine (hdon _).mono ?_;rintro e w' ⟨rfl,hw'⟩;rw [hw'];clear hdon hw' w';try dsimp only
    go_wp2_with fail
    refine ⟨hS,?_⟩;iterate 1
     refine' Pos.takeK hS rfl (by kernel_rfl) (fun _ _ _ h=>leaves_put _ _ (by decide) h) (by rfl) ?_ ?_;rotate_left
     ·intro W hW;obtain ⟨s1,s2,s3⟩:=hW;go_simp;try with_reducible rfl
     intro K hK;go_simp;refine hK _ ?_;clear hK K
    refine Pos.eff rfl (by kernel_rfl) ?_;go_wp2_with fail
    refine (hdat _).mono ?_;rintro e w7 ⟨g2,c2,d2,st2,rfl,q1,q2,q3,q4,q5,q6,q7,q8,q8',q9,q10⟩;clear hdat hS;try dsimp only
    go_wp2_with fail
    refine ⟨⟨(World.cell?_of_block (a:=⟨w4.heap.size,0,none⟩) (q9.block _ (lt_of_cell hy0))).trans hy0,(World.cell?_of_block (a:=⟨w4.heap.size,1,none⟩) (q9.block _ (lt_of_cell hy1))).trans hy1,(World.cell?_of_block (a:=⟨r,8,none⟩) (q9.block _ (lt_of_cell hr8))).trans hr8⟩,?_⟩;refine Pos.tail (by kernel_rfl) (by decide) ?_;simp only [List.drop_succ_cons,List.drop_zero];have hc7:Below w5.heap.size w5 w7:=(HC6.out.trans (Below.drewN' _ _ _)).trans (q9.mono HC6.out.size)
    have hb7:Below w.heap.size w w7:=HB5.out.trans (hc7.mono HB5.out.size);have h7:=H.out.below (hb7.mono hbd);have hfl:=q10 q8';have hsk7:=q1.seekW hfl (by rw [q2];exact h7.c 6) (fun e=>by rw [q2] at e;have h1:wc.heap.size≤r:=e.1;have:=HB6.out.size;omega) ka kn kc tk (HK.out.below (hb7.mono hbd)).sl (fun x p e h0 hX=>by have h1:wc.heap.size≤x:=hX.1;have:=HK.out.low x p e h0;have:=HB6.out.size;omega) (by rw [q8];exact hok.bRising hbb)
    rw [q8] at hsk7;have hxk7:BC w7 g (grow (fun k=>w.heap.size≤k∧k < w2.heap.size) w2 w3) c (ixD T C.ixq C.io C.il false) 0 T.B.length st (I+1):=HXK.out.keep (fun k hk _=>q9.block k hk);have HX7:=hid hxk7;have HB7:=hid hb7;have HC7:=hid hc7;have HQ7:=hid (show c2.tr=r∧wc.heap.size≤c2.p∧c2.p < w7.heap.size∧wc.heap.size≤d2.q∧d2.q < w7.heap.size∧c2.x2=.iface 141 (.pointer (some ⟨c2.p,0,none⟩))∧d2.es=b.es∧Below wc.heap.size wc w7 from ⟨q2,q3,q4,q5,q6,q7,q8,(Below.drewN' wc.heap.size wc 1).trans q9⟩)
    have hg2S:wc.heap.size≤g2∧g2 < w7.heap.size:=by
     obtain ⟨s,O,key,nodes,pk,_,_,_,z,_⟩:=q1;exact z g2 (.inl rfl)
    clear q1 q2 q3 q4 q5 q6 q7 q8 q8' q9 q10 hc7 hb7 h7 hfl hxk7;try dsimp only
    go_wp2_with fail
    refine hsk7.mono ?_;rintro e w8 ⟨rfl,hbc8,hf8⟩;have hs78:=hf8.size;have hc58:=HC6.out.size;have hc78:=HQ7.out.2.2.2.2.2.2.2.size;have hs35:=H4.out.size;have hs23:=HF3.out.size;have hb8:Below w.heap.size w w8:=HB7.out.trans (hf8.below HB7.out.size (fun k hk e=>by have h1:wc.heap.size≤k:=e.1;have:=HB6.out.size;omega));have hx8:BC w8 g (grow (fun k=>w.heap.size≤k∧k < w2.heap.size) w2 w3) c (ixD T C.ixq C.io C.il false) 0 T.B.length st (I+1):=HX7.out.keep (fun k hk hk'=>hf8.block k hk (fun e=>by
     have h1:wc.heap.size≤k:=e.1;rcases hk' with h' | h' | h'
     ·rcases h' with h' | h'
      ·have:=h'.2;omega
      ·have:=h'.2;omega
     ·have:=H.out.lp;rw [HX.out.1] at h';have:=HB6.out.size;omega
     ·have:=H.out.lq;have:(ixD T C.ixq C.io C.il false).q=C.ixq:=rfl;have:=HB6.out.size;omega))
    have HBC8:=hid hbc8;have HB8:=hid hb8;have HX8:=hid hx8;have HF8:=hid hf8;clear hsk7 hbc8 hf8 hb8 hx8;try dsimp only
    go_upto_if 123 with fail
    go_cut [21,12] from 22 (FdMid T tk g c (ixD T C.ixq C.io C.il false) st w5.heap.size w)
    case first=>as_aux_lemma =>
     by_cases hj:sidx b.es tk < b.es.length
     ·have HM:Hid (FdMid T tk g c (ixD T C.ixq C.io C.il false) st w5.heap.size w (.iface 153 (.pointer (some ⟨g2,0,none⟩))) .nilIface w8):=hid (by
       obtain ⟨z1,z2,z3,z4,z5,z6,z7,z8⟩:=HQ7.out;refine ⟨g2,_,c2,d2,_,_,st2,sidx b.es tk,b.es[sidx b.es tk],_,_,rfl,rfl,HBC8.out,hj,by rw [z7];exact List.getElem?_eq_getElem hj,by rw [hsk,hok.tab.pair hbb hj];exact List.getElem?_eq_getElem hj,z6,fun k hk=>?_,HX8.out,fun k hk=>?_,HB8.out⟩
       ·have h1:wc.heap.size≤k:=by
         rcases hk with (e | e) | e | e
         ·exact e.1
         ·omega
         ·omega
         ·omega
        refine ⟨by omega,fun hS=>?_⟩;rcases hS with h' | h'
        ·have:=h'.2;omega
        ·have:=h'.2;omega
       ·rcases hk with h' | h'
        ·exact h'.1
        ·omega)
      rw [decide_eq_true hj];go_wp2_with fail
      go_meet
      case rel=>exact HM.out
     ·have hrel:=HBC8.out.release' (.inr (.inr HQ7.out.2.2.2.2.2.1));have hbx8:Blk w8 w4.heap.size #[Value.int IntKind.u64 b.off,Value.int IntKind.u64 (b.bytes T.ri).length] 114:=(HF8.out.block _ (by omega) (fun e=>by have h1:wc.heap.size≤w4.heap.size:=e.1;omega)).trans ((HC7.out.block _ hs5).trans HBX.out);have HBX8:=hid hbx8;clear hbx8;rw [decide_eq_false hj];go_wp2_with fail
      refine hrel.mono ?_;rintro e w9 ⟨rfl,hf9,h917⟩;have hne9:∀ k,k < wc.heap.size→¬ (k=g2∨(k=c2.p∧c2.x2=.iface 141 (.pointer (some ⟨c2.p,0,none⟩)))):=fun k hk e=>by
       have:=HQ7.out.2.1;rcases e with e | e
       ·omega
       ·omega
      have herr:=berr_cell h917;have hx9:=HX8.out.keep (w':=w9) (fun k hk hk'=>hf9.block k hk (hne9 k (by
       rcases hk' with h' | h' | h'
       ·rcases h' with h' | h'
        ·have:=h'.2;omega
        ·have:=h'.2;omega
       ·have:=H.out.lp;rw [HX.out.1] at h';have:=HB6.out.size;omega
       ·have:=H.out.lq;have:(ixD T C.ixq C.io C.il false).q=C.ixq:=rfl;have:=HB6.out.size;omega)))
      have hnx:=hx9.next;have hb9:Below w.heap.size w w9:=HB8.out.trans (hf9.below HB8.out.size (fun k hk e=>hne9 k (by have:=HB6.out.size;omega) e));have hbx9:Blk w9 w4.heap.size #[Value.int IntKind.u64 b.off,Value.int IntKind.u64 (b.bytes T.ri).length] 114:=(hf9.block _ HBX8.out.lt (hne9 _ (by omega))).trans HBX8.out;have hs89:=hf9.size;have HB9:=hid hb9;have HBX9:=hid hbx9;clear hrel hf9 h917 hne9 hx9 hb9 hbx9
      try dsimp only
      go_wp2_with fail
      refine herr.mono ?_;rintro e w' ⟨rfl,hw'⟩;rw [hw'];clear herr hw' w';try dsimp only
      by_cases h2:nxt 0 T.B.length (I+1)≤T.B.length
      ·rw [decide_eq_true h2] at hnx;have hn2:nxt 0 T.B.length (I+1)=I+1+1:=by unfold nxt;rw [if_neg (by omega)];omega
       rw [hn2] at hnx;have hi2:I+1 < T.B.length:=by omega
       clear h2 hn2;go_wp2_with fail
       refine hnx.mono ?_;rintro e w10 ⟨rfl,hbc10,hf10⟩;obtain ⟨b2,o2,n2,cc2,hbb2,hbo2,hn02,hval2,hdec2⟩:=H.out.handle hbc10 hi2;have hnz2:((n2:Int) == 0)=false:=by rw [beq_eq_false_iff_ne];omega
       have hS10:∀ k,grow (fun k=>w.heap.size≤k∧k < w2.heap.size) w2 w3 k→w.heap.size≤k∧k < w3.heap.size:=fun k h'=>by
        rcases h' with h' | h'
        ·exact ⟨h'.1,by have:=h'.2;omega⟩
        ·exact ⟨by omega,h'.2⟩
       have hb10:Below w.heap.size w w10:=HB9.out.trans (hf10.below HB9.out.size (fun k hk e=>by have:=(hS10 k e).1;omega));have hbx10:Blk w10 w4.heap.size #[Value.int IntKind.u64 b.off,Value.int IntKind.u64 (b.bytes T.ri).length] 114:=(hf10.block _ HBX9.out.lt (fun e=>by have:=(hS10 _ e).2;omega)).trans HBX9.out;have hs910:=hf10.size;have HB10:=hid hb10;have HBX10:=hid hbx10;have HBC10:=hid hbc10
       clear hnx hbc10 hf10 hb10 hbx10;try dsimp only
       go_wp2_with fail
       refine hval2.mono ?_;rintro e w' ⟨rfl,hw'⟩;rw [hw'];clear hval2 hw' w';try dsimp only
       go_wp2_with fail
       refine hdec2.mono ?_;rintro e w11 ⟨rfl,hb11⟩;have hbx11:Blk w11 w4.heap.size #[Value.int IntKind.u64 b.off,Value.int IntKind.u64 (b.bytes T.ri).length] 114:=(hb11.block _ HBX10.out.lt).trans HBX10.out;have hq0:=hbx11.cell (k:=0) rfl;have hq1:=hbx11.cell (k:=1) rfl;have hg0:=hbx11.free 0;have hg1:=hbx11.free 1;have hlt11:=hbx11.lt;have HB11:=hid hb11;have HBX11:=hid hbx11;clear hdec2 hb11 hbx11
       try dsimp only
       go_upto_region 38 with fail
       obtain ⟨w12,hw12⟩:∃ w12,w12=(w11.setCell { block:=w4.heap.size,off:=0 } (Value.int IntKind.u64 ↑b2.off)).setCell { block:=w4.heap.size,off:=1 } (Value.int IntKind.u64 ↑(List.length (DB.bytes T.ri b2))):=⟨_,rfl⟩;rw [← hw12];have hfr:Fr (fun k=>k=w4.heap.size) w10 w12:=by
        rw [hw12];exact Fr.setC (S:=fun k=>k=w4.heap.size) (Fr.setC (S:=fun k=>k=w4.heap.size) (Fr.of_below HB11.out) _ 0 _ rfl) _ 1 _ rfl
       have hs1012:w10.heap.size≤w12.heap.size:=hfr.size;have hb12:Below w.heap.size w w12:=HB10.out.trans (hfr.below HB10.out.size (fun k hk e=>by have:=HB3.out.size;omega));have hbx12:Blk w12 w4.heap.size #[Value.int IntKind.u64 ↑b2.off,Value.int IntKind.u64 ↑(List.length (DB.bytes T.ri b2))] 114:=by
        rw [hw12];exact (HBX11.out.set 0 _).set 1 _
       have hy0:=hbx12.cell (k:=0) rfl;have hy1:=hbx12.cell (k:=1) rfl;have h12:=H.out.below (hb12.mono hbd);have hr8:w12.cell? ⟨r,8,none⟩=some (.bool true):=h12.c 8;have hxk:=HBC10.out.keep (w':=w12) (fun k hk hk'=>hfr.block k hk (fun e=>by
        rcases hk' with h' | h' | h'
        ·rcases h' with h' | h'
         ·have:=(hS10 k h').2;omega
         ·have:=h'.1;omega
        ·have:=H.out.lp;rw [HX.out.1] at h';have:=HB3.out.size;omega
        ·have:=H.out.lq;have:(ixD T C.ixq C.io C.il false).q=C.ixq:=rfl;have:=HB3.out.size;omega))
       have hne2:b2.es≠[]:=hok.tab.nz (I+1) b2 (by omega) hbb2;have hlen2:0 < b2.es.length:=List.length_pos_iff.mpr hne2;have hfnd:T.l[sidx T.l tk]?=some (b2.es[0]'hlen2):=by
        have hse:=sidx_le b.es tk;rw [show sidx T.l tk=before T.B (I+1)+0 by have:=before_succ hbb;omega,hok.tab.pair hbb2 hlen2];exact List.getElem?_eq_getElem hlen2
       have hdat:=fun k=>(h12.below (Below.drewN' _ w12 k)).data hbb2 none false 0 b2.es.length true (fun w7 p q _ _ _ hE=>newBI_to w7 r p _ false ⟨q,b2.off,(b2.bytes T.ri).length,T.ri,b2.p0,b2.es,false⟩ hE (.inr (.inr rfl)) (show T.ri≤1000 by have:=hok.ri;omega))
       have hdon:=fun k=>getDont_any (w12.drewN k)
       have hlt12:=hbx12.lt;have hr12:=h12.blk.lt;have HXK:=hid hxk;have HB12:=hid hb12;have HFND:=hid hfnd;clear hw12 hfr hb12 hbx12 h12 hxk hne2 hfnd hq0 hq1 hg0 hg1;refine Pos.start (fun W:World=>W.cell? ⟨w4.heap.size,0,none⟩=some (.int .u64 b2.off)∧W.cell? ⟨w4.heap.size,1,none⟩=some (.int .u64 (b2.bytes T.ri).length)∧W.cell? ⟨r,8,none⟩=some (.bool true)) 10 (by kernel_rfl) ?_;have hS:(fun W:World=>W.cell? ⟨w4.heap.size,0,none⟩=some (.int .u64 b2.off)∧W.cell? ⟨w4.heap.size,1,none⟩=some (.int .u64 (b2.bytes T.ri).length)∧W.cell? ⟨r,8,none⟩=some (.bool true)) (w12.drewN 1):=⟨hy0,hy1,hr8⟩
       iterate 7
        refine' Pos.takeK hS rfl (by kernel_rfl) (fun _ _ _ h=>leaves_put _ _ (by decide) h) (by rfl) ?_ ?_;rotate_left
        ·intro W hW;obtain ⟨s1,s2,s3⟩:=hW;go_simp;try with_reducible rfl
        intro K hK;go_simp;refine hK _ ?_;clear hK K
       refine Pos.eff rfl (by kernel_rfl) ?_;go_wp2_with fail
       refine (hdon _).mono ?_;rintro e w' ⟨rfl,hw'⟩;rw [hw'];clear hdon hw' w';try dsimp only
       go_wp2_with fail
       refine ⟨hS,?_⟩;iterate 1
        refine' Pos.takeK hS rfl (by kernel_rfl) (fun _ _ _ h=>leaves_put _ _ (by decide) h) (by rfl) ?_ ?_;rotate_left
        ·intro W hW;obtain ⟨s1,s2,s3⟩:=hW;go_simp;try with_reducible rfl
        intro K hK;go_simp;refine hK _ ?_;clear hK K
       refine Pos.eff rfl (by kernel_rfl) ?_;go_wp2_with fail
       refine (hdat _).mono ?_;rintro e w13 ⟨g3,c3,d3,st3,rfl,q1,q2,q3,q4,q5,q6,q7,q8,q8',q9,q10⟩;clear hdat hS;try dsimp only
       go_wp2_with fail
       refine ⟨⟨(World.cell?_of_block (a:=⟨w4.heap.size,0,none⟩) (q9.block _ (lt_of_cell hy0))).trans hy0,(World.cell?_of_block (a:=⟨w4.heap.size,1,none⟩) (q9.block _ (lt_of_cell hy1))).trans hy1,(World.cell?_of_block (a:=⟨r,8,none⟩) (q9.block _ (lt_of_cell hr8))).trans hr8⟩,?_⟩;refine Pos.tail (by kernel_rfl) (by decide) ?_;simp only [List.drop_succ_cons,List.drop_zero];have h9:Below w12.heap.size w12 w13:=(Below.drewN' w12.heap.size w12 1).trans q9
       have q3':w12.heap.size≤c3.p:=q3;have q5':w12.heap.size≤d3.q:=q5;have HB13:=hid (HB12.out.trans (h9.mono HB12.out.size));have HX13:=hid (HXK.out.keep (w':=w13) (fun k hk _=>h9.block k hk));have hn13:=q1.next;have hn1:nxt 0 b2.es.length 0=0+1:=by unfold nxt;simp
       rw [hn1,decide_eq_true (show 0+1≤b2.es.length by omega)] at hn13;have hs13:=h9.size;have HQ:=hid (show c3.p < w13.heap.size∧d3.q < w13.heap.size∧c3.x2=.iface 141 (.pointer (some ⟨c3.p,0,none⟩))∧d3.es=b2.es from ⟨q4,q6,q7,q8⟩);clear q1 q2 q3 q4 q5 q6 q7 q8 q8' q9 q10 h9 hn1 hy0 hy1 hr8;try dsimp only
       go_wp2_with fail
       refine hn13.mono ?_;rintro e w14 ⟨rfl,hbc14,hf14⟩;have hs14:=hf14.size;have hb14:Below w.heap.size w w14:=HB13.out.trans (hf14.below HB13.out.size (fun k hk e=>by have h1:w12.heap.size≤k:=e.1;have:=HB12.out.size;omega));have hS1:∀ k,grow (grow (fun k=>w.heap.size≤k∧k < w2.heap.size) w2 w3) w9 w10 k→w.heap.size≤k∧k < w12.heap.size:=fun k h'=>by
        rcases h' with h' | h'
        ·exact ⟨(hS10 k h').1,by have:=(hS10 k h').2;omega⟩
        ·exact ⟨by have:=h'.1;have:=HB9.out.size;omega,by have:=h'.2;omega⟩
       have hx14:=HX13.out.keep (w':=w14) (fun k hk hk'=>hf14.block k hk (fun e=>by
        have h1:w12.heap.size≤k:=e.1;rcases hk' with h' | h' | h'
        ·have:=(hS1 k h').2;omega
        ·have:=H.out.lp;rw [HX.out.1] at h';have:=HB12.out.size;omega
        ·have:=H.out.lq;have:(ixD T C.ixq C.io C.il false).q=C.ixq:=rfl;have:=HB12.out.size;omega))
       have HM:Hid (FdMid T tk g c (ixD T C.ixq C.io C.il false) st w5.heap.size w (.iface 153 (.pointer (some ⟨g3,0,none⟩))) .nilIface w14):=hid (by
        obtain ⟨z4,z6,z7,z8⟩:=HQ.out;refine ⟨g3,_,c3,d3,_,_,st3,0,_,_,_,rfl,rfl,hbc14,hlen2,by rw [z8];exact List.getElem?_eq_getElem hlen2,HFND.out,z7,fun k hk=>?_,hx14,fun k hk=>(hS1 k hk).1,hb14⟩;have h1:w12.heap.size≤k:=by
         rcases hk with (e | e) | e | e
         ·exact e.1
         ·omega
         ·omega
         ·omega
        exact ⟨by omega,fun hS=>by have:=(hS1 k hS).2;omega⟩)
       clear hn13 hbc14 hf14 hb14 hS1 hx14;try dsimp only
       go_wp2_with fail
       go_meet
       case rel=>exact HM.out
      ·rw [decide_eq_false h2] at hnx;have hn2:I+1=T.B.length:=by unfold nxt at h2;rw [if_neg (by omega)] at h2;omega
       have hse:=sidx_le b.es tk;have hp:sidx T.l tk=T.l.length:=by
        have h1:=before_succ hbb;have h3:=before_all T.B;rw [hok.tab.flat] at h3;rw [hn2] at h1;omega
       go_wp2_with fail
       refine hnx.mono ?_;rintro e w10 ⟨rfl,hbc10,hf10⟩;have herr2:=hbc10.error;have hb10:Below w.heap.size w w10:=HB9.out.trans (hf10.below HB9.out.size (fun k hk e=>by
        rcases e with e | e
        ·have:=e.1;omega
        ·omega))
       have HB10:=hid hb10;have HE:=hid (endN_any hbc10 HX.out.2.1);clear hnx hbc10 hf10 hb10;try dsimp only
       go_wp2_with fail
       refine herr2.mono ?_;rintro e w' ⟨rfl,hw'⟩;rw [hw'];clear herr2 hw' w';try dsimp only
       go_wp2
       refine leaves_cons (f:=65) (args:=#[.pointer (some ⟨g,0,none⟩)]) (by simp) (enters_of Tryz.func65 (by kernel_rfl) rfl _ _) ?_;refine (HE.out).mono ?_;rintro e u' w8 ⟨rfl,rfl,hf8,h208⟩;refine leaves_cons (f:=208) (args:=#[.agg #[]]) (by simp [settle]) (by kernel_rfl) ?_;refine h208.mono ?_;rintro e u' w9 ⟨rfl,rfl,hb9⟩;refine ⟨_,results_tmp3 rfl _ _ _,?_⟩;exact FindTo.none HB10.out hgS.1 hf8 hb9 (.inl hp)
    case rest =>
     obtain ⟨g2,S2,c2,d2,lo2,hi2,st2,k,ev,S1,cur1,rfl,rfl,q1,q2,q3,q4,q5,q6,q7,q8,q9⟩:=hcut;obtain ⟨ek,ka',kn',kc',k1,k2,k3,hkey⟩:=q1.key rfl q2;obtain ⟨ew,vo',vc',v1,v2,hval⟩:=q1.value rfl q2;obtain rfl:ek=ev:=Option.some.inj (k1.symm.trans q3);obtain rfl:ew=ek:=Option.some.inj (v1.symm.trans q3);have hrel:=q1.release' (.inr (.inr q5));have hr4:wc.cell? ⟨r,4,none⟩=some (.pointer none):=(H.out.below (q9.mono hbd)).c 4
     have HQ:=hid (show T.l[sidx T.l tk]?=some ew∧Sl wc ka' kn' kc' ew.1∧Sl wc (some ⟨d2.q,vo',none⟩) ew.2.length vc' ew.2 from ⟨q4,k2,v2⟩);have hg1:S1 g:=by
      obtain ⟨s,O,key,nodes,pk,_,_,_,q4,_⟩:=q7;exact q4 g (.inl rfl)
     have hS2g:S2 g2:=by
      obtain ⟨s,O,key,nodes,pk,_,_,_,q4,_⟩:=q1;exact q4 g2 (.inl rfl)
     have hE2:c2.p≠d2.q∧d2.q≠g2:=by
      obtain ⟨s,O,key,nodes,pk,_,z2,z3,_⟩:=q1;exact ⟨z2.ne,z3.2.1⟩
     have HBQ:=hid q9;have HRL:Hid (∀ w7,Fr (fun k=>k=g2∨(k=c2.p∧c2.x2=.iface 141 (.pointer (some ⟨c2.p,0,none⟩)))) wc w7→Sl w7 ka' kn' kc' ew.1∧Sl w7 (some ⟨d2.q,vo',none⟩) ew.2.length vc' ew.2∧Below w.heap.size w w7∧EndN g w7):=hid (fun w7 hf=>by
      refine ⟨k2.fr' (fun x o e j hj=>?_),v2.fr' (fun x o e j hj=>?_),q9.trans (hf.below q9.size (fun k hk e=>?_)),endN_any (q7.keep (fun k hk hk'=>hf.block k hk (fun e=>?_))) HX.out.2.1⟩
      ·have h3:=k3 x o e;exact World.cell?_of_block (a:=⟨x,o+j,none⟩) (hf.block x (lt_of_cell (by
        obtain ⟨b',o',e',hc'⟩:=k2.cell j (by rw [k2.len];exact hj);rw [e] at e';cases e'
        exact hc')) (by rintro (h | h);exact h3.2.1 h;exact h3.2.2 h.1))
      ·cases e
       exact World.cell?_of_block (a:=⟨d2.q,vo'+j,none⟩) (hf.block d2.q (lt_of_cell (v2.cellAt (j:=j) hj)) (by rintro (h | h);exact hE2.2 h;exact hE2.1 h.1.symm))
      ·rcases e with e | e
       ·have:=(q6 k (.inl (by rw [e];exact hS2g))).1;omega
       ·have:=(q6 k (.inr (.inl e.1))).1;omega
      ·rcases e with e | e
       ·have h6:=q6 k (.inl (by rw [e];exact hS2g));rcases hk' with h' | h' | h'
        ·exact h6.2 h'
        ·have:=H.out.lp;rw [HX.out.1] at h';omega
        ·have:=H.out.lq;have:(ixD T C.ixq C.io C.il false).q=C.ixq:=rfl;omega
       ·have h6:=q6 k (.inr (.inl e.1));rcases hk' with h' | h' | h'
        ·exact h6.2 h'
        ·have:=H.out.lp;rw [HX.out.1] at h';omega
        ·have:=H.out.lq;have:(ixD T C.ixq C.io C.il false).q=C.ixq:=rfl;omega)
     have HFN:Hid (∀ (rv:Value) (w7 w8 w9:World),Fr (fun k=>k=g2∨(k=c2.p∧c2.x2=.iface 141 (.pointer (some ⟨c2.p,0,none⟩)))) wc w7→Fr (fun k=>k=g) w7 w8→Below w8.heap.size w8 w9→(noVal=false→rv=.slice (some ⟨d2.q,vo',none⟩) ew.2.length vc')→FindTo T tk filtered noVal w (.returned (.tuple #[.slice ka' kn' kc',rv,.nilIface])) w9):=hid (fun rv w7 w8 w9 hf7 hf8 h9 hrv=>by
      obtain ⟨z1,z2,z3,_⟩:=HRL.out w7 hf7;have h8:Below w.heap.size w w8:=z3.trans (hf8.below z3.size (fun k hk e=>by omega));have hgb:w5.heap.size > g:=by omega
      have s1:Sl w9 ka' kn' kc' ew.1:=(z1.fr' (fun x o e j hj=>World.cell?_of_block (a:=⟨x,o+j,none⟩) (hf8.block x (lt_of_cell (by
        obtain ⟨b',o',e',hc'⟩:=z1.cell j (by rw [z1.len];exact hj);rw [e] at e';cases e'
        exact hc')) (fun e2=>by have h3:=(k3 x o e).1;have:=(q6 x (.inl h3)).2;rw [e2] at this;exact this hg1)))).fr (S:=fun _=>False) (Fr.of_below h9) (fun _ _ h=>h)
      have s2:Sl w9 (some ⟨d2.q,vo',none⟩) ew.2.length vc' ew.2:=(z2.fr' (fun x o e j hj=>by
        cases e
        exact World.cell?_of_block (a:=⟨d2.q,vo'+j,none⟩) (hf8.block d2.q (lt_of_cell (z2.cellAt (j:=j) hj)) (fun e2=>by have:=(q6 d2.q (.inr (.inr rfl))).2;rw [e2] at this;exact this hg1)))).fr (S:=fun _=>False) (Fr.of_below h9) (fun _ _ h=>h)
      exact ⟨_,_,_,rfl,h8.trans (h9.mono h8.size),.inl ⟨ew,HQ.out.1,rfl,⟨_,_,_,rfl,s1⟩,fun hn=>⟨_,_,_,hrv hn,s2⟩⟩⟩)
     clear q1 q2 q3 q4 q5 q6 q7 q8 q9 k1 k2 k3 v1 v2 hg1 hS2g hE2;go_wp2_with fail
     refine hkey.mono ?_;rintro e w' ⟨rfl,hw'⟩;rw [hw'];clear hkey hw' w';try dsimp only
     cases noVal with
     | true =>
      go_wp2_with fail
      refine hrel.mono ?_;rintro e w7 ⟨rfl,hf7,_⟩;have HE:=hid (HRL.out w7 hf7).2.2.2;have HF7:=hid hf7;clear hrel hf7;try dsimp only
      go_wp2
      refine leaves_cons (f:=65) (args:=#[.pointer (some ⟨g,0,none⟩)]) (by simp) (enters_of Tryz.func65 (by kernel_rfl) rfl _ _) ?_;refine (HE.out).mono ?_;rintro e u' w8 ⟨rfl,rfl,hf8,h208⟩;refine leaves_cons (f:=208) (args:=#[.agg #[]]) (by simp [settle]) (by kernel_rfl) ?_;refine h208.mono ?_;rintro e u' w9 ⟨rfl,rfl,hb9⟩;refine ⟨_,results_tmp3 rfl _ _ _,?_⟩;exact HFN.out _ _ _ _ HF7.out hf8 hb9 (fun h=>by cases h)
     | false =>
      go_wp2_with fail
      refine hval.mono ?_;rintro e w' ⟨rfl,hw'⟩;rw [hw'];clear hval hw' w';try dsimp only
      go_wp2_with fail
      refine hrel.mono ?_;rintro e w7 ⟨rfl,hf7,_⟩;have HE:=hid (HRL.out w7 hf7).2.2.2;have HF7:=hid hf7;clear hrel hf7;try dsimp only
      go_wp2
      refine leaves_cons (f:=65) (args:=#[.pointer (some ⟨g,0,none⟩)]) (by simp) (enters_of Tryz.func65 (by kernel_rfl) rfl _ _) ?_;refine (HE.out).mono ?_;rintro e u' w8 ⟨rfl,rfl,hf8,h208⟩;refine leaves_cons (f:=208) (args:=#[.agg #[]]) (by simp [settle]) (by kernel_rfl) ?_;refine h208.mono ?_;rintro e u' w9 ⟨rfl,rfl,hb9⟩;refine ⟨_,results_tmp3 rfl _ _ _,?_⟩;exact HFN.out _ _ _ _ HF7.out hf8 hb9 (fun _=>rfl)
 ·rw [decide_eq_false hl] at hse;have hI:sidx (ients T.ri T.B T.sp) tk=T.B.length:=by have:=sidx_le (ients T.ri T.B T.sp) tk;rw [hok.tab.ilen] at this;omega
  have hp:=hok.tab.seek_none tk hI;go_wp2_with fail
  refine hse.mono ?_;rintro e w3 ⟨rfl,hbc3,hf3⟩;have hb3:Below w.heap.size w w3:=HB2.out.trans (hf3.below hs2 (fun k hk e=>by omega));have herr:=hbc3.error;have HE:=hid (endN_any hbc3 HX.out.2.1);have HB3:=hid hb3;clear hse hbc3 hf3 hb3;try dsimp only
  go_wp2_with fail
  refine herr.mono ?_;rintro e w' ⟨rfl,hw'⟩;rw [hw'];clear herr hw' w';try dsimp only
  go_wp2
  refine leaves_cons (f:=65) (args:=#[.pointer (some ⟨g,0,none⟩)]) (by simp) (enters_of Tryz.func65 (by kernel_rfl) rfl _ _) ?_;refine (HE.out).mono ?_;rintro e u' w8 ⟨rfl,rfl,hf8,h208⟩;refine leaves_cons (f:=208) (args:=#[.agg #[]]) (by simp [settle]) (by kernel_rfl) ?_;refine h208.mono ?_;rintro e u' w9 ⟨rfl,rfl,hb9⟩;refine ⟨_,results_tmp3 rfl _ _ _,?_⟩;exact FindTo.none HB3.out hgS.1 hf8 hb9 (.inl hp)
end
end Go.Proofs.YtmkdpjicgjhhjaaGreatDoor
