/- Part 29 of the proof of FnTableComesBack: contracts and lemmas, each under the conditions that it states. Texts: RGet, IGet, BRel. -/
import Derived.Test.YtmkdpjicgjhhjaaGreatDoorC25
import Derived.Test.YtmkdpjicgjhhjaaGreatDoorC28
namespace Go.Proofs.YtmkdpjicgjhhjaaGreatDoor
open Go.Lib (hid)
set_option maxRecDepth 100000
set_option linter.all false
section
open Go Go.RowKit Go.Shelf
structure TI where
 n:Nat
 ri:Nat
 bs:Nat
 l:List KV
 B:List DB
 sp:List Bs
 fd:Bs
def TI.F (T:TI):Bs:=tabFile T.n T.ri T.B T.sp T.fd
structure TI.ok (T:TI):Prop where
 tab:Tab T.n T.ri T.l T.B T.sp T.fd
 tot:tot T.l≤1048576
 ri:1≤T.ri∧T.ri≤20
 n:T.n≤20
 rising:Rising T.l
structure RC where
 rd:Nat
 fa:Option Addr
 fc:Nat
 o:Nat
 fv:Value
 de:Nat
 mo:Nat
 ml:Nat
 io:Nat
 il:Nat
 fo:Nat
 fl:Nat
 ixp:Nat
 ixq:Nat
 fb:Value
def rcC (C:RC):Array Value:=#[.int .i64 0,.int .i64 0,.iface 64 (.pointer (some ⟨C.rd,0,none⟩)),.nilIface,.pointer none,.pointer (some ⟨C.o,0,none⟩),.iface 192 (.agg #[]),C.fv,.bool true,.int .i64 C.de,.int .u64 C.mo,.int .u64 C.ml,.int .u64 C.io,.int .u64 C.il,.int .u64 C.fo,.int .u64 C.fl,.pointer (some ⟨C.ixp,0,none⟩),C.fb]
structure FBk (w:World) (f q:Nat) (fd:Bs) (fs:FS):Prop where
 blk:Blk w f #[.pointer none,.slice (some ⟨q,0,none⟩) fd.length (fd.length+5),.int .i64 (cbuf fs.cs).length,.int .u64 11,.int .i64 fs.cs.length] 234
 sl:Sl w (some ⟨q,0,none⟩) fd.length (fd.length+5) fd
structure FOk (T:TI) (fs:FS):Prop where
 ok:fs.ok T.n
 eq:T.fd=fdata (cbuf fs.cs) (coffs fs.cs)
 has:∀ b∈T.B,∀ e∈b.es,∃ c,fs.cs[b.off / 2048]?=some c∧bhash e.1∈c.1
structure RD (Bd:Nat) (w:World) (r:Nat) (C:RC) (T:TI):Prop where
 blk:Blk w r (rcC C) 144
 fr:FR' w C.rd C.fa C.fc T.F
 ix:BE w C.ixp C.ixq C.io C.il 1 [] (ients T.ri T.B T.sp)
 io:C.io=(dfile T.n T.ri T.B T.fd++sealB (metaB T.n T.ri T.B T.fd)).length
 il:C.il=(indexB T.ri T.B T.sp).length
 opt:OptAt w C.o T.bs T.ri T.n
 fil:(T.n=0∧C.fv=.nilIface)∨(0 < T.n∧C.fv=.iface 194 (.int .i64 T.n)∧∃ f q fs,C.fb=.pointer (some ⟨f,0,none⟩)∧FBk w f q T.fd fs∧f < Bd∧q < Bd∧FOk T fs)
 lr:r < Bd
 lrd:C.rd < Bd
 lo:C.o < Bd
 lp:C.ixp < Bd
 lq:C.ixq < Bd
 lf:∀ p,C.fa=some p→p.block < Bd
 ok:T.ok
 bd:Bd≤w.heap.size
theorem sl_below {B:Nat} {w w':World} {a:Option Addr} {n c:Nat} {l:Bs} (h:Sl w a n c l) (hb:Below B w w') (ha:∀ p,a=some p→p.block < B):Sl w' a n c l :=
 h.fr' fun b o e _ _=>World.cell?_of_block (hb.block b (ha _ e))
theorem RD.below {Bd:Nat} {w w':World} {r:Nat} {C:RC} {T:TI} (h:RD Bd w r C T) (hb:Below Bd w w'):RD Bd w' r C T :=
 ⟨(hb.block _ h.lr).trans h.blk,⟨(hb.block _ h.lrd).trans h.fr.blk,sl_below h.fr.sl hb h.lf⟩,h.ix.keep (hb.block _ h.lp) (hb.block _ h.lq),h.io,h.il,h.opt.keep (hb.block _ h.lo),by
  rcases h.fil with h1 | ⟨h1,h2,f,q,fs,h3,h4,h5,h6,h7⟩
  ·exact .inl h1
  ·exact .inr ⟨h1,h2,f,q,fs,h3,⟨(hb.block _ h5).trans h4.blk,sl_below h4.sl hb (fun p e=>by cases e;exact h6)⟩,h5,h6,h7⟩,h.lr,h.lrd,h.lo,h.lp,h.lq,h.lf,h.ok,Nat.le_trans h.bd hb.size⟩
theorem RD.sz {Bd:Nat} {w:World} {r:Nat} {C:RC} {T:TI} (h:RD Bd w r C T):T.F.length≤2147483647:=by
 have:=h.ok.tab.len;unfold TI.F;omega
theorem RD.c {Bd:Nat} {w:World} {r:Nat} {C:RC} {T:TI} (h:RD Bd w r C T) (k:Nat):w.cell? ⟨r,k,none⟩=(rcC C)[k]?:=h.blk.cell' k
section
variable {Bd:Nat} {w:World} {r:Nat} {C:RC} {T:TI}
theorem RD.cached (h:RD Bd w r C T) (off ri:Nat) (p0:Bs) (es:List KV) (hs:Sealed T.F off (bdata ri p0 es)) (hri:0 < ri) (hks:∀ e∈es,e.1.length≤1073741824) (x4:Bool) :
  Calls Tryz.prog 76 #[.pointer (some ⟨r,0,none⟩),.agg #[.int .u64 off,.int .u64 (bdata ri p0 es).length],.bool true,.bool x4] w fun e w'=>∃ p q,e=.returned (.tuple #[.pointer (some ⟨p,0,none⟩),.iface 141 (.pointer (some ⟨p,0,none⟩)),.nilIface]) ∧
   BE w' p q off (bdata ri p0 es).length ri p0 es∧w.heap.size≤p∧w.heap.size≤q∧p≠q∧Below w.heap.size w w':=by
 obtain ⟨w1,hw1⟩:∃ w1,w1=w.alloc (.cells #[.int .u64 off,.int .u64 (bdata ri p0 es).length] 114):=⟨_,rfl⟩;have hs1:w1.heap.size=w.heap.size+1:=by rw [hw1];simp
 have hb1:Below w.heap.size w w1:=by rw [hw1];exact (Below.refl _ _).alloc (Nat.le_refl _) _
 have hbox:Blk w1 w.heap.size #[.int .u64 off,.int .u64 (bdata ri p0 es).length] 114:=by rw [hw1];exact Blk.new w _ _
 have hrl:=h.blk.lt;have hc:=readBlock_any w1 r C.rd C.fc off C.fa T.F (h.fr.fr (S:=fun _=>False) (Fr.of_below hb1) (fun h=>h) (fun _ _ h=>h)) h.sz ((World.cell?_of_block (a:=⟨r,2,none⟩) (hb1.block r hrl)).trans (h.c 2)) ((World.cell?_of_block (a:=⟨r,4,none⟩) (hb1.block r hrl)).trans (h.c 4)) ri p0 es hs hri hks;have hz0:=hbox.cell (k:=0) rfl;have hz1:=hbox.cell (k:=1) rfl;have HB1:=hid hb1;clear h hs hbox hb1
 generalize hD:(bdata ri p0 es).length=L at *;have HD:=hid hD;clear hD;go_enter Tryz.func76,Tryz.ntmps76
 go_wp2_with fail
 rw [← hw1];refine hc.mono ?_;rintro e w2 ⟨p,q,rfl,hE,hp,hq,hpq,hb2⟩;have HF:Hid (BE w2 p q off L ri p0 es∧w.heap.size≤p∧w.heap.size≤q∧p≠q∧Below w.heap.size w w2):=hid ⟨hE,by omega,by omega,hpq,HB1.out.trans (hb2.mono (by omega))⟩;clear hc hE hp hq hpq hb2 hw1 hz0 hz1;dsimp only;go_wp2_with fail
 go_returns
 exact ⟨p,q,rfl,HF.out⟩
theorem RD.index (h:RD Bd w r C T) (x:Bool):Calls Tryz.prog 73 #[.pointer (some ⟨r,0,none⟩),.bool x] w fun e w'=>e=.returned (.tuple #[.pointer (some ⟨C.ixp,0,none⟩),.iface 246 (.agg #[]),.nilIface])∧w'=w:=by
 have h16:w.cell? ⟨r,16,none⟩=some (.pointer (some ⟨C.ixp,0,none⟩)):=h.c 16;clear h;go_enter Tryz.func73,Tryz.ntmps73
 go_wp2
 go_returns
 exact ⟨rfl,rfl⟩
theorem RD.strict (h:RD Bd w r C T):Calls Tryz.prog 75 #[.pointer (some ⟨C.o,0,none⟩),.pointer none,.int .u64 32] w fun e w'=>e=.returned (.bool true)∧w'=w:=by
 have h29:w.cell? ⟨C.o,29,none⟩=some (.int .u64 127):=Blk.cell (k:=29) h.opt rfl;have h1:=rostrict_any w 128;have h2:Calls Tryz.prog 54 #[.pointer (some ⟨C.o,0,none⟩),.int .u64 32] w fun e w'=>e=.returned (.bool true)∧w'=w:=by
  clear h h1;go_enter Tryz.func54,Tryz.ntmps54
  go_wp2
  go_ret
  exact ⟨rfl,rfl⟩
 clear h h29;go_enter Tryz.func75,Tryz.ntmps75
 go_wp2_with fail
 refine h1.mono ?_;rintro e w' ⟨rfl,rfl⟩;dsimp only;go_wp2_with fail
 refine h2.mono ?_;rintro e w' ⟨rfl,rfl⟩;dsimp only;go_wp2
 go_ret
 exact ⟨rfl,rfl⟩
end
def BFull (c:IC) (d:DBk) (lo hi st:Nat):Prop:=lo=0∧hi=d.es.length∧st=0∧c.riS=0∧c.riL=(bends d.ri d.p0 d.es).length∧c.oS=0∧c.oR=0∧c.oL=eoff d.ri d.p0 d.es d.es.length∧d.fw=false∧d.ri≤1000
def NewTo (r p:Nat) (x2:Value) (d:DBk) (lo hi:Nat) (w:World) (e:Ending) (w':World):Prop :=
 ∃ g c st,e=.returned (.pointer (some ⟨g,0,none⟩))∧BC w' g (fun k=>w.heap.size≤k∧k < w'.heap.size) c d lo hi st 0∧c.tr=r∧c.p=p∧c.x2=x2∧Below w.heap.size w w'∧(d.fw=false→BFull c d lo hi st)
theorem newBI_to (w:World) (r p:Nat) (x2:Value) (incl:Bool) (d:DBk) (hE:BE w p d.q d.off d.len d.ri d.p0 d.es) (hx:x2=.nilIface∨x2=.iface 246 (.agg #[])∨x2=.iface 141 (.pointer (some ⟨p,0,none⟩))) (hri:d.ri≤1000) :
  Calls Tryz.prog 59 #[.pointer (some ⟨r,0,none⟩),.pointer (some ⟨p,0,none⟩),x2,.pointer none,.bool incl] w (NewTo r p x2 d 0 d.es.length w):=by
 refine (newBI_any w r p x2 incl d hE hx).mono ?_;rintro e w' ⟨h1,h2,h3⟩;exact ⟨_,_,_,h1,h2,rfl,rfl,rfl,h3,fun h=>⟨rfl,rfl,rfl,rfl,rfl,rfl,rfl,rfl,h,hri⟩⟩
def GetTo (r:Nat) (es:List KV) (fw:Bool) (lo hi:Nat) (w:World) (e:Ending) (w':World):Prop :=
 ∃ g c d st,e=.returned (.iface 153 (.pointer (some ⟨g,0,none⟩)))∧BC w' g (fun k=>w.heap.size≤k∧k < w'.heap.size) c d lo hi st 0∧c.tr=r∧w.heap.size≤c.p∧c.p < w'.heap.size∧w.heap.size≤d.q∧d.q < w'.heap.size∧c.x2=.iface 141 (.pointer (some ⟨c.p,0,none⟩))∧d.es=es∧d.fw=fw∧Below w.heap.size w w'∧(d.fw=false→BFull c d lo hi st)
set_option maxHeartbeats 4000000 in
theorem RD.data {Bd:Nat} {w:World} {r:Nat} {C:RC} {T:TI} (h:RD Bd w r C T) {i:Nat} {b:DB} (hb:T.B[i]?=some b) (sl:Option Addr) (fw:Bool) (lo hi:Nat) (x4:Bool)
  (hN:∀ w1 p q,Below w.heap.size w w1→w.heap.size≤p→w.heap.size≤q→BE w1 p q b.off (b.bytes T.ri).length T.ri b.p0 b.es→Calls Tryz.prog 59 #[.pointer (some ⟨r,0,none⟩),.pointer (some ⟨p,0,none⟩),.iface 141 (.pointer (some ⟨p,0,none⟩)),.pointer sl,.bool false] w1 (NewTo r p (.iface 141 (.pointer (some ⟨p,0,none⟩))) ⟨q,b.off,(b.bytes T.ri).length,T.ri,b.p0,b.es,fw⟩ lo hi w1)) :
  Calls Tryz.prog 112 #[.pointer (some ⟨r,0,none⟩),.agg #[.int .u64 b.off,.int .u64 (b.bytes T.ri).length],.pointer sl,.bool true,.bool x4] w (GetTo r b.es fw lo hi w):=by
 have hr:=h.ok.ri;obtain ⟨w1,hw1⟩:∃ w1,w1=w.alloc (.cells #[.int .u64 b.off,.int .u64 (b.bytes T.ri).length] 114):=⟨_,rfl⟩;have hs1:w1.heap.size=w.heap.size+1:=by rw [hw1];simp
 have hb1:Below w.heap.size w w1:=by rw [hw1];exact (Below.refl _ _).alloc (Nat.le_refl _) _
 have hbox:Blk w1 w.heap.size #[.int .u64 b.off,.int .u64 (b.bytes T.ri).length] 114:=by rw [hw1];exact Blk.new w _ _
 have hz0:=hbox.cell (k:=0) rfl;have hz1:=hbox.cell (k:=1) rfl;have hc:=(h.below (hb1.mono h.bd)).cached b.off T.ri b.p0 b.es (h.ok.tab.sealed hb) (by omega) (h.ok.tab.dkeys h.ok.tot (List.mem_of_getElem? hb)) x4;have HB1:=hid hb1;have HN:=hid hN;clear h hN hbox hb1 hr;have hbe:bdata T.ri b.p0 b.es=b.bytes T.ri:=rfl;rw [hbe] at hc;generalize hL:(b.bytes T.ri).length=L at *;go_enter Tryz.func112,Tryz.ntmps112
 go_wp2_with fail
 rw [← hw1];refine hc.mono ?_;rintro e w2 ⟨p,q,rfl,hE,hp,hq,hpq,hb2⟩;have hb12:Below w.heap.size w w2:=HB1.out.trans (hb2.mono (by omega));have hn:=HN.out w2 p q hb12 (by omega) (by omega) hE;have hp2:=hE.rb.blk.lt;have hq2:=hE.rb.qlt;have HB:=hid hb12;have HPQ:=hid (show w.heap.size≤p∧p < w2.heap.size∧w.heap.size≤q∧q < w2.heap.size from ⟨by omega,hp2,by omega,hq2⟩);clear hc hE hp hq hpq hb2 hw1 hz0 hz1 hb12 hp2 hq2 HN
 dsimp only;go_wp2_with fail
 refine hn.mono ?_;rintro e w3 ⟨g,c,st,rfl,h1,h2,h3,h4,h5,h6⟩;have hsz:=h5.size;have hfin:GetTo r b.es fw lo hi w (.returned (.iface 153 (.pointer (some ⟨g,0,none⟩)))) w3:=by
  obtain ⟨q1,q2,q3,q4⟩:=HPQ.out;have hbb:=HB.out.size;exact ⟨g,c,_,st,rfl,h1.mono (fun k _ hk=>⟨by omega,hk.2⟩),h2,by rw [h3];exact q1,by rw [h3];omega,q3,by show q < _;omega,by rw [h4,h3],rfl,rfl,HB.out.trans (h5.mono hbb),h6⟩
 have HFIN:=hid hfin;clear hn h1 h2 h3 h4 h5 h6 hfin;dsimp only;go_wp2
 go_ret
 exact HFIN.out
theorem GetTo.from {r:Nat} {es:List KV} {fw:Bool} {lo hi:Nat} {w w1 w':World} {e:Ending} (hb:Below w.heap.size w w1) (h:GetTo r es fw lo hi w1 e w'):GetTo r es fw lo hi w e w':=by
 obtain ⟨g,c,d,st,h0,h1,h2,h3,h4,h5,h6,h7,h8,h8',h9,h10⟩:=h;have:=hb.size;exact ⟨g,c,d,st,h0,h1.mono (fun k _ hk=>⟨by omega,hk.2⟩),h2,by omega,h4,by omega,h6,h7,h8,h8',hb.trans (h9.mono this),h10⟩
theorem RD.dataErr {Bd:Nat} {w:World} {r:Nat} {C:RC} {T:TI} (h:RD Bd w r C T) (o n:Nat) (sl:Option Addr) (x4:Bool) (es:List KV) (fw:Bool) (lo hi:Nat)
  (hN:∀ w1,Below w.heap.size w w1→Calls Tryz.prog 112 #[.pointer (some ⟨r,0,none⟩),.agg #[.int .u64 o,.int .u64 n],.pointer sl,.bool true,.bool x4] w1 (GetTo r es fw lo hi w1)) :
  Calls Tryz.prog 230 #[.pointer (some ⟨r,0,none⟩),.agg #[.int .u64 o,.int .u64 n],.pointer sl,.bool true,.bool x4] w (GetTo r es fw lo hi w):=by
 have h3:w.cell? ⟨r,3,none⟩=some .nilIface:=h.c 3;have hrl:=h.blk.lt;have hc:=hN (w.alloc (.cells #[.int .u64 o,.int .u64 n] 114)) ((Below.refl _ _).alloc (Nat.le_refl _) _);have HB:Hid (Below w.heap.size w (w.alloc (.cells #[.int .u64 o,.int .u64 n] 114))):=hid ((Below.refl _ _).alloc (Nat.le_refl _) _);clear h hN;go_enter Tryz.func230,Tryz.ntmps230
 go_wp2_with fail
 refine hc.mono ?_;rintro e w3 hg;have HG:=hid (hg.from HB.out);obtain ⟨g,c,d,st,rfl,_⟩:=hg;clear hc;dsimp only;go_wp2
 go_ret
 exact HG.out
end
section
open Go Go.RowKit Go.Shelf
section
variable {w:World} {g:Nat} {S:Nat→Prop} {c:IC} {d:DBk} {lo hi st cur:Nat}
theorem BC.isFirst (h:BC w g S c d lo hi st cur) {k:Nat} (hc:cur=k+1) (hk:k < hi) (hfw:d.fw=true):Calls Tryz.prog 228 #[.pointer (some ⟨g,0,none⟩)] w fun r w'=>r=.returned (.bool (decide (k=lo)))∧∃ n,w'=w.drewN n:=by
 obtain ⟨s,O,key,nodes,pk,h1,h2,h3,h4,h5,h6⟩:=h;rcases h6 with ⟨e0,_⟩ | ⟨e0,_⟩ | ⟨k',e,e0,b1,b2,b3,b4,b5,b6,b7⟩
 ·omega
 ·omega
 ·obtain rfl:k'=k:=by omega
  have hlh:=h5.lh;have hhm:=h5.hm;rcases b7 with ⟨f1,f2,_⟩ | ⟨_,f2,_⟩
  ·have hz11:=h1.dirCell;rw [f1] at hz11;have hz7:w.cell? ⟨g,7,none⟩=some (.int .i64 (s.poff:Int)):=h1.blk.cell (k:=7) rfl;have hz15:w.cell? ⟨g,15,none⟩=some (.int .i64 (c.oR:Int)):=h1.blk.cell (k:=15) rfl;have he:((s.poff:Int) == (c.oR:Int))=decide (k'=lo):=by
    rw [f2,h5.oR];by_cases hl:k'=lo
    ·rw [hl,decide_eq_true rfl,beq_self_eq_true]
    ·rw [decide_eq_false hl,beq_eq_false_iff_ne];intro e;exact hl (eoff_inj (ri:=d.ri) (p:=d.p0) (es:=d.es) (by omega) (by omega) (by omega))
   generalize hD:decide (k'=lo)=D at *;clear h1 h2 h3 h4 h5 b3 b4 b5 b6 f1 f2 hD;generalize s.poff=a at *;generalize c.oR=b at *;go_enter Tryz.func228,Tryz.ntmps228
   go_upto_region 3 with fail
   go_quiet (fail)
   go_wp2
   go_ret
   exact ⟨rfl,_,rfl⟩
  ·rw [hfw] at f2;cases f2
theorem BC.isLast (h:BC w g S c d lo hi st cur) {k:Nat} (hc:cur=k+1) (hk:k < hi) (hfw:d.fw=true):Calls Tryz.prog 229 #[.pointer (some ⟨g,0,none⟩)] w fun r w'=>r=.returned (.bool (decide (k+1=hi)))∧∃ n,w'=w.drewN n:=by
 obtain ⟨s,O,key,nodes,pk,h1,h2,h3,h4,h5,h6⟩:=h;rcases h6 with ⟨e0,_⟩ | ⟨e0,_⟩ | ⟨k',e,e0,b1,b2,b3,b4,b5,b6,b7⟩
 ·omega
 ·omega
 ·obtain rfl:k'=k:=by omega
  have hlh:=h5.lh;have hhm:=h5.hm;rcases b7 with ⟨f1,f2,_⟩ | ⟨_,f2,_⟩
  ·have hz11:=h1.dirCell;rw [f1] at hz11;have hz7:w.cell? ⟨g,6,none⟩=some (.int .i64 (s.off:Int)):=h1.blk.cell (k:=6) rfl;have hz15:w.cell? ⟨g,16,none⟩=some (.int .i64 (c.oL:Int)):=h1.blk.cell (k:=16) rfl;have he:((s.off:Int) == (c.oL:Int))=decide (k'+1=hi):=by
    rw [b6,h5.oL];by_cases hl:k'+1=hi
    ·rw [hl,decide_eq_true rfl,beq_self_eq_true]
    ·rw [decide_eq_false hl,beq_eq_false_iff_ne];intro e;exact hl (eoff_inj (ri:=d.ri) (p:=d.p0) (es:=d.es) (by omega) (by omega) (by omega))
   generalize hD:decide (k'+1=hi)=D at *;clear h1 h2 h3 h4 h5 b3 b4 b5 b6 f1 f2 hD;generalize s.off=a at *;generalize c.oL=b at *;go_enter Tryz.func229,Tryz.ntmps229
   go_upto_region 4 with fail
   go_quiet (fail)
   go_wp2
   go_ret
   exact ⟨rfl,_,rfl⟩
  ·rw [hfw] at f2;cases f2
end
theorem hdl_pos (x y:Nat):0 < (hdl x y).length:=by unfold hdl;rw [List.length_append];have:=uvarint_pos x;omega
set_option maxHeartbeats 8000000 in
theorem iget_any {Bd:Nat} {w:World} {r:Nat} {C:RC} {T:TI} (h:RD Bd w r C T) (ii gx:Nat) (slA:Option Addr) (fc:Bool) (hii:Blk w ii #[.pointer (some ⟨gx,0,none⟩),.pointer (some ⟨r,0,none⟩),.pointer slA,.bool fc] 175)
  {X:Nat→Prop} {c:IC} {d:DBk} {lo hi st i:Nat} (hx:BC w gx X c d lo hi st (i+1)) (hi':i < hi) (hde:d.es=ients T.ri T.B T.sp) (hdf:slA≠none→d.fw=true) {b:DB} (hb:T.B[i]?=some b) (fw:Bool) (dl dh:Nat)
  (hpl:(slA=none∨(i≠lo∧i+1≠hi))→dl=0∧dh=b.es.length)
  (hsl:slA≠none→∀ w1 p q,Below w.heap.size w w1→w.heap.size≤p→w.heap.size≤q→BE w1 p q b.off (b.bytes T.ri).length T.ri b.p0 b.es→Calls Tryz.prog 59 #[.pointer (some ⟨r,0,none⟩),.pointer (some ⟨p,0,none⟩),.iface 141 (.pointer (some ⟨p,0,none⟩)),.pointer slA,.bool false] w1 (NewTo r p (.iface 141 (.pointer (some ⟨p,0,none⟩))) ⟨q,b.off,(b.bytes T.ri).length,T.ri,b.p0,b.es,fw⟩ dl dh w1)) :
  Calls Tryz.prog 227 #[.pointer (some ⟨ii,0,none⟩)] w (GetTo r b.es fw dl dh w):=by
 obtain ⟨e,o,c',he,hsv,hval⟩:=hx.value rfl hi';rw [hde] at he;obtain ⟨b',hb',_,hhd⟩:=h.ok.tab.iat he;obtain rfl:b'=b:=Option.some.inj (hb'.symm.trans hb);have hbl:b'.off < 34359738368∧(b'.bytes T.ri).length < 34359738368:=by
  have h1:=(h.ok.tab.sealed hb).len;have h2:=h.ok.tab.len;omega
 rw [hhd] at hsv hval;have hdec:=decodeBH_any _ _ _ b'.off (b'.bytes T.ri).length [] w (by rw [List.append_nil];exact hsv) hbl.1 hbl.2;have hpos:=hdl_pos b'.off (b'.bytes T.ri).length;have hz0:w.cell? ⟨ii,0,none⟩=some (.pointer (some ⟨gx,0,none⟩)):=hii.cell (k:=0) rfl;have hiil:=hii.lt;have H:=hid h;have HX:=hid hx;have HII:=hid hii;have HPL:=hid hpl;have HSL:=hid hsl;have HD:=hid (show d.es=ients T.ri T.B T.sp∧(slA≠none→d.fw=true)∧e.2=hdl b'.off (b'.bytes T.ri).length from ⟨hde,hdf,hhd⟩)
 have HB:=hid hb;clear h hx hii hpl hsl hde hdf hhd hsv he hb' hb;generalize hHL:(hdl b'.off (b'.bytes T.ri).length).length=HL at *;clear hHL;have hnl:∀ w',(binOp BinOp.eql 29 (Value.slice (some ⟨d.q,o,none⟩) HL c') (Value.slice none 0 0)).run Tryz.prog w'=.ok (.bool false) w':=fun _=>by rfl
 go_enter Tryz.func227,Tryz.ntmps227
 go_wp2_with fail
 refine hval.mono ?_;rintro e w1 ⟨rfl,rfl⟩;clear hval;dsimp only;go_wp2_with fail
 refine hdec.mono ?_;rintro e w2 ⟨rfl,hb2⟩;have hnz:((HL:Int) == 0)=false:=by rw [beq_eq_false_iff_ne];omega
 have hs2:=hb2.size;have HB2:=hid hb2;have hz20:w2.cell? ⟨ii,0,none⟩=some (.pointer (some ⟨gx,0,none⟩)):=(World.cell?_of_block (a:=⟨ii,0,none⟩) (hb2.block ii hiil)).trans hz0;have hz22:w2.cell? ⟨ii,2,none⟩=some (.pointer slA):=(World.cell?_of_block (a:=⟨ii,2,none⟩) (hb2.block ii hiil)).trans (HII.out.cell (k:=2) rfl);have hl2:ii < w2.heap.size:=by omega
 clear hdec hb2 hz0;dsimp only;go_upto_region 8 with fail
 obtain ⟨w3,hw3⟩:∃ w3,w3=w2.alloc (Obj.cells #[Value.int IntKind.u64 b'.off,Value.int IntKind.u64 (b'.bytes T.ri).length] 114):=⟨_,rfl⟩;rw [← hw3];have hb3:Below w1.heap.size w1 w3:=by rw [hw3];exact HB2.out.alloc hs2 _
 have hbx:Blk w3 w2.heap.size #[Value.int IntKind.u64 b'.off,Value.int IntKind.u64 (b'.bytes T.ri).length] 114:=by rw [hw3];exact Blk.new w2 _ _
 have h3:=H.out.below (hb3.mono H.out.bd);have hx3:=HX.out.keep (fun k hk _=>hb3.block k hk);have hii3:Blk w3 ii _ 175:=(hb3.block ii hiil).trans HII.out;have hy0:=hii3.cell (k:=0) rfl;have hy1:=hii3.cell (k:=1) rfl;have hy2:=hii3.cell (k:=2) rfl;have hy3:=hii3.cell (k:=3) rfl;have hr8:w3.cell? ⟨r,8,none⟩=some (.bool true):=h3.c 8;have hc0:=hbx.cell (k:=0) rfl;have hc1:=hbx.cell (k:=1) rfl;have hdN:(dl=0∧dh=b'.es.length)→∀ k,Calls Tryz.prog 230 #[.pointer (some ⟨r,0,none⟩),.agg #[.int .u64 b'.off,.int .u64 (b'.bytes T.ri).length],.pointer none,.bool true,.bool fc] (w3.drewN k) (GetTo r b'.es fw dl dh (w3.drewN k)):=by
  rintro ⟨rfl,rfl⟩ k;have hd0:=h3.below (Below.drewN' _ w3 k);exact hd0.dataErr _ _ none fc _ fw 0 _ (fun w6 hb6=>(hd0.below (hb6.mono hd0.bd)).data HB.out none fw 0 _ fc (fun w7 p q _ _ _ hE=>newBI_to w7 r p _ false ⟨q,b'.off,(b'.bytes T.ri).length,T.ri,b'.p0,b'.es,fw⟩ hE (.inr (.inr rfl)) (show T.ri≤1000 by have:=h3.ok.ri;omega)))
 have hdS:slA≠none→∀ k,Calls Tryz.prog 230 #[.pointer (some ⟨r,0,none⟩),.agg #[.int .u64 b'.off,.int .u64 (b'.bytes T.ri).length],.pointer slA,.bool true,.bool fc] (w3.drewN k) (GetTo r b'.es fw dl dh (w3.drewN k)):=by
  intro hn k;have hd0:=h3.below (Below.drewN' _ w3 k);refine hd0.dataErr _ _ slA fc _ fw dl dh (fun w6 hb6=>(hd0.below (hb6.mono hd0.bd)).data HB.out slA fw dl dh fc (fun w7 p q hb7 hp hq hE=>?_));have hsz3:=hb3.size;have hb36:Below w1.heap.size w1 w6:=(hb3.trans (Below.drewN' _ _ _)).trans (hb6.mono hsz3);have hs6:=hb36.size;exact HSL.out hn w7 p q (hb36.trans (hb7.mono hs6)) (by omega) (by omega) hE
 have HB3:=hid hb3;have HDN:=hid hdN;have HDS:=hid hdS;have hFi:slA≠none→Calls Tryz.prog 228 #[.pointer (some ⟨gx,0,none⟩)] w3 fun r w'=>r=.returned (.bool (decide (i=lo)))∧∃ n,w'=w3.drewN n:=fun hn=>hx3.isFirst rfl hi' (HD.out.2.1 hn)
 have hLa:slA≠none→∀ k,Calls Tryz.prog 229 #[.pointer (some ⟨gx,0,none⟩)] (w3.drewN k) fun r w'=>r=.returned (.bool (decide (i+1=hi)))∧∃ n,w'=w3.drewN n:=fun hn k=>by
  refine ((hx3.keep (w':=w3.drewN k) (fun _ _ _=>rfl)).isLast rfl hi' (HD.out.2.1 hn)).mono ?_;rintro e w' ⟨h1,n,h2⟩;exact ⟨h1,k+n,by rw [h2,World.drewN_drewN]⟩
 have HFI:=hid hFi;have HLA:=hid hLa;clear hb3 hbx h3 hx3 hii3 hdN hdS hFi hLa hw3 hz20 hz22 hnl hs2;cases slA with
 | none =>
  have hd:=HDN.out (HPL.out (.inl rfl));go_wp2_with fail
  go_upto_region 10 with fail
  refine wp_tail 17 (by kernel_rfl) ?_;simp only [List.take_succ_cons,List.take_zero,List.drop_succ_cons,List.drop_zero];repeat still_step
  refine wpStill_nil ?_;go_wp2_with fail
  refine (hd _).mono ?_;rintro e w5 hg;have HG:=hid (hg.from (HB3.out.trans (Below.drewN' _ _ _)));obtain ⟨g',c2,d2,st2,rfl,_⟩:=hg;dsimp only;go_wp2
  go_ret
  exact HG.out
 | some a =>
  have hfi:=HFI.out (by simp);have hla:=HLA.out (by simp);have hds:=HDS.out (by simp);by_cases h1:i=lo
  ·rw [decide_eq_true h1] at hfi;go_wp2_with fail
   refine hfi.mono ?_;rintro e w4 ⟨rfl,k4,rfl⟩;dsimp only;go_upto_region 10 with fail
   refine wp_tail 17 (by kernel_rfl) ?_;simp only [List.take_succ_cons,List.take_zero,List.drop_succ_cons,List.drop_zero];repeat still_step
   refine wpStill_nil ?_;go_wp2_with fail
   refine (hds _).mono ?_;rintro e w5 hg;have HG:=hid (hg.from (HB3.out.trans (Below.drewN' _ _ _)));obtain ⟨g',c2,d2,st2,rfl,_⟩:=hg;dsimp only;go_wp2
   go_ret
   exact HG.out
  ·rw [decide_eq_false h1] at hfi;by_cases h2:i+1=hi
   ·rw [decide_eq_true h2] at hla;go_wp2_with fail
    refine hfi.mono ?_;rintro e w4 ⟨rfl,k4,rfl⟩;dsimp only;go_wp2_with fail
    refine (hla _).mono ?_;rintro e w5 ⟨rfl,k5,rfl⟩;dsimp only;go_upto_region 10 with fail
    refine wp_tail 17 (by kernel_rfl) ?_;simp only [List.take_succ_cons,List.take_zero,List.drop_succ_cons,List.drop_zero];repeat still_step
    refine wpStill_nil ?_;go_wp2_with fail
    refine (hds _).mono ?_;rintro e w5 hg;have HG:=hid (hg.from (HB3.out.trans (Below.drewN' _ _ _)));obtain ⟨g',c2,d2,st2,rfl,_⟩:=hg;dsimp only;go_wp2
    go_ret
    exact HG.out
   ·rw [decide_eq_false h2] at hla;have hdn:=HDN.out (HPL.out (.inr ⟨h1,h2⟩));go_wp2_with fail
    refine hfi.mono ?_;rintro e w4 ⟨rfl,k4,rfl⟩;dsimp only;go_wp2_with fail
    refine (hla _).mono ?_;rintro e w5 ⟨rfl,k5,rfl⟩;dsimp only;go_upto_region 10 with fail
    refine wp_tail 17 (by kernel_rfl) ?_;simp only [List.take_succ_cons,List.take_zero,List.drop_succ_cons,List.drop_zero];repeat still_step
    refine wpStill_nil ?_;go_wp2_with fail
    refine (hdn _).mono ?_;rintro e w5 hg;have HG:=hid (hg.from (HB3.out.trans (Below.drewN' _ _ _)));obtain ⟨g',c2,d2,st2,rfl,_⟩:=hg;dsimp only;go_wp2
    go_ret
    exact HG.out
end
section
open Go Go.RowKit Go.Shelf
theorem blkRel_any (w:World) (p q off len:Nat) (D:Bs) (nr ro:Nat) (h:Rb w p q off len D nr ro):Calls Tryz.prog 66 #[.pointer (some ⟨p,0,none⟩)] w fun e w'=>e=.returned (.tuple #[])∧Fr (fun k=>k=p) w w':=by
 have hz0:w.cell? ⟨p,0,none⟩=some (.pointer none):=h.blk.cell (k:=0) rfl;have hz3:w.cell? ⟨p,3,none⟩=some (.slice (some ⟨q,0,none⟩) D.length (D.length+5)):=h.blk.cell (k:=3) rfl;have hf0:=h.blk.free 0;have hf3:=h.blk.free 3;have hF:∀ k x y,Fr (fun k=>k=p) w ((((w.drewN k).setCell ⟨p,0,none⟩ x).setCell ⟨p,3,none⟩ y)):=fun k x y=>(((Fr.refl (fun k=>k=p) w).drewN k).setC p 0 x rfl).setC p 3 y rfl
 have HF:=hid hF;clear h hF;generalize D.length=L at *;go_enter Tryz.func66,Tryz.ntmps66
 go_upto_region 0 with fail
 refine wp_tail 8 (by kernel_rfl) ?_;simp only [List.take_succ_cons,List.take_zero,List.drop_succ_cons,List.drop_zero];repeat still_step
 refine wpStill_nil ?_;go_wp2_with fail
 refine (bpput_any _ _).mono ?_;rintro e w2 ⟨rfl,rfl⟩;dsimp only;go_wp2
 go_end0
 exact ⟨rfl,HF.out 1 _ _⟩
set_option maxHeartbeats 4000000 in
theorem BC.release' {w:World} {g:Nat} {S:Nat→Prop} {c:IC} {d:DBk} {lo hi st cur:Nat} (h:BC w g S c d lo hi st cur) (hx:c.x2=.nilIface∨c.x2=.iface 246 (.agg #[])∨c.x2=.iface 141 (.pointer (some ⟨c.p,0,none⟩))) :
  Calls Tryz.prog 65 #[.pointer (some ⟨g,0,none⟩)] w fun e w'=>e=.returned (.tuple #[])∧Fr (fun k=>k=g∨(k=c.p∧c.x2=.iface 141 (.pointer (some ⟨c.p,0,none⟩)))) w w'∧w'.cell? ⟨g,17,none⟩=some .nilIface:=by
 obtain ⟨s,O,key,nodes,pk,h1,h2,h3,h4,h5,h6⟩:=h;have hdm:((s.dir:Int) == -1)=false:=by rw [beq_eq_false_iff_ne];omega
 have hz11:=h1.dirCell;have hz0:w.cell? ⟨g,0,none⟩=some (.pointer (some ⟨c.tr,0,none⟩)):=h1.blk.cell (k:=0) rfl;have hz1:w.cell? ⟨g,1,none⟩=some (.pointer (some ⟨c.p,0,none⟩)):=h1.blk.cell (k:=1) rfl;have hz2:w.cell? ⟨g,2,none⟩=some c.x2:=h1.blk.cell (k:=2) rfl;have hz3:w.cell? ⟨g,3,none⟩=some .nilIface:=h1.blk.cell (k:=3) rfl;have hz4:w.cell? ⟨g,4,none⟩=some s.kv:=h1.blk.cell (k:=4) rfl;have hz5:w.cell? ⟨g,5,none⟩=some s.vv:=h1.blk.cell (k:=5) rfl
 have hz8:w.cell? ⟨g,8,none⟩=some s.nv:=h1.blk.cell (k:=8) rfl;have hz9:w.cell? ⟨g,9,none⟩=some s.pv:=h1.blk.cell (k:=9) rfl;have hz17:w.cell? ⟨g,17,none⟩=some .nilIface:=h1.blk.cell (k:=17) rfl;have hf:=fun k=>h1.blk.free k
 have hf0:=hf 0;have hf1:=hf 1;have hf2:=hf 2;have hf4:=hf 4;have hf5:=hf 5;have hf8:=hf 8;have hf9:=hf 9;have hf11:=hf 11;have hpg:=h3.1;have hSg:=h4 g (.inl rfl);obtain ⟨w7,hw7⟩:∃ w7,w7=((((((w.setCell ⟨g,0,none⟩ (.pointer none)).setCell ⟨g,1,none⟩ (.pointer none)).setCell ⟨g,8,none⟩ (.slice none 0 0)).setCell ⟨g,9,none⟩ (.slice none 0 0)).setCell ⟨g,4,none⟩ (.slice none 0 0)).setCell ⟨g,5,none⟩ (.slice none 0 0)).setCell ⟨g,11,none⟩ (.int .i64 (-1)):=⟨_,rfl⟩
 have hF7:Fr (fun k=>k=g) w w7:=by
  rw [hw7];exact (((((((Fr.refl (fun k=>k=g) w).setC g 0 _ rfl).setC g 1 _ rfl).setC g 8 _ rfl).setC g 9 _ rfl).setC g 4 _ rfl).setC g 5 _ rfl).setC g 11 _ rfl
 have hrb:Rb w7 c.p d.q d.off d.len _ _ _:=h2.rb.keep (by rw [hw7];simp only [Below.heap_setCell _ ⟨g,_,none⟩ _ _ hpg]) (by rw [hw7];simp only [Below.heap_setCell _ ⟨g,_,none⟩ _ _ h3.2.1]);have hbr:=blkRel_any w7 c.p d.q d.off d.len _ _ _ hrb;have hno:=noop_any w7;have h72:w7.cell? ⟨g,2,none⟩=some c.x2:=by rw [hw7];go_simp
 have h73:w7.cell? ⟨g,3,none⟩=some .nilIface:=by rw [hw7];go_simp
 have h717:w7.cell? ⟨g,17,none⟩=some .nilIface:=by rw [hw7];go_simp
 have h7f:w7.frozen? ⟨g,2,none⟩=false:=by rw [hw7];go_simp
 have hgl7:g < w7.heap.size:=lt_of_cell h72;have HF7:=hid hF7;have HSG:=hid hSg;clear hf h1 h2 h3 h4 h5 h6 hrb hF7 hSg;rcases hx with e | e | e
 ·rw [e] at hz2;have H17:=hid h717;clear hbr hno h72 h73 h7f h717;go_enter Tryz.func65,Tryz.ntmps65
  go_wp2_with fail
  go_end0
  rw [← hw7];exact ⟨rfl,HF7.out.mono (fun _ _ h=>.inl h),H17.out⟩
 ·rw [e] at hz2 h72;clear hbr;go_enter Tryz.func65,Tryz.ntmps65
  go_wp2_with fail
  rw [← hw7];refine hno.mono ?_;rintro e w8 ⟨rfl,hb8⟩;have h83:w8.cell? ⟨g,3,none⟩=some .nilIface:=(World.cell?_of_block (a:=⟨g,3,none⟩) (hb8.block g hgl7)).trans h73;have h82:w8.cell? ⟨g,2,none⟩=some (.iface 246 (.agg #[])):=(World.cell?_of_block (a:=⟨g,2,none⟩) (hb8.block g hgl7)).trans h72;have h8f:w8.frozen? ⟨g,2,none⟩=false:=(World.frozen?_of_block (a:=⟨g,2,none⟩) (hb8.block g hgl7)).trans h7f
  have hF:Fr (fun k=>k=g∨(k=c.p∧c.x2=.iface 141 (.pointer (some ⟨c.p,0,none⟩)))) w (w8.setCell ⟨g,2,none⟩ .nilIface):=((HF7.out.mono (fun _ _ h=>.inl h)).trans (S':=fun _=>False) (Fr.of_below hb8) (fun _ _ h=>h.elim)).setC g 2 _ (.inl rfl);have h817:w8.cell? ⟨g,17,none⟩=some .nilIface:=(World.cell?_of_block (a:=⟨g,17,none⟩) (hb8.block g hgl7)).trans h717;have HF:=hid (And.intro hF (show (w8.setCell ⟨g,2,none⟩ .nilIface).cell? ⟨g,17,none⟩=some .nilIface by go_simp))
  clear h717 h817 hno hb8 hw7 h72 h73 h7f hF;dsimp only;go_wp2_with fail
  go_end0
  exact ⟨rfl,HF.out⟩
 ·have HE:=hid e;rw [e] at hz2 h72;clear hno;go_enter Tryz.func65,Tryz.ntmps65
  go_wp2_with fail
  rw [← hw7];refine hbr.mono ?_;rintro e w8 ⟨rfl,hb8⟩;have hgp:g≠c.p:=fun e=>hpg e.symm
  have h83:w8.cell? ⟨g,3,none⟩=some .nilIface:=(World.cell?_of_block (a:=⟨g,3,none⟩) (hb8.block g hgl7 hgp)).trans h73;have h82:w8.cell? ⟨g,2,none⟩=some (.iface 141 (.pointer (some ⟨c.p,0,none⟩))):=(World.cell?_of_block (a:=⟨g,2,none⟩) (hb8.block g hgl7 hgp)).trans h72;have h8f:w8.frozen? ⟨g,2,none⟩=false:=(World.frozen?_of_block (a:=⟨g,2,none⟩) (hb8.block g hgl7 hgp)).trans h7f;have hF:Fr (fun k=>k=g∨(k=c.p∧c.x2=.iface 141 (.pointer (some ⟨c.p,0,none⟩)))) w (w8.setCell ⟨g,2,none⟩ .nilIface):=((HF7.out.mono (fun _ _ h=>.inl h)).trans hb8 (fun _ _ h=>.inr ⟨h,HE.out⟩)).setC g 2 _ (.inl rfl)
  have h817:w8.cell? ⟨g,17,none⟩=some .nilIface:=(World.cell?_of_block (a:=⟨g,17,none⟩) (hb8.block g hgl7 hgp)).trans h717;have HF:=hid (And.intro hF (show (w8.setCell ⟨g,2,none⟩ .nilIface).cell? ⟨g,17,none⟩=some .nilIface by go_simp));clear h717 h817 hbr hb8 hw7 h72 h73 h7f hF;dsimp only;go_wp2_with fail
  go_end0
  exact ⟨rfl,HF.out⟩
theorem BC.release {w:World} {g:Nat} {S:Nat→Prop} {c:IC} {d:DBk} {lo hi st cur:Nat} (h:BC w g S c d lo hi st cur) (hx:c.x2=.nilIface∨c.x2=.iface 246 (.agg #[])∨c.x2=.iface 141 (.pointer (some ⟨c.p,0,none⟩))) :
  Calls Tryz.prog 65 #[.pointer (some ⟨g,0,none⟩)] w fun e w'=>e=.returned (.tuple #[])∧Fr (fun k=>S k∨k=c.p) w w':=by
 have hS:S g:=by
  obtain ⟨s,O,key,nodes,pk,h1,h2,h3,h4,h5,h6⟩:=h;exact h4 g (.inl rfl)
 refine (h.release' hx).mono ?_;rintro e w' ⟨h1,h2,_⟩;exact ⟨h1,h2.mono (fun k _ hk=>hk.imp (fun e=>by rw [e];exact hS) And.left)⟩
theorem BE.ne {w:World} {p q off len ri:Nat} {p0:Bs} {es:List KV} (h:BE w p q off len ri p0 es):p≠q:=by
 rintro rfl;have h1:w.cell? ⟨p,0,none⟩=some (.pointer none):=h.rb.blk.cell (k:=0) rfl;have h2:=h.rb.sl.cellAt (j:=0) (by have:=h.rb.len;omega);rw [Nat.add_zero,h1] at h2;cases h2
end
end Go.Proofs.YtmkdpjicgjhhjaaGreatDoor
