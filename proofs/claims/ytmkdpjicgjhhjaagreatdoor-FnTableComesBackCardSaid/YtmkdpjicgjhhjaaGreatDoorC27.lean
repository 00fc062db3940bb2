/- Part 27 of the proof of FnTableComesBack: contracts and lemmas, each under the conditions that it states. Texts: BSeek, PPrev, BAcc. -/
import Derived.Test.YtmkdpjicgjhhjaaGreatDoorC26
import Derived.Test.YtmkdpjicgjhhjaaGreatDoorC22
import Derived.Test.YtmkdpjicgjhhjaaGreatDoorC15
import Derived.Test.YtmkdpjicgjhhjaaGreatDoorC17
namespace Go.Proofs.YtmkdpjicgjhhjaaGreatDoor
open Go.Lib (hid)
set_option maxRecDepth 100000
set_option linter.all false
section
open Go Go.RowKit Go.Shelf
open Go.Lib (compareBytes)
theorem max_any (a b m:Nat) (hm:m=max a b) (w:World):Calls Tryz.prog 115 #[.int .i64 a,.int .i64 b] w fun e w'=>e=.returned (.int .i64 m)∧w'=w:=by
 by_cases h:b < a
 ·have:m=a:=by omega
  subst this;clear hm;go_enter Tryz.func115,Tryz.ntmps115
  go_wp2
  go_ret
  exact ⟨rfl,rfl⟩
 ·have:m=b:=by omega
  subst this;have h2:¬ ((m:Int) < a):=by omega
  clear hm;go_enter Tryz.func115,Tryz.ntmps115
  go_wp2
  go_ret
  exact ⟨rfl,rfl⟩
def SeekTo (q ri:Nat) (p0:Bs) (es:List KV) (j hi:Nat) (s':IS) (k':Bs) (n':List Nat) (p':Bs):Prop :=
 n'=[]∧p'=[]∧(j < hi→s'.dir=3∧s'.poff=eoff ri p0 es j∧s'.off=eoff ri p0 es (j+1)∧s'.vv=eval' q ri p0 es j∧s'.rix*ri≤j∧∃ e,es[j]?=some e∧k'=e.1)∧(¬ j < hi→s'.dir=1)
def SRange (ri:Nat) (p0:Bs) (es:List KV) (c:IC) (lo:Nat):Prop :=
 c.riL=(bends ri p0 es).length∧((c.riS < (bends ri p0 es).length∧c.riS*ri≤lo∧c.oS=eoff ri p0 es (c.riS*ri))∨(c.riS=(bends ri p0 es).length∧es≠[]∧lo=es.length∧c.oS=eoff ri p0 es es.length))
theorem eoff_ge3 {ri:Nat} {p0:Bs} {es:List KV}:∀ i,i≤es.length→3*i≤eoff ri p0 es i
 | 0,_=>by simp
 | i+1,h=>by
  have ih:=eoff_ge3 (ri:=ri) (p0:=p0) (es:=es) i (by omega);have he:es[i]?=some es[i]:=List.getElem?_eq_getElem (by omega);have h1:=eoff_succ (ri:=ri) (p:=p0) he;have h2:=entry_pos (esh ri p0 es i) es[i].1 es[i].2;omega
theorem bends_le {ri:Nat} {p0:Bs} {es:List KV} (hri:0 < ri) (hn:es≠[]):(bends ri p0 es).length≤es.length:=by
 rw [bends_cons hn,← at'_all,(rs_at hri es.length (Nat.le_refl _)).1];have h0:0 < es.length:=List.length_pos_iff.2 hn;have h1:(es.length+ri - 1) / ri≤(es.length*ri) / ri:=Nat.div_le_div_right (by
  obtain ⟨k,rfl⟩:∃ k,ri=k+1:=⟨ri - 1,by omega⟩;obtain ⟨m,hm⟩:∃ m,es.length=m+1:=⟨es.length - 1,by omega⟩;rw [hm,Nat.add_mul,Nat.mul_add];omega)
 rwa [Nat.mul_div_cancel _ hri] at h1
theorem seek_place {w:World} {p q off len ri:Nat} {p0:Bs} {es:List KV} (hE:BE w p q off len ri p0 es) (hr:Rising es) {c:IC} {lo:Nat} (hs:SRange ri p0 es c lo) {ka:Option Addr} {kn kc:Nat} {key:Bs} (hk:Sl w ka kn kc key) :
  ∃ idx x st,max c.oS x=eoff ri p0 es st∧x < 4294967296∧idx < 4294967296∧(idx=c.riS∨c.riS≤idx)∧st≤max lo st∧(st % ri=0∨st=es.length)∧(st < es.length→st % ri=0∧idx*ri=st)∧(st≤es.length) ∧
   (∀ i e,lo≤i→i < st→es[i]?=some e→compareBytes e.1 key=-1)∧(lo=es.length→st≤es.length) ∧
   ∀ k,Calls Tryz.prog 114 #[.pointer (some ⟨p,0,none⟩),.iface 192 (.agg #[]),.int .i64 c.riS,.int .i64 c.riL,.slice ka kn kc] (w.drewN k) fun e w'=>e=.returned (.tuple #[.int .i64 idx,.int .i64 x,.nilIface])∧Below w.heap.size w w':=by
 obtain ⟨hL,hs⟩:=hs;have hri:=hE.ri;have hmx:=hE.rb.max;have hln:=hE.rb.len;rcases hs with ⟨h1,h2,h3⟩ | ⟨h1,h2,h3,h4⟩
 ·obtain ⟨j,hj,hthr,hbef⟩:=bseek (p0:=p0) hri hr key c.riS h1;generalize hidx:(if j=0 then c.riS else c.riS+j - 1)=idx at hbef;have hidl:idx < (bends ri p0 es).length:=by rw [← hidx];split <;> omega
  have hge:c.riS≤idx:=by rw [← hidx];split <;> omega
  have hat:=bends_at (p:=p0) (es:=es) hri hidl;have hst:idx*ri≤es.length:=by
   rcases bends_lt (p:=p0) hri hidl with e | e
   ·rw [e];omega
   ·omega
  have hle:=eoff_mono (ri:=ri) (p:=p0) (es:=es) hst;obtain ⟨r,hD⟩:=bdata_end (ri:=ri) (p:=p0) (es:=es) (j:=idx) (x:=eoff ri p0 es (idx*ri)) (by rw [List.getElem?_append_left hidl];exact hat);refine ⟨idx,eoff ri p0 es (idx*ri),idx*ri,?_,by omega,by omega,.inr hge,by omega,.inl (Nat.mul_mod_left idx ri),fun _=>⟨Nat.mul_mod_left idx ri,rfl⟩,hst,fun i e hi1 hi2 he=>hbef i e (by omega) hi2 he,fun _=>hst,?_⟩
  ·have:=eoff_mono (ri:=ri) (p:=p0) (es:=es) (show c.riS*ri≤idx*ri from Nat.mul_le_mul_right ri hge);omega
  ·intro k;rw [hL];exact (seek_any (w.drewN k) p q off len _ _ _ (hE.rb.drewN k) c.riS _ j idx (eoff ri p0 es (idx*ri)) (by omega) (Nat.le_refl _) ka kn kc key (hk.drewN k) (rkey ri es) (fun i hi=>bkey hri hE.ks hmx (by omega)) hj hthr hidx.symm (by omega) hD).mono (fun e w' ⟨h1,h2⟩=>⟨h1,(Below.drewN' _ w k).trans h2⟩)
 ·have hb:=bends_le (p0:=p0) hri h2;have h5:=eoff_ge3 (ri:=ri) (p0:=p0) (es:=es) es.length (Nat.le_refl _);obtain ⟨r,hD⟩:=bdata_end (ri:=ri) (p:=p0) (es:=es) (j:=(bends ri p0 es).length) (x:=(bends ri p0 es).length) (by rw [List.getElem?_append_right (Nat.le_refl _)];simp);refine ⟨(bends ri p0 es).length,(bends ri p0 es).length,es.length,by omega,by omega,by omega,.inl h1.symm,by omega,.inr rfl,fun h=>absurd h (Nat.lt_irrefl _),Nat.le_refl _,fun i e hi1 hi2 _=>by omega,fun _=>Nat.le_refl _,?_⟩
  intro k;rw [hL];exact (seek_any (w.drewN k) p q off len _ _ _ (hE.rb.drewN k) c.riS _ 0 (bends ri p0 es).length (bends ri p0 es).length (by omega) (Nat.le_refl _) ka kn kc key (hk.drewN k) (rkey ri es) (fun i hi=>by omega) (by omega) (fun i hi=>by omega) (by rw [if_pos rfl,h1]) (by omega) hD).mono (fun e w' ⟨h1,h2⟩=>⟨h1,(Below.drewN' _ w k).trans h2⟩)
set_option maxHeartbeats 8000000 in
theorem bseek_any (w:World) (g:Nat) (c:IC) (s:IS) (O:Own) (key:Bs) (nodes:List Nat) (pk:Bs) (h:BI w g c s O key nodes pk) (q off len ri:Nat) (p0:Bs) (es:List KV) (hE:BE w c.p q off len ri p0 es) (hap:c.p≠g∧q≠g∧¬ O.has c.p∧¬ O.has q)
  (hT:w.cell? ⟨c.tr,6,none⟩=some (.iface 192 (.agg #[]))) (hTa:c.tr≠g∧¬ O.has c.tr) (ka:Option Addr) (kn kc:Nat) (tk:Bs) (hk:Sl w ka kn kc tk) (hka:∀ x p,ka=some ⟨x,p,none⟩→0 < kn→x≠g∧¬ O.has x) (hr:Rising es)
  (lo hi j:Nat) (hlo:c.oR=eoff ri p0 es lo) (hhi:c.oL=eoff ri p0 es hi) (hhm:hi=es.length) (hs:SRange ri p0 es c lo) (hdir:s.dir≤3) (hnp:s.dir≠2→nodes=[]∧pk=[])
  (hj1:lo≤j) (hj2:j≤hi) (hj3:∀ i e,lo≤i→i < j→es[i]?=some e→compareBytes e.1 tk=-1) (hj4:∀ e,j < hi→es[j]?=some e→0≤compareBytes e.1 tk) :
  Calls Tryz.prog 77 #[.pointer (some ⟨g,0,none⟩),.slice ka kn kc] w fun e w'=>e=.returned (.bool (decide (j < hi)))∧BITo g c O w w' (SeekTo q ri p0 es j hi):=by
 obtain ⟨idx,x,st,hst,hxb,hib,_,_,hstr,hsti,hstm,hbef,_,hcall⟩:=seek_place hE hr hs hk;have hz11:w.cell? ⟨g,11,none⟩=some (.int .i64 (s.dir:Int)):=h.blk.cell (k:=11) rfl;have hz17:w.cell? ⟨g,17,none⟩=some .nilIface:=h.blk.cell (k:=17) rfl;have hz1:w.cell? ⟨g,1,none⟩=some (.pointer (some ⟨c.p,0,none⟩)):=h.blk.cell (k:=1) rfl;have hz0:w.cell? ⟨g,0,none⟩=some (.pointer (some ⟨c.tr,0,none⟩)):=h.blk.cell (k:=0) rfl
 have hz12:w.cell? ⟨g,12,none⟩=some (.int .i64 (c.riS:Int)):=h.blk.cell (k:=12) rfl;have hz13:w.cell? ⟨g,13,none⟩=some (.int .i64 (c.riL:Int)):=h.blk.cell (k:=13) rfl;have hdm:((s.dir:Int) == -1)=false:=by rw [beq_eq_false_iff_ne];omega
 have hcd:=hcall;have HHM:=hid hhm;have hhm2:hi≤es.length:=by omega
 have hstm:st≤hi:=by omega
 clear hhm;have HH:=hid h;have HE:=hid hE;have HK:=hid hk;have HR:=hid hr;have HBEF:=hid hbef;have HSTI:=hid hsti;clear h hE hk hr hbef hsti hcall hs;go_enter Tryz.func77,Tryz.ntmps77
 go_upto_region 6 with fail
 go_cut [5,6,7] (fun t5 t6 t7 wx=>t5=.int .i64 (idx:Int)∧t6=.int .i64 (x:Int)∧t7=.nilIface∧Below w.heap.size w wx)
 case first =>
  refine Pos.start (fun W:World=>W.cell? ⟨g,1,none⟩=some (.pointer (some ⟨c.p,0,none⟩))∧W.cell? ⟨g,0,none⟩=some (.pointer (some ⟨c.tr,0,none⟩))∧W.cell? ⟨c.tr,6,none⟩=some (.iface 192 (.agg #[]))∧W.cell? ⟨g,12,none⟩=some (.int .i64 (c.riS:Int))∧W.cell? ⟨g,13,none⟩=some (.int .i64 (c.riL:Int))) 27 (by kernel_rfl) ?_;have hS:(fun W:World=>W.cell? ⟨g,1,none⟩=some (.pointer (some ⟨c.p,0,none⟩))∧W.cell? ⟨g,0,none⟩=some (.pointer (some ⟨c.tr,0,none⟩))∧W.cell? ⟨c.tr,6,none⟩=some (.iface 192 (.agg #[]))∧W.cell? ⟨g,12,none⟩=some (.int .i64 (c.riS:Int))∧W.cell? ⟨g,13,none⟩=some (.int .i64 (c.riL:Int))) (w.drewN 1):=⟨hz1,hz0,hT,hz12,hz13⟩
  iterate 20
   refine' Pos.takeK hS rfl (by kernel_rfl) (fun _ _ _ h=>h) (by rfl) ?_ ?_;rotate_left
   ·intro W hW;obtain ⟨s1,s2,s3,s4,s5⟩:=hW;go_simp;try with_reducible rfl
   intro K hK;go_simp;refine hK _ ?_;clear hK K
  refine Pos.eff rfl (by kernel_rfl) ?_;go_wp2_with fail
  refine (hcd _).mono ?_;rintro e w2 ⟨rfl,hb⟩;have hS1:(fun W:World=>W.cell? ⟨g,1,none⟩=some (.pointer (some ⟨c.p,0,none⟩))∧W.cell? ⟨g,0,none⟩=some (.pointer (some ⟨c.tr,0,none⟩))∧W.cell? ⟨c.tr,6,none⟩=some (.iface 192 (.agg #[]))∧W.cell? ⟨g,12,none⟩=some (.int .i64 (c.riS:Int))∧W.cell? ⟨g,13,none⟩=some (.int .i64 (c.riL:Int))) w2:=⟨belowCell hb (lt_of_cell hz1) hz1,belowCell hb (lt_of_cell hz0) hz0,belowCell hb (lt_of_cell hT) hT,belowCell hb (lt_of_cell hz12) hz12,belowCell hb (lt_of_cell hz13) hz13⟩
  have HB:=hid hb;clear hcd hb hS;dsimp only;go_wp2_with fail
  refine ⟨hS1,?_⟩;have hS:=hS1;iterate 6
   refine' Pos.takeK hS rfl (by kernel_rfl) (fun _ _ _ h=>h) (by rfl) ?_ ?_;rotate_left
   ·intro W hW;obtain ⟨s1,s2,s3,s4,s5⟩:=hW;go_simp;try with_reducible rfl
   intro K hK;go_simp;refine hK _ ?_;clear hK K
  refine Pos.tail (by kernel_rfl) (by decide) ?_;simp only [List.drop_succ_cons,List.drop_zero];go_wp2_with fail
  go_meet
  case rel=>exact ⟨rfl,rfl,rfl,HB.out⟩
 case rest =>
  obtain ⟨rfl,rfl,rfl,hb1⟩:=hcut;have h1:BI wc g c s O key nodes pk:=HH.out.keep (fun k hk=>hb1.block k (by rcases hk with e | e;rw [e];exact HH.out.blk.lt;exact HH.out.lt e));have hz6':wc.cell? ⟨g,6,none⟩=some (.int .i64 (s.off:Int)):=h1.blk.cell (k:=6) rfl;have hz10':wc.cell? ⟨g,10,none⟩=some (.int .i64 (s.rix:Int)):=h1.blk.cell (k:=10) rfl;have hz14':wc.cell? ⟨g,14,none⟩=some (.int .i64 (c.oS:Int)):=h1.blk.cell (k:=14) rfl
  have hz11':wc.cell? ⟨g,11,none⟩=some (.int .i64 (s.dir:Int)):=h1.blk.cell (k:=11) rfl;have hf6:=h1.blk.free 6;have hf10:=h1.blk.free 10;have hf11:=h1.blk.free 11;have h2:=(h1.setNum { s with rix:=idx } 10 (.int .i64 (idx:Int)) rfl rfl rfl rfl).setNum { s with rix:=idx,off:=eoff ri p0 es st } 6 (.int .i64 (eoff ri p0 es st:Int)) rfl rfl rfl rfl;have hF2:Fr (fun k=>k=g∨O.has k) w ((wc.setCell ⟨g,10,none⟩ (.int .i64 (idx:Int))).setCell ⟨g,6,none⟩ (.int .i64 (eoff ri p0 es st:Int))):=((Fr.of_below (S:=fun k=>k=g∨O.has k) hb1).setC g 10 _ (.inl rfl)).setC g 6 _ (.inl rfl)
  have h3:=h2.setNum { s with rix:=idx,off:=eoff ri p0 es st,dir:=3 } 11 (.int .i64 3) rfl rfl rfl rfl;have hmax:=fun w'=>max_any c.oS x (eoff ri p0 es st) hst.symm w'
  have HMID:Hid (∀ wx,((s.dir=0∨s.dir=1)∧wx=(((wc.setCell ⟨g,10,none⟩ (.int .i64 (idx:Int))).setCell ⟨g,6,none⟩ (.int .i64 (eoff ri p0 es st:Int))).setCell ⟨g,11,none⟩ (.int .i64 3)))∨((s.dir=2∨s.dir=3)∧wx=((wc.setCell ⟨g,10,none⟩ (.int .i64 (idx:Int))).setCell ⟨g,6,none⟩ (.int .i64 (eoff ri p0 es st:Int)))) →
    BITo g c O w wx (fun s2 _ n2 p2=>s2.off=eoff ri p0 es st∧s2.rix=idx∧(s2.dir=2∨s2.dir=3)∧(s2.dir≠2→n2=[]∧p2=[]))):=hid (by
   rintro wx (⟨hd,rfl⟩ | ⟨hd,rfl⟩)
   ·exact ⟨_,O,key,nodes,pk,h3,⟨rfl,rfl,.inr rfl,fun _=>hnp (by omega)⟩,hF2.setC g 11 _ (.inl rfl),fun _ h=>.inl h⟩
   ·exact ⟨_,O,key,nodes,pk,h2,⟨rfl,rfl,hd,fun h=>hnp h⟩,hF2,fun _ h=>.inl h⟩)
  have HDIR:=hid hdir;clear hz11 hz17 hz1 hz0 hz12 hz13 hdm hcd h1 h2 h3 hF2 hdir hnp;generalize hEST:eoff ri p0 es st=EST at *;go_wp2_with fail
  refine (hmax _).mono ?_;rintro e w3 ⟨rfl,hw3⟩;rw [hw3];clear hw3 w3 hmax;dsimp only;go_upto_region 12 with fail
  go_cut [76] (fun t wx=>t=.bool (decide (s.dir=0∨s.dir=1))∧wx=((wc.setCell ⟨g,10,none⟩ (.int .i64 (idx:Int))).setCell ⟨g,6,none⟩ (.int .i64 (EST:Int))))
  case first =>
   by_cases hd0:s.dir=0
   ·rw [hd0] at hz11';have HD:Hid (decide (s.dir=0∨s.dir=1)=true):=hid (by simp [hd0]);clear hd0;go_wp2_with fail
    go_meet
    case rel=>rw [HD.out];exact ⟨rfl,rfl⟩
   ·by_cases hd1:s.dir=1
    ·rw [hd1] at hz11';have HD:Hid (decide (s.dir=0∨s.dir=1)=true):=hid (by simp [hd1]);clear hd1 hd0;go_wp2_with fail
     go_meet
     case rel=>rw [HD.out];exact ⟨rfl,rfl⟩
    ·have HD:Hid (decide (s.dir=0∨s.dir=1)=false):=hid (by simp [hd0,hd1]);have hq0:((s.dir:Int) == 0)=false:=by rw [beq_eq_false_iff_ne];omega
     have hq1:((s.dir:Int) == 1)=false:=by rw [beq_eq_false_iff_ne];omega
     clear hd1 hd0;go_wp2_with fail
     go_meet
     case rel=>rw [HD.out];exact ⟨rfl,rfl⟩
  case rest =>
   obtain ⟨rfl,rfl⟩:=hcut;go_upto_if 76 with fail
   go_cut [] (fun wx=>BITo g c O w wx (fun s2 _ n2 p2=>s2.off=EST∧s2.rix=idx∧(s2.dir=2∨s2.dir=3)∧(s2.dir≠2→n2=[]∧p2=[])))
   case first =>
    by_cases hd:s.dir=0∨s.dir=1
    ·have hdd:decide (s.dir=0∨s.dir=1)=true:=decide_eq_true hd;have HX:=hid (HMID.out _ (.inl ⟨hd,rfl⟩));clear hd;generalize decide (s.dir=0∨s.dir=1)=D at *;subst hdd;go_wp2_with fail
     go_meet
     case rel=>exact HX.out
    ·have hdd:decide (s.dir=0∨s.dir=1)=false:=decide_eq_false hd;have HX:=hid (HMID.out _ (.inr ⟨by have:=HDIR.out;omega,rfl⟩));clear hd;generalize decide (s.dir=0∨s.dir=1)=D at *;subst hdd;go_wp2_with fail
     go_meet
     case rel=>exact HX.out
   case rest =>
    obtain ⟨s2,O2,k2,n2,p2,h2,⟨hoff,hrix,hd2,hn2⟩,hf2,hO2⟩:=hcut;have hstart:∃ k,BITo g c O w wc (fun s2 k2 n2 p2=>s2.off=eoff ri p0 es k∧s2.rix=idx∧(s2.dir=2∨s2.dir=3)∧(s2.dir≠2→n2=[]∧p2=[])∧KeyAt ri es k k2)∧k≤hi∧(∀ i e,lo≤i→i < k→es[i]?=some e→compareBytes e.1 tk=-1) :=
     ⟨st,⟨s2,O2,k2,n2,p2,h2,⟨hoff.trans hEST.symm,hrix,hd2,hn2,fun h=>.inl (HSTI.out h).1⟩,hf2,hO2⟩,by omega,HBEF.out⟩
    have HSTART:=hid hstart;have HSJ:Hid (j < hi→idx*ri≤j):=hid (fun hjh=>by
     have hsj:st≤j:=by
      rcases Nat.lt_or_ge j st with h | h
      ·exfalso
       have hje:es[j]?=some es[j]:=List.getElem?_eq_getElem (by omega);have h1:=HBEF.out j _ hj1 h hje;have h2:=hj4 _ hjh hje;omega
      ·exact h
     have h1:=HSTI.out (by omega);omega)
    clear hstart h2 hoff hrix hd2 hn2 hf2 hO2 HMID HDIR hz6' hz10' hz14' hz11' hf6 hf10 hf11 HBEF HH hEST;go_wp2_with fail
    go_loopw [] (fun wr=>∃ k,BITo g c O w wr (fun s2 k2 n2 p2=>s2.off=eoff ri p0 es k∧s2.rix=idx∧(s2.dir=2∨s2.dir=3)∧(s2.dir≠2→n2=[]∧p2=[])∧KeyAt ri es k k2)∧k≤hi∧(∀ i e,lo≤i→i < k→es[i]?=some e→compareBytes e.1 tk=-1)) (fun wr=>c.oL+1 - offOf wr g)
    case atStart=>exact HSTART.out
    case round =>
     obtain ⟨k,⟨s2,O2,k2,n2,p2,h2,⟨hoff,hrix,hd2,hn2,hka2⟩,hf2,hO2⟩,hk1,hk2⟩:=hrel;have hE2:BE wr c.p q off len ri p0 es:=HE.out.keep (hf2.block _ HE.out.rb.blk.lt (by rintro (e | e);exact hap.1 e;exact hap.2.2.1 e)) (hf2.block _ HE.out.rb.qlt (by rintro (e | e);exact hap.2.1 e;exact hap.2.2.2 e));have hap2:c.p≠g∧q≠g∧¬ O2.has c.p∧¬ O2.has q:=⟨hap.1,hap.2.1,fun e=>(hO2 _ e).elim hap.2.2.1 (fun h'=>by have:=HE.out.rb.blk.lt;omega),fun e=>(hO2 _ e).elim hap.2.2.2 (fun h'=>by have:=HE.out.rb.qlt;omega)⟩
     have hnx:=bnext_any wr g c s2 O2 k2 n2 p2 h2 q off len ri p0 es hE2 hap2 lo hi k hlo hhi (by omega) hhm2 (.inr hd2) (by rw [if_neg (by omega)];exact hoff) hka2 hk1;have hoff0:offOf wr g=eoff ri p0 es k:=by
      have hc6:wr.cell? ⟨g,6,none⟩=some (.int .i64 (s2.off:Int)):=h2.blk.cell (k:=6) rfl;unfold offOf;rw [hc6,← hoff];simp
     have hkj:k≤j:=by
      rcases Nat.lt_or_ge j k with h | h
      ·exfalso
       have hje:es[j]?=some es[j]:=List.getElem?_eq_getElem (by omega);have h1:=hk2 j _ hj1 h hje;have h2:=hj4 _ (by omega) hje;omega
      ·exact h
     have HF2:=hid hf2;have HO2:=hid hO2;have HD2:=hid hd2;have HN2:=hid hn2;have HRX:=hid hrix;have HK2:=hid hk2;clear h2 hoff hrix hd2 hn2 hka2 hf2 hO2 hE2 hap2 hk2;go_wp2_with fail
     refine hnx.mono ?_;rintro e w3 ⟨rfl,hb3⟩;clear hnx;by_cases hlt:max k lo < hi
     ·have hdl:decide (max k lo < hi)=true:=decide_eq_true hlt;obtain ⟨s3,O3,k3,n3,p3,h3,⟨q1,q2,q3,q4,_⟩,hf3,hO3⟩:=hb3;obtain ⟨q5,q6,q7,q8,ev,hev,rfl⟩:=q4 hlt;have hf23:=(HF2.out.trans hf3 (fun k hk h=>by
       rcases h with h | h
       ·exact .inl h
       ·exact (HO2.out k h).elim .inr (fun h'=>absurd h' (by omega))))
      have hO23:∀ k,O3.has k→O.has k∨w.heap.size≤k:=fun k hk=>(hO3 k hk).elim (HO2.out k) (fun h'=>.inr (by have:=HF2.out.size;omega))
      have hT3:w3.cell? ⟨c.tr,6,none⟩=some (.iface 192 (.agg #[])):=(hf23.cell (lt_of_cell hT) (by rintro (e | e);exact hTa.1 e;exact hTa.2 e)).trans hT;have hz03:w3.cell? ⟨g,0,none⟩=some (.pointer (some ⟨c.tr,0,none⟩)):=h3.blk.cell (k:=0) rfl;obtain ⟨ya,yc,hkv,hycap,_,_⟩:=own_form h3.key;have hz43:w3.cell? ⟨g,4,none⟩=some (.slice ya ev.1.length yc):=by rw [← hkv];exact h3.blk.cell (k:=4) rfl
      have hsk:Sl w3 ya ev.1.length yc ev.1:=own_sl (by rw [← hkv];exact h3.key);have htk:Sl w3 ka kn kc tk:=HK.out.fr' fun x p ha jj hjj=>by
       have h1:=hka x p ha (by omega);subst ha;exact hf23.cell (HK.out.lt (by omega)) (by rintro (e | e);exact h1.1 e;exact h1.2 e)
      have hcmp:=fun k=>compare_any (w3.drewN k) ya ka _ _ kn kc ev.1 tk (hsk.drewN k) (htk.drewN k)
      have hoff3:offOf w3 g=eoff ri p0 es (max k lo+1):=by
       have hc6:w3.cell? ⟨g,6,none⟩=some (.int .i64 (s3.off:Int)):=h3.blk.cell (k:=6) rfl;unfold offOf;rw [hc6,q7];simp
      have hmk:=eoff_lt' (ri:=ri) (p:=p0) (es:=es) (show k < max k lo+1 by omega) (by omega);have hmh:=eoff_mono (ri:=ri) (p:=p0) (es:=es) (show max k lo+1≤hi by omega);have hmj:max k lo≤j:=by omega
      have hn3:n3=[]∧p3=[]:=by
       rw [q2,q3];by_cases e:s2.dir=2
       ·rw [if_pos e,if_pos e];exact ⟨rfl,rfl⟩
       ·rw [if_neg e,if_neg e];exact HN2.out e
      have hr3:s3.rix=idx:=by rw [q1,if_neg (by have:=HD2.out;omega)];exact HRX.out
      have hbe:∀ w4:World,(∀ k,k < w3.heap.size→w4.heap[k]?=w3.heap[k]?)→w4.os=w3.os→w4.tape=w3.tape→w4.output=w3.output→w3.heap.size≤w4.heap.size→BI w4 g c s3 O3 ev.1 n3 p3∧Fr (fun k=>k=g∨O.has k) w w4:=fun w4 hb ho ht hu hsz =>
       ⟨h3.keep (fun k hk=>hb k (by rcases hk with e | e;rw [e];exact h3.blk.lt;exact h3.lt e)),hf23.trans (S':=fun _=>False) ⟨ho,ht,hu,hsz,fun k hk _=>hb k hk⟩ (fun _ _ h=>h.elim)⟩
      have HBE:=hid hbe;have HEV:=hid hev;have HQ:=hid (show s3.dir=3∧s3.poff=eoff ri p0 es (max k lo)∧s3.off=eoff ri p0 es (max k lo+1)∧s3.vv=eval' q ri p0 es (max k lo) from ⟨q5,q6,q7,q8⟩);have HN3:=hid hn3;have HR3:=hid hr3;have HO23:=hid hO23;have HMK:=hid hmk;have HMH:=hid hmh;have HOF:=hid hoff0;clear h3 q1 q2 q3 q4 q5 q6 q7 q8 hf3 hO3 hf23 hO23 hkv hsk htk hbe hev hn3 hr3 hoff3 hmk hmh hoff0
      rw [hdl];clear hdl;dsimp only;go_upto_region 15 with fail
      refine wp_tail 14 (by kernel_rfl) ?_;simp only [List.take_succ_cons,List.take_zero,List.drop_succ_cons,List.drop_zero];repeat still_step
      refine wpStill_nil ?_;go_wp2_with fail
      refine (hcmp _).mono ?_;rintro e w4 ⟨rfl,hw4⟩;have HB4:=hid (HBE.out w4 (fun k hk=>by rw [hw4];exact Below.heap_alloc (w3.drewN _) _ k hk) (by rw [hw4];rfl) (by rw [hw4];rfl) (by rw [hw4];rfl) (by rw [hw4];simp));have hoff4:offOf w4 g=eoff ri p0 es (max k lo+1):=by
       have hc6:w4.cell? ⟨g,6,none⟩=some (.int .i64 (s3.off:Int)):=HB4.out.1.blk.cell (k:=6) rfl;unfold offOf;rw [hc6,HQ.out.2.2.1];simp
      have HOFF4:=hid hoff4;clear hcmp hw4 hoff4 HBE;by_cases hjj:max k lo=j
      ·have hge:¬ compareBytes ev.1 tk < 0:=by
        have:=hj4 ev (by omega) (by rw [← hjj];exact HEV.out);omega
       have HJJ:=hid hjj;have HHJ:=hid (show j < hi by omega);clear hjj;generalize compareBytes ev.1 tk=cv at *;have hcv:0≤cv:=by omega
       dsimp only;go_wp2
       go_returns
       refine ⟨by rw [decide_eq_true HHJ.out];rfl,s3,O3,ev.1,n3,p3,HB4.out.1,⟨HN3.out.1,HN3.out.2,fun _=>?_,fun h=>absurd HHJ.out h⟩,HB4.out.2,HO23.out⟩;rw [← HJJ.out];refine ⟨HQ.out.1,HQ.out.2.1,HQ.out.2.2.1,HQ.out.2.2.2,?_,ev,HEV.out,rfl⟩;rw [HR3.out,HJJ.out];exact HSJ.out HHJ.out
      ·have hlj:max k lo < j:=by omega
       have hcv:compareBytes ev.1 tk=-1:=hj3 _ ev (by omega) hlj HEV.out;rw [hcv];have HNX:Hid (∃ k,BITo g c O w w4 (fun s2 k2 n2 p2=>s2.off=eoff ri p0 es k∧s2.rix=idx∧(s2.dir=2∨s2.dir=3)∧(s2.dir≠2→n2=[]∧p2=[])∧KeyAt ri es k k2)∧k≤hi∧(∀ i e,lo≤i→i < k→es[i]?=some e→compareBytes e.1 tk=-1)):=Lib.hid
        ⟨max k lo+1,⟨s3,O3,ev.1,n3,p3,HB4.out.1,⟨HQ.out.2.2.1,HR3.out,.inr HQ.out.1,fun _=>HN3.out,fun _=>.inr ⟨ev,by omega,HEV.out,rfl⟩⟩,HB4.out.2,HO23.out⟩,by omega,fun i e h1 h2 h3=>hj3 i e h1 (by omega) h3⟩
       have hms:c.oL+1 - offOf w4 g < c.oL+1 - offOf wr g:=by
        rw [HOFF4.out,HOF.out,hhi];have h1:=HMK.out;have h2:=HMH.out;omega
       have HMS:=hid hms;clear hjj hlj hcv hms;dsimp only;go_wp2_with fail
       go_roundw
       case rel=>exact HNX.out
       case measure=>exact HMS.out
     ·have hdl:decide (max k lo < hi)=false:=decide_eq_false hlt;have hjh:j=hi:=by omega
      obtain ⟨s3,O3,k3,n3,p3,h3,⟨q1,q2,q3,_,q5⟩,hf3,hO3⟩:=hb3;have hfin:BITo g c O w w3 (SeekTo q ri p0 es j hi):=by
       refine ⟨s3,O3,k3,n3,p3,h3,?_,HF2.out.trans hf3 (fun k hk h=>by
        rcases h with h | h
        ·exact .inl h
        ·exact (HO2.out k h).elim .inr (fun h'=>absurd h' (by omega))),fun k hk=>(hO3 k hk).elim (HO2.out k) (fun h'=>.inr (by have:=HF2.out.size;omega))⟩
       have hnn:n3=[]∧p3=[]:=by
        rw [q2,q3];by_cases e:s2.dir=2
        ·rw [if_pos e,if_pos e];exact ⟨rfl,rfl⟩
        ·rw [if_neg e,if_neg e];exact HN2.out e
       exact ⟨hnn.1,hnn.2,fun h=>by omega,fun _=>(q5 hlt).1⟩
      have HFIN:=hid hfin;have HJH:Hid (¬ j < hi):=hid (by omega);rw [hdl];clear hdl hfin h3 q1 q2 q3 q5 hf3 hO3 hjh hlt;dsimp only;go_wp2
      go_returns
      exact ⟨by rw [decide_eq_false HJH.out];rfl,HFIN.out⟩
end
section
open Go Go.RowKit Go.Shelf
def keysOf (es:List KV) (r t:Nat):Bs:=((es.drop r).take (t - r)).flatMap (·.1)
def vlen (es:List KV) (k:Nat):Nat:=(es[k]?.map (·.2.length)).getD 0
def trip (ri:Nat) (p0:Bs) (es:List KV) (r k:Nat):List Nat:=[(keysOf es r k).length,eoff ri p0 es (k+1) - vlen es k,vlen es k]
def nodesOf (ri:Nat) (p0:Bs) (es:List KV) (r t:Nat):List Nat:=eoff ri p0 es r :: (List.range (t - r)).flatMap fun i=>trip ri p0 es r (r+i)
section
variable {ri:Nat} {p0:Bs} {es:List KV}
theorem keysOf_self (r:Nat):keysOf es r r=[]:=by simp [keysOf]
theorem keysOf_succ {r k:Nat} {e:KV} (h:r≤k) (he:es[k]?=some e):keysOf es r (k+1)=keysOf es r k++e.1:=by
 unfold keysOf;rw [show k+1 - r=(k - r)+1 by omega,List.take_add_one,List.getElem?_drop,show r+(k - r)=k by omega,he];simp
theorem nodesOf_self (r:Nat):nodesOf ri p0 es r r=[eoff ri p0 es r]:=by simp [nodesOf]
theorem nodesOf_succ {r k:Nat} (h:r≤k):nodesOf ri p0 es r (k+1)=nodesOf ri p0 es r k++trip ri p0 es r k:=by
 unfold nodesOf;rw [show k+1 - r=(k - r)+1 by omega,List.range_succ,List.flatMap_append];simp only [List.flatMap_cons,List.flatMap_nil,List.append_nil,List.cons_append];rw [show r+(k - r)=k by omega]
theorem trip_length (r k:Nat):(trip ri p0 es r k).length=3:=rfl
theorem nodesOf_length (r:Nat):∀ d,(nodesOf ri p0 es r (r+d)).length=1+3*d
 | 0=>by rw [Nat.add_zero,nodesOf_self];rfl
 | d+1=>by
  rw [show r+(d+1)=r+d+1 by omega,nodesOf_succ (by omega),List.length_append,trip_length,nodesOf_length r d];omega
theorem vlen_eq {k:Nat} {e:KV} (he:es[k]?=some e):vlen es k=e.2.length:=by unfold vlen;rw [he];rfl
theorem keysOf_le {r:Nat}:∀ k,r≤k→k≤es.length→(∀ e∈es,e.1.length≤1073741824)→(keysOf es r k).length≤(k - r)*1073741824
 | k,h,hk,hb=>by
  obtain ⟨d,rfl⟩:∃ d,k=r+d:=⟨k - r,by omega⟩;induction d with
  | zero=>rw [Nat.add_zero,keysOf_self];simp
  | succ d ih =>
   have he:es[r+d]?=some es[r+d]:=List.getElem?_eq_getElem (by omega);rw [show r+(d+1)=r+d+1 by omega,keysOf_succ (by omega) he,List.length_append];have h1:=ih (by omega) (by omega);have h2:=hb _ (List.mem_of_getElem? he);have e1:r+d - r=d:=by omega
   have e2:r+d+1 - r=d+1:=by omega
   rw [e1] at h1;rw [e2,Nat.add_mul];omega
end
end
section
open Go Go.RowKit Go.Shelf
section
variable {w:World} {g:Nat} {c:IC} {s:IS} {O:Own} {key:Bs} {nodes:List Nat} {pk:Bs}
theorem BI.dirCell (h:BI w g c s O key nodes pk):w.cell? ⟨g,11,none⟩=some (.int .i64 (s.dir:Int)):=h.blk.cell (k:=11) rfl
theorem bkey_any (h:BI w g c s O key nodes pk) (hd:2≤s.dir):Calls Tryz.prog 61 #[.pointer (some ⟨g,0,none⟩)] w fun e w'=>e=.returned s.kv∧w'=w:=by
 have hz11:=h.dirCell;have hz17:w.cell? ⟨g,17,none⟩=some .nilIface:=h.blk.cell (k:=17) rfl;have hz4:w.cell? ⟨g,4,none⟩=some s.kv:=h.blk.cell (k:=4) rfl;have hn:¬ ((s.dir:Int)≤1):=by omega
 clear h;go_enter Tryz.func61,Tryz.ntmps61
 go_wp2
 go_ret
 exact ⟨rfl,rfl⟩
theorem bvalue_any (h:BI w g c s O key nodes pk) (hd:2≤s.dir):Calls Tryz.prog 64 #[.pointer (some ⟨g,0,none⟩)] w fun e w'=>e=.returned s.vv∧w'=w:=by
 have hz11:=h.dirCell;have hz17:w.cell? ⟨g,17,none⟩=some .nilIface:=h.blk.cell (k:=17) rfl;have hz4:w.cell? ⟨g,5,none⟩=some s.vv:=h.blk.cell (k:=5) rfl;have hn:¬ ((s.dir:Int)≤1):=by omega
 clear h;go_enter Tryz.func64,Tryz.ntmps64
 go_wp2
 go_ret
 exact ⟨rfl,rfl⟩
theorem berror_any (h:BI w g c s O key nodes pk):Calls Tryz.prog 79 #[.pointer (some ⟨g,0,none⟩)] w fun e w'=>e=.returned .nilIface∧w'=w:=by
 have hz17:w.cell? ⟨g,17,none⟩=some .nilIface:=h.blk.cell (k:=17) rfl;clear h;go_enter Tryz.func79,Tryz.ntmps79
 go_wp2
 go_ret
 exact ⟨rfl,rfl⟩
theorem bvalid_any (h:BI w g c s O key nodes pk) (hd:2≤s.dir∧s.dir≤3):Calls Tryz.prog 175 #[.pointer (some ⟨g,0,none⟩)] w fun e w'=>e=.returned (.bool true)∧w'=w:=by
 have hz11:=h.dirCell;have hz17:w.cell? ⟨g,17,none⟩=some .nilIface:=h.blk.cell (k:=17) rfl;have hd2:s.dir=2∨s.dir=3:=by omega
 clear h;rcases hd2 with e | e <;> rw [e] at hz11 <;> clear e hd
 ·go_enter Tryz.func175,Tryz.ntmps175
  go_wp2
  go_ret
  exact ⟨rfl,rfl⟩
 ·go_enter Tryz.func175,Tryz.ntmps175
  go_wp2
  go_ret
  exact ⟨rfl,rfl⟩
end
theorem getDont_any (w:World):Calls Tryz.prog 72 #[.pointer none] w fun e w'=>e=.returned (.bool false)∧w'=w:=by
 go_enter Tryz.func72,Tryz.ntmps72
 go_wp2
 go_ret
 exact ⟨rfl,rfl⟩
theorem rostrict_any (w:World) (x:Nat):Calls Tryz.prog 113 #[.pointer none,.int .u64 x] w fun e w'=>e=.returned (.bool false)∧w'=w:=by
 go_enter Tryz.func113,Tryz.ntmps113
 go_wp2
 go_ret
 exact ⟨rfl,rfl⟩
theorem bpput_any (w:World) (x:Value):Calls Tryz.prog 109 #[.pointer none,x] w fun e w'=>e=.returned (.tuple #[])∧w'=w:=by
 go_enter Tryz.func109,Tryz.ntmps109
 go_wp2
 go_end0
 exact ⟨rfl,rfl⟩
theorem noop_any (w:World):Calls Tryz.prog 208 #[.agg #[]] w fun e w'=>e=.returned (.tuple #[])∧Below w.heap.size w w':=by
 go_enter Tryz.func208,Tryz.ntmps208
 go_wp2
 go_end0
 exact ⟨rfl,(Below.refl _ _).alloc (Nat.le_refl _) _⟩
theorem bytesReader_any (w:World) (a:Option Addr) (n c:Nat):Calls Tryz.prog 24 #[.slice a n c] w fun e w'=>e=.returned (.pointer (some ⟨w.heap.size,0,none⟩))∧w'=w.alloc (.cells #[.slice a n c,.int .i64 0,.int .i64 (-1)] 161):=by
 go_enter Tryz.func24,Tryz.ntmps24
 go_wp2
 go_ret
 exact ⟨rfl,rfl⟩
end
end Go.Proofs.YtmkdpjicgjhhjaaGreatDoor
