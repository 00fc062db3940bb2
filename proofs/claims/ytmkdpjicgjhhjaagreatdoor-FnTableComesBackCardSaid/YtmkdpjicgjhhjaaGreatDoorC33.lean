/- Part 33 of the proof of FnTableComesBack: contracts and lemmas, each under the conditions that it states. Texts: BCP, IBk, ILs. -/
import Derived.Test.YtmkdpjicgjhhjaaGreatDoorC29
import Derived.Test.YtmkdpjicgjhhjaaGreatDoorC32
import Derived.Test.YtmkdpjicgjhhjaaGreatDoorC31
namespace Go.Proofs.YtmkdpjicgjhhjaaGreatDoor
open Go.Lib (hid)
set_option maxRecDepth 100000
set_option linter.all false
section
open Go Go.RowKit Go.Shelf
theorem bprev_soi {w:World} {g:Nat} {c:IC} {s:IS} {O:Own} {key:Bs} {nodes:List Nat} {pk:Bs} (h:BI w g c s O key nodes pk) (hd:s.dir=0):Calls Tryz.prog 173 #[.pointer (some ⟨g,0,none⟩)] w fun e w'=>e=.returned (.bool false)∧w'=w:=by
 have hz11:=h.dirCell;rw [hd] at hz11;clear h hd;go_enter Tryz.func173,Tryz.ntmps173
 go_wp2
 go_ret
 exact ⟨rfl,rfl⟩
section
variable {w:World} {g:Nat} {S:Nat→Prop} {c:IC} {d:DBk} {lo hi st cur:Nat}
theorem PrevTo.at' {pos:Nat} (hlo:lo=0) (hhi:hi=d.es.length) (hfw:d.fw=false) (hpos:pos≤hi) {s':IS} {k':Bs} {n':List Nat} {p':Bs} (h:PrevTo d.q d.ri d.p0 d.es pos s' k' n' p'):BAt d lo hi s' k' n' p' pos:=by
 rcases Nat.eq_zero_or_pos pos with h0 | h0
 ·obtain ⟨e1,e2,e3⟩:=h.1 h0;exact .inl ⟨h0,e1,e2,e3⟩
 ·obtain ⟨e1,e2,e3,e4,e5,e6,e,e7,e8⟩:=h.2 h0;exact .inr (.inr ⟨pos - 1,e,by omega,by omega,by omega,e7,e8,e6,by rw [show pos - 1+1=pos by omega];exact e5,.inr ⟨e1,hfw,e2,e3,e4⟩⟩)
theorem BC.prev (h:BC w g S c d lo hi st cur) (hf:BFull c d lo hi st):Calls Tryz.prog 173 #[.pointer (some ⟨g,0,none⟩)] w fun e w'=>e=.returned (.bool (decide (0 < cur - 1)))∧BC w' g (grow S w w') c d lo hi st (cur - 1)∧Fr S w w':=by
 have h0:=h;obtain ⟨s,O,key,nodes,pk,h1,h2,h3,h4,h5,h6⟩:=h;obtain ⟨f1,f2,f3,f4,f5,f6,f7,f8,f9,hri⟩:=hf;have hp:∀ pos,PSt d.ri d.p0 d.es s nodes pk pos→pos≤hi→cur - 1=pos→Calls Tryz.prog 173 #[.pointer (some ⟨g,0,none⟩)] w fun e w'=>e=.returned (.bool (decide (0 < cur - 1)))∧BC w' g (grow S w w') c d lo hi st (cur - 1)∧Fr S w w':=fun pos a b e=>by
  rw [e];refine (bprev_any w g c s O key nodes pk h1 d.q d.off d.len d.ri d.p0 d.es h2 h3 hri ⟨f4,f5,f6,f7,f8⟩ pos a).mono ?_;rintro e w' ⟨rfl,hb⟩;exact ⟨rfl,BC.of_to h2 h3 h4 h5 hb (fun s' k' n' p' hq=>hq.at' f1 f2 f9 b)⟩
 rcases h6 with ⟨rfl,e1,e2,e3⟩ | ⟨rfl,e1,e2,e3⟩ | ⟨k,e,rfl,b1,b2,b3,b4,b5,b6,b7⟩
 ·refine (bprev_soi h1 e1).mono ?_;rintro e w' ⟨rfl,rfl⟩;exact ⟨rfl,h0.mono (fun k _ h=>.inl h),Fr.refl _ _⟩
 ·exact hp hi (.inr (.inl ⟨e1,f2,e2,e3⟩)) (Nat.le_refl _) rfl
 ·rcases b7 with ⟨g1,g2,g3,g4,g5⟩ | ⟨g1,_,g2,g3,g4⟩
  ·exact hp k (.inl ⟨g1,by omega,g2,g3,g4,g5⟩) (by omega) rfl
  ·exact hp k (.inr (.inr ⟨g1,by omega,g2,g3,g4⟩)) (by omega) rfl
set_option maxHeartbeats 4000000 in
theorem BC.last (h:BC w g S c d lo hi st cur) (hf:BFull c d lo hi st):Calls Tryz.prog 172 #[.pointer (some ⟨g,0,none⟩)] w fun e w'=>e=.returned (.bool (decide (0 < hi)))∧BC w' g (grow S w w') c d lo hi st hi∧Fr S w w':=by
 obtain ⟨s,O,key,nodes,pk,h,h2,h3,h4,h5,h6⟩:=h;obtain ⟨f1,f2,f3,f4,f5,f6,f7,f8,f9,hri⟩:=hf;have hz11:=h.dirCell;have hz17:w.cell? ⟨g,17,none⟩=some .nilIface:=h.blk.cell (k:=17) rfl;have hz8:w.cell? ⟨g,8,none⟩=some s.nv:=h.blk.cell (k:=8) rfl;have hz9:w.cell? ⟨g,9,none⟩=some s.pv:=h.blk.cell (k:=9) rfl;have hf8:=h.blk.free 8;have hf9:=h.blk.free 9;have hf11:=h.blk.free 11;have hd:s.dir≤3∧(s.dir≠2→nodes=[]∧pk=[]):=by
  rcases h6 with ⟨_,e1,e2,e3⟩ | ⟨_,e1,e2,e3⟩ | ⟨k,e,_,_,_,_,_,_,_,⟨f1,f2,f3,f4,f5⟩ | ⟨f1,_⟩⟩
  ·exact ⟨by omega,fun _=>⟨e2,e3⟩⟩
  ·exact ⟨by omega,fun _=>⟨e2,e3⟩⟩
  ·exact ⟨by omega,fun _=>⟨f3,f4⟩⟩
  ·exact ⟨by omega,fun h=>absurd f1 h⟩
 obtain ⟨na,nc,pa,pc,hsln,hslp,hno,hpo⟩:=h.cuts;have hnx:∀ w1,BITo g c O w w1 (fun s' _ n' p'=>s'.dir=1∧n'=[]∧p'=[])→Calls Tryz.prog 173 #[.pointer (some ⟨g,0,none⟩)] w1 fun e w'=>e=.returned (.bool (decide (0 < hi)))∧BC w' g (grow S w w') c d lo hi st hi∧Fr S w w':=by
  rintro w1 ⟨s1,O1,k1,n1,p1,h1,⟨hd,rfl,rfl⟩,hf,hO⟩;have hE1:BE w1 c.p d.q d.off d.len d.ri d.p0 d.es:=h2.keep (hf.block _ h2.rb.blk.lt (by rintro (e | e);exact h3.1 e;exact h3.2.2.1 e)) (hf.block _ h2.rb.qlt (by rintro (e | e);exact h3.2.1 e;exact h3.2.2.2 e));have hap1:c.p≠g∧d.q≠g∧¬ O1.has c.p∧¬ O1.has d.q:=⟨h3.1,h3.2.1,fun e=>(hO _ e).elim h3.2.2.1 (fun h'=>by have:=h2.rb.blk.lt;omega),fun e=>(hO _ e).elim h3.2.2.2 (fun h'=>by have:=h2.rb.qlt;omega)⟩
  refine (bprev_any w1 g c s1 O1 k1 [] [] h1 d.q d.off d.len d.ri d.p0 d.es hE1 hap1 hri ⟨f4,f5,f6,f7,f8⟩ hi (.inr (.inl ⟨hd,f2,rfl,rfl⟩))).mono ?_;rintro e w' ⟨rfl,hb⟩;exact ⟨rfl,BC.of_to h2 h3 h4 h5 (BITo.trans hf hO hb) (fun s' k' n' p' hq=>hq.at' f1 f2 f9 (Nat.le_refl _))⟩
 have HNX:=hid hnx;have hdr:BITo g c O w (((w.setCell ⟨g,8,none⟩ (.slice na 0 nc)).setCell ⟨g,9,none⟩ (.slice pa 0 pc)).setCell ⟨g,11,none⟩ (.int .i64 1)) (fun s' _ n' p'=>s'.dir=1∧n'=[]∧p'=[]):=(h.drop hno hpo 1).mono (by rintro s' k' n' p' ⟨rfl,rfl,rfl,rfl⟩;exact ⟨rfl,rfl,rfl⟩);have hsd:s.dir≠2→BITo g c O w (w.setCell ⟨g,11,none⟩ (.int .i64 1)) (fun s' _ n' p'=>s'.dir=1∧n'=[]∧p'=[]):=fun hd2=>by
  have h3:=h.setNum { s with dir:=1 } 11 (.int .i64 1) rfl rfl rfl rfl;exact ⟨_,O,key,nodes,pk,h3,⟨rfl,(hd.2 hd2).1,(hd.2 hd2).2⟩,(Fr.refl (fun k=>k=g∨O.has k) w).setC g 11 _ (.inl rfl),fun _ h=>.inl h⟩
 by_cases hd2:s.dir=2
 ·have hcall:=HNX.out _ hdr;rw [hd2] at hz11;clear hdr hsd hd hd2 h hno hpo hnx h2 h3 h4 h5 h6 f1 f2 f3 f4 f5 f6 f7 f8 f9;go_enter Tryz.func172,Tryz.ntmps172
  go_wp2_with fail
  refine hcall.mono ?_;rintro e w' ⟨rfl,hb⟩;have HB:=hid hb;clear hb hcall;dsimp only;go_wp2
  go_ret
  exact ⟨rfl,HB.out⟩
 ·have hcall:=HNX.out _ (hsd hd2);have hd3:=hd.1;have hdn2:((s.dir:Int) == 2)=false:=by rw [beq_eq_false_iff_ne];omega
  have hdnm:((s.dir:Int) == -1)=false:=by rw [beq_eq_false_iff_ne];omega
  clear hdr hsd hd hd2 h hno hpo hnx h2 h3 h4 h5 h6 f1 f2 f3 f4 f5 f6 f7 f8 f9;go_enter Tryz.func172,Tryz.ntmps172
  go_wp2_with fail
  refine hcall.mono ?_;rintro e w' ⟨rfl,hb⟩;have HB:=hid hb;clear hb hcall;dsimp only;go_wp2
  go_ret
  exact ⟨rfl,HB.out⟩
end
end
section
open Go Go.RowKit Go.Shelf
def IP.whole (P:IP):Prop:=P.R.fw=false
section
variable {P:IP} {w w':World} {X:Nat→Prop} {ci i cj:Nat} {dv:Value}
theorem IP.whole.lo0 (hw:P.whole) (h:IX P w X ci dv):P.R.lo=0:=(h.full hw).1
theorem idxPrev_any (hw:P.whole) (h:IX P w X ci dv):Calls Tryz.prog 173 #[.pointer (some ⟨P.gx,0,none⟩)] w fun e w'=>e=.returned (.bool (decide (0 < ci - 1)))∧IX P w' (grow X w w') (ci - 1) dv∧Below P.base w w':=by
 refine (h.bc.prev (h.full hw)).mono ?_;rintro e w' ⟨h1,h2,h3⟩;exact ⟨h1,h.move h2 h3⟩
theorem idxLast_any (hw:P.whole) (h:IX P w X ci dv) (hd:IDv P w X dv):Calls Tryz.prog 172 #[.pointer (some ⟨P.gx,0,none⟩)] w fun e w'=>e=.returned (.bool (decide (0 < P.R.hi)))∧IX P w' (grow X w w') P.R.hi dv∧IDv P w' (grow X w w') dv∧Below P.base w w':=by
 refine (h.bc.last (h.full hw)).mono ?_;rintro e w' ⟨h1,h2,h3⟩;exact ⟨h1,(h.move h2 h3).1,hd.move h3,(h.move h2 h3).2⟩
theorem ID.op {g:Nat} {Y:Nat→Prop} {c:IC} {d:DBk} {st:Nat} {b:DB} {cj':Nat} (h:IX P w X ci dv) (hb:P.T.B[i]?=some b) (h4:d.es=b.es) (h5:d.fw=P.R.fw) (h6:c.tr=P.r) (h7:c.x2=.iface 141 (.pointer (some ⟨c.p,0,none⟩)))
  (h8:∀ k,Y k∨k=c.p∨k=d.q→P.base≤k∧k < w.heap.size∧k≠P.it∧k≠P.ii∧¬ (X k∨P.A k)) (h9:d.fw=false→BFull c d (P.R.dl i) (P.R.dh i) st) (q2:BC w' g (grow Y w w') c d (P.R.dl i) (P.R.dh i) st cj') (q3:Fr Y w w') :
  IX P w' X ci dv∧ID P w' X i cj' (.iface 153 (.pointer (some ⟨g,0,none⟩)))∧Below P.base w w':=by
 have hy:∀ k,k < w.heap.size→Y k→P.base≤k∧k≠P.it∧k≠P.ii∧¬ (X k∨P.A k):=fun k hk hY=>by
  have:=h8 k (.inl hY);exact ⟨this.1,this.2.2⟩
 have hlow:=h.low;refine ⟨h.keep q3 hy,⟨g,_,c,d,st,b,rfl,hb,q2,h4,h5,h6,h7,fun k hk=>?_,h9⟩,q3.below hlow (fun k hk hY=>by have:=(hy k (by omega) hY).1;omega)⟩;have hsz:=q3.size;rcases hk with (e | e) | e
 ·have:=h8 k (.inl e);exact ⟨this.1,by omega,this.2.2⟩
 ·have:=h.hit.lt;have:=h.hii.lt;exact ⟨by omega,e.2,by omega,by omega,fun hX=>by have:=hX.elim (fun e=>(h.xb k e).2) (fun e=>(h.ab k e).2);omega⟩
 ·have:=h8 k (.inr e);exact ⟨this.1,by omega,this.2.2⟩
theorem dataPrev_any (hw:P.whole) (h:IX P w X ci dv) (hd:ID P w X i cj dv):∃ g,dv=.iface 153 (.pointer (some ⟨g,0,none⟩)) ∧
  (Calls Tryz.prog 173 #[.pointer (some ⟨g,0,none⟩)] w fun e w'=>e=.returned (.bool (decide (0 < cj - 1)))∧IX P w' X ci dv∧ID P w' X i (cj - 1) dv∧Below P.base w w')∧P.R.dl i=0:=by
 obtain ⟨g,Y,c,d,st,b,rfl,hb,h3,h4,h5,h6,h7,h8,h9⟩:=hd;have hf:=h9 (h5.trans hw);refine ⟨g,rfl,(h3.prev hf).mono ?_,hf.1⟩;rintro e w' ⟨q1,q2,q3⟩;exact ⟨q1,ID.op h hb h4 h5 h6 h7 h8 h9 q2 q3⟩
theorem dataLast_any (hw:P.whole) (h:IX P w X ci dv) (hd:ID P w X i cj dv):∃ g,dv=.iface 153 (.pointer (some ⟨g,0,none⟩)) ∧
  (Calls Tryz.prog 172 #[.pointer (some ⟨g,0,none⟩)] w fun e w'=>e=.returned (.bool (decide (0 < P.R.dh i)))∧IX P w' X ci dv∧ID P w' X i (P.R.dh i) dv∧Below P.base w w')∧P.R.dl i=0:=by
 obtain ⟨g,Y,c,d,st,b,rfl,hb,h3,h4,h5,h6,h7,h8,h9⟩:=hd;have hf:=h9 (h5.trans hw);refine ⟨g,rfl,(h3.last hf).mono ?_,hf.1⟩;rintro e w' ⟨q1,q2,q3⟩;exact ⟨q1,ID.op h hb h4 h5 h6 h7 h8 h9 q2 q3⟩
end
set_option maxHeartbeats 8000000 in
theorem iprev_any (P:IP) (hg:P.gets) (hw:P.whole):∀ n w q,(∃ X ci,IX P w X ci .nilIface∧ci≤P.R.hi+1∧q=(vup P (ci - 1)).length∧ci < n)∨(∃ X i j dv,P.R.lo≤i∧i < P.R.hi∧IX P w X (i+1) dv∧ID P w X i (j+1) dv∧j < P.R.dh i∧q=(vup P i).length+j∧i+1 < n) →
  Calls Tryz.prog 214 #[.pointer (some ⟨P.it,0,none⟩)] w fun e w'=>e=.returned (.bool (decide (0 < q)))∧II P w' q∧Below P.base w w'
 | 0,w,q,h=>by
  rcases h with ⟨_,_,_,_,_,h⟩ | ⟨_,_,_,_,_,_,_,_,_,_,h⟩ <;> omega
 | n+1,w,q,h=>by
  have ih:=iprev_any P hg hw n;rcases h with ⟨X,ci,hx,hci1,hq,hn⟩ | ⟨X,i,j,dv,hi1,hi2,hx,hd,hj,hq,hn⟩
  ·have h5:w.cell? ⟨P.it,5,none⟩=some .nilIface:=hx.hit.cell (k:=5) rfl;have h4:w.cell? ⟨P.it,4,none⟩=some .nilIface:=hx.hit.cell (k:=4) rfl;have hre:=released_any hx;have HX0:=hid hx;have HQ:=hid hq;have HB0:=hid (Below.refl P.base w);have HCI:=hid hci1;have HN:Hid (ci≤n):=hid (by omega);clear hx hq hn hci1;go_enter Tryz.func214,Tryz.ntmps214
   go_wp2_with fail
   refine hre.mono ?_;rintro e w' ⟨rfl,hw'⟩;rw [hw'];clear hre hw' w';dsimp only;go_upto_region 11 with fail
   clear h5 h4;have hm:=metPrev w P.ii (.pointer (some ⟨P.gx,0,none⟩)) (HX0.out.hii.cell (k:=0) rfl);have hz2:w.cell? ⟨P.it,2,none⟩=some (.iface 173 (.pointer (some ⟨P.ii,0,none⟩))):=HX0.out.hit.cell (k:=2) rfl;have hz4:w.cell? ⟨P.it,4,none⟩=some .nilIface:=HX0.out.hit.cell (k:=4) rfl;have hpx:=idxPrev_any hw HX0.out;by_cases hle:0 < ci - 1
   ·rw [decide_eq_true hle] at hpx;go_wp2_with fail
    refine hpx.mono ?_;rintro e w6 ⟨rfl,h6,hb6⟩;obtain ⟨i,hi⟩:∃ i,ci - 1=i+1:=⟨ci - 1 - 1,by omega⟩;rw [hi] at h6;have hlo:=hw.lo0 HX0.out;have hih:i < P.R.hi:=by have:=HCI.out;omega
    have hsd:=setData_any hg h6 (.inl rfl) (by omega) hih;have HQ6:Hid (q=(vup P (i+1)).length):=hid (by rw [HQ.out,hi]);have HB6:=hid (HB0.out.trans hb6);clear hpx h6 hm hz2 hz4 hb6;dsimp only;go_wp2_with fail
    refine hsd.mono ?_;rintro e w7 ⟨rfl,dv7,h7,h7d,hb7⟩;obtain ⟨g7,rfl,hdl,hsl7⟩:=dataLast_any hw h7 h7d;have h74:w7.cell? ⟨P.it,4,none⟩=some (.iface 153 (.pointer (some ⟨g7,0,none⟩))):=h7.hit.cell (k:=4) rfl;have hvs:(vup P (i+1)).length=(vup P i).length+(P.R.dh i - P.R.dl i):=by rw [vup,List.length_append,(seg_len h7d (by omega) hih).1]
    have HVS:=hid hvs;have HB7:=hid (HB6.out.trans hb7);have HSL7:=hid hsl7;clear hsd h7 h7d hb7 hvs hsl7;dsimp only;by_cases hl:0 < P.R.dh i
    ·rw [decide_eq_true hl] at hdl;go_wp2_with fail
     refine hdl.mono ?_;rintro e w8 ⟨rfl,h8,h8d,hb8⟩;have h84:w8.cell? ⟨P.it,4,none⟩=some (.iface 153 (.pointer (some ⟨g7,0,none⟩))):=h8.hit.cell (k:=4) rfl;obtain ⟨j,hj⟩:∃ j,P.R.dh i=j+1:=⟨P.R.dh i - 1,by omega⟩;rw [hj] at h8d;have HF:Hid (II P w8 q∧Below P.base w w8∧0 < q):=hid (by
      have h1:=HSL7.out;have h2:=HVS.out;have h3:=HQ6.out;refine ⟨⟨_,.inr (.inr ⟨i,j,_,by omega,hih,h8,h8d,by omega,by omega,by omega⟩)⟩,HB7.out.trans hb8,by omega⟩)
     clear hdl h8 h8d hb8;dsimp only;go_wp2
     go_ret
     exact ⟨by rw [decide_eq_true HF.out.2.2];rfl,HF.out.1,HF.out.2.1⟩
    ·rw [decide_eq_false hl] at hdl;go_wp2_with fail
     refine hdl.mono ?_;rintro e w8 ⟨rfl,h8,h8d,hb8⟩;have h84:w8.cell? ⟨P.it,4,none⟩=some (.iface 153 (.pointer (some ⟨g7,0,none⟩))):=h8.hit.cell (k:=4) rfl;have hde:=dataErr_any h8 h8d;have hcl:=clear_any h8 (.inr ⟨_,_,h8d⟩);have HB8:=hid (HB7.out.trans hb8);clear hdl h8 h8d hb8;dsimp only;go_wp2_with fail
     refine hde.mono ?_;rintro e w' ⟨rfl,hw'⟩;rw [hw'];clear hde hw' w';dsimp only;go_wp2_with fail
     refine hcl.mono ?_;rintro e w9 ⟨rfl,h9,hb9⟩;have hrec:=ih w9 q (.inl ⟨_,i+1,h9,by omega,by rw [HQ6.out,HVS.out,Nat.add_sub_cancel];omega,by have:=HN.out;omega⟩);have HB9:=hid (HB8.out.trans hb9);clear hcl h9 hb9;dsimp only;go_wp2_with fail
     refine hrec.mono ?_;rintro e w10 ⟨rfl,h10,hb10⟩;have HF:=hid (show II P w10 q∧Below P.base w w10 from ⟨h10,HB9.out.trans hb10⟩);clear hrec h10 hb10;dsimp only;go_wp2
     go_ret
     exact ⟨rfl,HF.out⟩
   ·rw [decide_eq_false hle] at hpx;go_wp2_with fail
    refine hpx.mono ?_;rintro e w6 ⟨rfl,h6,hb6⟩;have hci:ci - 1=0:=by omega
    rw [hci] at h6;have hqn:q=0:=by rw [HQ.out,hci];rfl
    have hie:=indexErr_any h6;have HF:=hid (show II P w6 q∧Below P.base w w6 from ⟨⟨_,.inl ⟨hqn,h6⟩⟩,HB0.out.trans hb6⟩);have HQN:=hid hqn;clear hpx h6 hb6 hm hz2 hz4 hci hqn;dsimp only;go_wp2_with fail
    refine hie.mono ?_;rintro e w' ⟨rfl,hw'⟩;rw [hw'];clear hie hw' w';dsimp only;go_wp2
    go_ret
    exact ⟨by rw [HQN.out];rfl,HF.out⟩
  ·obtain ⟨g,rfl,hdp,hdl0⟩:=dataPrev_any hw hx hd;have h5:w.cell? ⟨P.it,5,none⟩=some .nilIface:=hx.hit.cell (k:=5) rfl;have h4:w.cell? ⟨P.it,4,none⟩=some (.iface 153 (.pointer (some ⟨g,0,none⟩))):=hx.hit.cell (k:=4) rfl;have hre:=released_any hx;rw [Nat.add_sub_cancel] at hdp;have HX:=hid hx;clear hd hx;by_cases hle:0 < j
   ·rw [decide_eq_true hle] at hdp;obtain ⟨jj,rfl⟩:∃ jj,j=jj+1:=⟨j - 1,by omega⟩;have HQ:=hid hq;clear hq;go_enter Tryz.func214,Tryz.ntmps214
    go_wp2_with fail
    refine hre.mono ?_;rintro e w' ⟨rfl,hw'⟩;rw [hw'];clear hre hw' w';dsimp only;go_wp2_with fail
    refine hdp.mono ?_;rintro e w1 ⟨rfl,h1,h1d,hb1⟩;have h14:w1.cell? ⟨P.it,4,none⟩=some (.iface 153 (.pointer (some ⟨g,0,none⟩))):=h1.hit.cell (k:=4) rfl;have HF:=hid (show II P w1 q∧Below P.base w w1 from ⟨⟨X,.inr (.inr ⟨i,jj,_,hi1,hi2,h1,h1d,by omega,by omega,by rw [HQ.out];omega⟩)⟩,hb1⟩);have HQL:Hid (0 < q):=hid (by rw [HQ.out];omega);clear hdp h1 h1d hb1 h4 h5;dsimp only;go_wp2
    go_ret
    exact ⟨by rw [decide_eq_true HQL.out];rfl,HF.out⟩
   ·rw [decide_eq_false hle] at hdp;obtain ⟨c2,hc2⟩:∃ c2,c2=i+1:=⟨_,rfl⟩;have HQ:Hid (q=(vup P (c2 - 1)).length):=hid (by rw [hq,hc2];show _=(vup P i).length;omega);have HCI:Hid (c2≤P.R.hi+1):=hid (by omega);have HN:Hid (c2≤n):=hid (by omega);have HC2:=hid hc2;clear hq hc2;go_enter Tryz.func214,Tryz.ntmps214
    go_wp2_with fail
    refine hre.mono ?_;rintro e w' ⟨rfl,hw'⟩;rw [hw'];clear hre hw' w';dsimp only;go_wp2_with fail
    refine hdp.mono ?_;rintro e w1 ⟨rfl,h1,h1d,hb1⟩;have hde:=dataErr_any h1 h1d;have hcl:=clear_any h1 (.inr ⟨_,_,h1d⟩);have h14:w1.cell? ⟨P.it,4,none⟩=some (.iface 153 (.pointer (some ⟨g,0,none⟩))):=h1.hit.cell (k:=4) rfl;have HB1:=hid hb1;clear hdp h1 h1d hb1 h4 h5;dsimp only;go_wp2_with fail
    refine hde.mono ?_;rintro e w' ⟨rfl,hw'⟩;rw [hw'];clear hde hw' w';dsimp only;go_wp2_with fail
    refine hcl.mono ?_;rintro e w2 ⟨rfl,h2,hb2⟩;rw [← HC2.out] at h2;have HX2:=hid h2;have HB2:=hid (HB1.out.trans hb2);clear hcl h2 hb2 h14;dsimp only;go_upto_region 11 with fail
    have hm:=metPrev w2 P.ii (.pointer (some ⟨P.gx,0,none⟩)) (HX2.out.hii.cell (k:=0) rfl);have hz2:w2.cell? ⟨P.it,2,none⟩=some (.iface 173 (.pointer (some ⟨P.ii,0,none⟩))):=HX2.out.hit.cell (k:=2) rfl;have hz4:w2.cell? ⟨P.it,4,none⟩=some .nilIface:=HX2.out.hit.cell (k:=4) rfl;have hpx:=idxPrev_any hw HX2.out;by_cases hle:0 < c2 - 1
    ·rw [decide_eq_true hle] at hpx;go_wp2_with fail
     refine hpx.mono ?_;rintro e w6 ⟨rfl,h6,hb6⟩;obtain ⟨i,hi⟩:∃ i,c2 - 1=i+1:=⟨c2 - 1 - 1,by omega⟩;rw [hi] at h6;have hlo:=hw.lo0 HX2.out;have hih:i < P.R.hi:=by have:=HCI.out;omega
     have hsd:=setData_any hg h6 (.inl rfl) (by omega) hih;have HQ6:Hid (q=(vup P (i+1)).length):=hid (by rw [HQ.out,hi]);have HB6:=hid (HB2.out.trans hb6);clear hpx h6 hm hz2 hz4 hb6;dsimp only;go_wp2_with fail
     refine hsd.mono ?_;rintro e w7 ⟨rfl,dv7,h7,h7d,hb7⟩;obtain ⟨g7,rfl,hdl,hsl7⟩:=dataLast_any hw h7 h7d;have h74:w7.cell? ⟨P.it,4,none⟩=some (.iface 153 (.pointer (some ⟨g7,0,none⟩))):=h7.hit.cell (k:=4) rfl;have hvs:(vup P (i+1)).length=(vup P i).length+(P.R.dh i - P.R.dl i):=by rw [vup,List.length_append,(seg_len h7d (by omega) hih).1]
     have HVS:=hid hvs;have HB7:=hid (HB6.out.trans hb7);have HSL7:=hid hsl7;clear hsd h7 h7d hb7 hvs hsl7;dsimp only;by_cases hl:0 < P.R.dh i
     ·rw [decide_eq_true hl] at hdl;go_wp2_with fail
      refine hdl.mono ?_;rintro e w8 ⟨rfl,h8,h8d,hb8⟩;have h84:w8.cell? ⟨P.it,4,none⟩=some (.iface 153 (.pointer (some ⟨g7,0,none⟩))):=h8.hit.cell (k:=4) rfl;obtain ⟨j,hj⟩:∃ j,P.R.dh i=j+1:=⟨P.R.dh i - 1,by omega⟩;rw [hj] at h8d;have HF:Hid (II P w8 q∧Below P.base w w8∧0 < q):=hid (by
       have h1:=HSL7.out;have h2:=HVS.out;have h3:=HQ6.out;refine ⟨⟨_,.inr (.inr ⟨i,j,_,by omega,hih,h8,h8d,by omega,by omega,by omega⟩)⟩,HB7.out.trans hb8,by omega⟩)
      clear hdl h8 h8d hb8;dsimp only;go_wp2
      go_ret
      exact ⟨by rw [decide_eq_true HF.out.2.2];rfl,HF.out.1,HF.out.2.1⟩
     ·rw [decide_eq_false hl] at hdl;go_wp2_with fail
      refine hdl.mono ?_;rintro e w8 ⟨rfl,h8,h8d,hb8⟩;have h84:w8.cell? ⟨P.it,4,none⟩=some (.iface 153 (.pointer (some ⟨g7,0,none⟩))):=h8.hit.cell (k:=4) rfl;have hde:=dataErr_any h8 h8d;have hcl:=clear_any h8 (.inr ⟨_,_,h8d⟩);have HB8:=hid (HB7.out.trans hb8);clear hdl h8 h8d hb8;dsimp only;go_wp2_with fail
      refine hde.mono ?_;rintro e w' ⟨rfl,hw'⟩;rw [hw'];clear hde hw' w';dsimp only;go_wp2_with fail
      refine hcl.mono ?_;rintro e w9 ⟨rfl,h9,hb9⟩;have hrec:=ih w9 q (.inl ⟨_,i+1,h9,by omega,by rw [HQ6.out,HVS.out,Nat.add_sub_cancel];omega,by have:=HN.out;omega⟩);have HB9:=hid (HB8.out.trans hb9);clear hcl h9 hb9;dsimp only;go_wp2_with fail
      refine hrec.mono ?_;rintro e w10 ⟨rfl,h10,hb10⟩;have HF:=hid (show II P w10 q∧Below P.base w w10 from ⟨h10,HB9.out.trans hb10⟩);clear hrec h10 hb10;dsimp only;go_wp2
      go_ret
      exact ⟨rfl,HF.out⟩
    ·rw [decide_eq_false hle] at hpx;go_wp2_with fail
     refine hpx.mono ?_;rintro e w6 ⟨rfl,h6,hb6⟩;have hci:c2 - 1=0:=by omega
     rw [hci] at h6;have hqn:q=0:=by rw [HQ.out,hci];rfl
     have hie:=indexErr_any h6;have HF:=hid (show II P w6 q∧Below P.base w w6 from ⟨⟨_,.inl ⟨hqn,h6⟩⟩,HB2.out.trans hb6⟩);have HQN:=hid hqn;clear hpx h6 hb6 hm hz2 hz4 hci hqn;dsimp only;go_wp2_with fail
     refine hie.mono ?_;rintro e w' ⟨rfl,hw'⟩;rw [hw'];clear hie hw' w';dsimp only;go_wp2
     go_ret
     exact ⟨by rw [HQN.out];rfl,HF.out⟩
theorem II.prev {P:IP} (hg:P.gets) (hw:P.whole) {w:World} {cur:Nat} (h:II P w cur):Calls Tryz.prog 214 #[.pointer (some ⟨P.it,0,none⟩)] w fun e w'=>e=.returned (.bool (decide (0 < cur - 1)))∧II P w' (cur - 1)∧Below P.base w w':=by
 obtain ⟨X,⟨rfl,h⟩ | ⟨rfl,h⟩ | ⟨i,j,dv,h1,h2,h3,h4,h5,h6,rfl⟩⟩:=h
 ·exact iprev_any P hg hw 1 w 0 (.inl ⟨X,0,h,by omega,rfl,by omega⟩)
 ·exact iprev_any P hg hw _ w _ (.inl ⟨X,_,h,Nat.le_refl _,rfl,Nat.lt_succ_self _⟩)
 ·obtain ⟨_,_,_,hdl0⟩:=dataPrev_any hw h3 h4;exact iprev_any P hg hw _ w _ (.inr ⟨X,i,j,dv,h1,h2,h3,h4,h6,by omega,Nat.lt_succ_self _⟩)
end
section
open Go Go.RowKit Go.Shelf
theorem bends_pos' {w:World} {p q off len ri:Nat} {p0:Bs} {es:List KV} (h:BE w p q off len ri p0 es):0 < (bends ri p0 es).length:=bends_pos h.ri
theorem BC.seekW {w:World} {g:Nat} {S:Nat→Prop} {c:IC} {d:DBk} {lo hi st cur:Nat} (h:BC w g S c d lo hi st cur) (hf:BFull c d lo hi st) (hT:w.cell? ⟨c.tr,6,none⟩=some (.iface 192 (.agg #[]))) (hTa:¬ S c.tr) (ka:Option Addr) (kn kc:Nat) (tk:Bs) (hk:Sl w ka kn kc tk)
  (hka:∀ x p,ka=some ⟨x,p,none⟩→0 < kn→¬ S x) (hr:Rising d.es) :
  Calls Tryz.prog 77 #[.pointer (some ⟨g,0,none⟩),.slice ka kn kc] w fun e w'=>e=.returned (.bool (decide (sidx d.es tk < hi)))∧BC w' g (grow S w w') c d lo hi st (sidx d.es tk+1)∧Fr S w w':=by
 obtain ⟨f1,f2,f3,f4,f5,f6,f7,f8,f9,f10⟩:=hf;have hb:0 < (bends d.ri d.p0 d.es).length:=by
  obtain ⟨_,_,_,_,_,_,h2,_⟩:=h;exact bends_pos' h2
 have hs:SRange d.ri d.p0 d.es c lo:=⟨f5,.inl ⟨by rw [f4];exact hb,by rw [f4];omega,by rw [f4,Nat.zero_mul,f6];rfl⟩⟩;exact h.seek hT hTa ka kn kc tk hk hka hr f2 hs (sidx d.es tk) (by omega) (by rw [f2];exact sidx_le _ _) (fun i e _ hi he=>sidx_lt hi he) (fun e _ he=>sidx_ge he)
theorem Rising.part {l:List KV} (h:Rising l) {es:List KV} (o:Nat) (he:∀ j,j < es.length→l[o+j]?=es[j]?):Rising es:=fun i j a b hij ha hb=>h (o+i) (o+j) a b (by omega) (by rw [he i (lt_of_some ha)];exact ha) (by rw [he j (lt_of_some hb)];exact hb)
theorem TI.ok.bRising {T:TI} (h:T.ok) {i:Nat} {b:DB} (hb:T.B[i]?=some b):Rising b.es:=h.rising.part (before T.B i) (fun j hj=>h.tab.pair hb hj)
def wholeIR (T:TI):IR:={ lo:=0,hi:=T.B.length,dl:=fun _=>0,dh:=fun i=>((T.B[i]?.map DB.es).getD []).length,fw:=false,sl:=none }
theorem whole_vup {P:IP} (hR:P.R=wholeIR P.T):∀ k,k≤P.T.B.length→vup P k=dents (P.T.B.take k)
 | 0,_=>rfl
 | k+1,h=>by
  have h1:P.R.lo=0:=by rw [hR];rfl
  have h2:P.R.hi=P.T.B.length:=by rw [hR];rfl
  have h3:P.R.dl k=0:=by rw [hR];rfl
  have h4:P.R.dh k=((P.T.B[k]?.map DB.es).getD []).length:=by rw [hR];rfl
  have hk:P.T.B[k]?=some P.T.B[k]:=List.getElem?_eq_getElem (show k < P.T.B.length by omega);have hs:seg P k=P.T.B[k].es:=by
   unfold seg;rw [if_pos ⟨by omega,by omega⟩,h3,h4,hk];simp
  rw [vup,whole_vup hR k (by omega),hs,List.take_add_one,hk,dents_append];simp [dents]
theorem whole_vis {P:IP} (hR:P.R=wholeIR P.T) (h:P.T.ok):vis P=P.T.l:=by
 unfold vis;have:P.R.hi=P.T.B.length:=by rw [hR];rfl
 rw [this,whole_vup hR _ (Nat.le_refl _),List.take_length,h.tab.flat]
theorem whole_before {P:IP} (hR:P.R=wholeIR P.T) {k:Nat} (h:k≤P.T.B.length):(vup P k).length=before P.T.B k:=by rw [whole_vup hR k h];rfl
section
variable {P:IP} {w w':World} {X:Nat→Prop} {ci i cj:Nat} {dv:Value}
theorem idxSeek_any (hw:P.whole) (h:IX P w X ci dv) (hd:IDv P w X dv) {ka:Option Addr} {kn kc:Nat} {tk:Bs} (hk:Key P.base w ka kn kc tk):Calls Tryz.prog 77 #[.pointer (some ⟨P.gx,0,none⟩),.slice ka kn kc] w fun e w'=>e=.returned (.bool (decide (sidx (ients P.T.ri P.T.B P.T.sp) tk < P.R.hi)))∧IX P w' (grow X w w') (sidx (ients P.T.ri P.T.B P.T.sp) tk+1) dv∧IDv P w' (grow X w w') dv∧Below P.base w w':=by
 have hs:=h.bc.seekW (h.full hw) (by rw [h.tr];exact h.rd.c 6) (fun e=>by have:=(h.xb _ e).1;rw [h.tr] at this;have:=h.rd.lr;have:=h.bd;omega) ka kn kc tk hk.sl (fun x p e h0 hX=>by have:=(h.xb x hX).1;have:=hk.low x p e h0;omega) (by rw [h.de];exact h.rd.ok.tab.irising);rw [h.de] at hs;refine hs.mono ?_;rintro e w' ⟨h1,h2,h3⟩;exact ⟨h1,(h.move h2 h3).1,hd.move h3,(h.move h2 h3).2⟩
theorem dataSeek_any (hw:P.whole) (h:IX P w X ci dv) (hd:ID P w X i cj dv) {b:DB} (hbb:P.T.B[i]?=some b) {ka:Option Addr} {kn kc:Nat} {tk:Bs} (hk:Key P.base w ka kn kc tk):∃ g,dv=.iface 153 (.pointer (some ⟨g,0,none⟩)) ∧
  (Calls Tryz.prog 77 #[.pointer (some ⟨g,0,none⟩),.slice ka kn kc] w fun e w'=>e=.returned (.bool (decide (sidx b.es tk < P.R.dh i)))∧IX P w' X ci dv∧ID P w' X i (sidx b.es tk+1) dv∧Below P.base w w')∧P.R.dl i=0∧P.R.dh i=b.es.length:=by
 obtain ⟨g,Y,c,d,st,b',rfl,hb,h3,h4,h5,h6,h7,h8,h9⟩:=hd;obtain rfl:b'=b:=Option.some.inj (hb.symm.trans hbb);have hf:=h9 (h5.trans hw);have hs:=h3.seekW hf (by rw [h6];exact h.rd.c 6) (fun e=>by have:=(h8 _ (.inl e)).1;rw [h6] at this;have:=h.rd.lr;have:=h.bd;omega) ka kn kc tk hk.sl (fun x p e h0 hX=>by have:=(h8 x (.inl hX)).1;have:=hk.low x p e h0;omega) (by rw [h4];exact h.rd.ok.bRising hb);rw [h4] at hs
 refine ⟨g,rfl,hs.mono ?_,hf.1,by rw [hf.2.1,h4]⟩;rintro e w' ⟨q1,q2,q3⟩;exact ⟨q1,ID.op h hb h4 h5 h6 h7 h8 h9 q2 q3⟩
end
set_option maxHeartbeats 4000000 in
theorem II.last {P:IP} (hg:P.gets) (hw:P.whole) {w:World} {cur:Nat} (h:II P w cur):Calls Tryz.prog 212 #[.pointer (some ⟨P.it,0,none⟩)] w fun e w'=>e=.returned (.bool (decide (0 < (vis P).length)))∧II P w' (vis P).length∧Below P.base w w':=by
 obtain ⟨X,ci,dv,hx,hd⟩:=h.out;have h5:w.cell? ⟨P.it,5,none⟩=some .nilIface:=hx.hit.cell (k:=5) rfl;have h2:w.cell? ⟨P.it,2,none⟩=some (.iface 173 (.pointer (some ⟨P.ii,0,none⟩))):=hx.hit.cell (k:=2) rfl;have hm:=metLast w P.ii (.pointer (some ⟨P.gx,0,none⟩)) (hx.hii.cell (k:=0) rfl);have hre:=released_any hx;have hla:=idxLast_any hw hx hd;have hlo:=hw.lo0 hx;clear h hx hd;by_cases hl:0 < P.R.hi
 ·rw [decide_eq_true hl] at hla;obtain ⟨m,hm1⟩:∃ m,P.R.hi=m+1:=⟨P.R.hi - 1,by omega⟩;have hvn:(vis P).length=(vup P m).length+(seg P m).length:=by unfold vis;rw [hm1,vup,List.length_append]
  have HVN:=hid hvn;clear hvn;go_enter Tryz.func212,Tryz.ntmps212
  go_wp2_with fail
  refine hre.mono ?_;rintro e w' ⟨rfl,hw'⟩;rw [hw'];clear hre hw' w';dsimp only;go_wp2_with fail
  refine hla.mono ?_;rintro e w1 ⟨rfl,h1,hd1,hb1⟩;rw [hm1] at h1;have hsd:=setData_any hg h1 hd1 (by omega) (by omega);have HB1:=hid hb1;clear hla h1 hd1 hb1 h5 h2 hm;dsimp only;go_wp2_with fail
  refine hsd.mono ?_;rintro e w7 ⟨rfl,dv7,h7,h7d,hb7⟩;obtain ⟨g7,rfl,hdl,hsl7⟩:=dataLast_any hw h7 h7d;have h74:w7.cell? ⟨P.it,4,none⟩=some (.iface 153 (.pointer (some ⟨g7,0,none⟩))):=h7.hit.cell (k:=4) rfl;have HVS:=hid (seg_len h7d (by omega) (by omega)).1;have HB7:=hid (HB1.out.trans hb7);have HSL7:=hid hsl7;clear hsd h7 h7d hb7 hsl7;dsimp only;by_cases hl2:0 < P.R.dh m
  ·rw [decide_eq_true hl2] at hdl;go_wp2_with fail
   refine hdl.mono ?_;rintro e w8 ⟨rfl,h8,h8d,hb8⟩;have h84:w8.cell? ⟨P.it,4,none⟩=some (.iface 153 (.pointer (some ⟨g7,0,none⟩))):=h8.hit.cell (k:=4) rfl;obtain ⟨j,hj⟩:∃ j,P.R.dh m=j+1:=⟨P.R.dh m - 1,by omega⟩;rw [hj] at h8d;have HF:Hid (II P w8 (vis P).length∧Below P.base w w8∧0 < (vis P).length):=hid (by
    have h1:=HSL7.out;have h2:=HVS.out;have h3:=HVN.out;refine ⟨⟨_,.inr (.inr ⟨m,j,_,by omega,by omega,h8,h8d,by omega,by omega,by omega⟩)⟩,HB7.out.trans hb8,by omega⟩)
   clear hdl h8 h8d hb8;dsimp only;go_wp2
   go_ret
   exact ⟨by rw [decide_eq_true HF.out.2.2];rfl,HF.out.1,HF.out.2.1⟩
  ·rw [decide_eq_false hl2] at hdl;go_wp2_with fail
   refine hdl.mono ?_;rintro e w8 ⟨rfl,h8,h8d,hb8⟩;have h84:w8.cell? ⟨P.it,4,none⟩=some (.iface 153 (.pointer (some ⟨g7,0,none⟩))):=h8.hit.cell (k:=4) rfl;have hde:=dataErr_any h8 h8d;have hcl:=clear_any h8 (.inr ⟨_,_,h8d⟩);have HB8:=hid (HB7.out.trans hb8);clear hdl h8 h8d hb8;dsimp only;go_wp2_with fail
   refine hde.mono ?_;rintro e w' ⟨rfl,hw'⟩;rw [hw'];clear hde hw' w';dsimp only;go_wp2_with fail
   refine hcl.mono ?_;rintro e w9 ⟨rfl,h9,hb9⟩;have hrec:=iprev_any P hg hw _ w9 (vis P).length (.inl ⟨_,m+1,h9,by omega,by rw [HVN.out,HVS.out,Nat.add_sub_cancel];omega,Nat.lt_succ_self _⟩);have HB9:=hid (HB8.out.trans hb9);clear hcl h9 hb9;dsimp only;go_wp2_with fail
   refine hrec.mono ?_;rintro e w10 ⟨rfl,h10,hb10⟩;have HF:=hid (show II P w10 (vis P).length∧Below P.base w w10 from ⟨h10,HB9.out.trans hb10⟩);clear hrec h10 hb10;dsimp only;go_wp2
   go_ret
   exact ⟨rfl,HF.out⟩
 ·rw [decide_eq_false hl] at hla;have h0:P.R.hi=0:=by omega
  have HV:Hid ((vis P).length=0):=hid (by unfold vis;rw [h0];rfl);go_enter Tryz.func212,Tryz.ntmps212
  go_wp2_with fail
  refine hre.mono ?_;rintro e w' ⟨rfl,hw'⟩;rw [hw'];clear hre hw' w';dsimp only;go_wp2_with fail
  refine hla.mono ?_;rintro e w1 ⟨rfl,h1,hd1,hb1⟩;rw [h0] at h1;have hie:=indexErr_any h1;have hcl:=clear_any h1 hd1;have HB1:=hid hb1;clear hla h1 hd1 hb1 h5 h2 hm;dsimp only;go_wp2_with fail
  refine hie.mono ?_;rintro e w' ⟨rfl,hw'⟩;rw [hw'];clear hie hw' w';dsimp only;go_wp2_with fail
  refine hcl.mono ?_;rintro e w2 ⟨rfl,h2,hb2⟩;have HF:=hid (show II P w2 (vis P).length∧Below P.base w w2 from ⟨⟨_,.inl ⟨HV.out,h2⟩⟩,HB1.out.trans hb2⟩);clear hcl h2 hb2;dsimp only;go_wp2
  go_ret
  exact ⟨by rw [HV.out];rfl,HF.out⟩
theorem Key.below' {B:Nat} {w w':World} {a:Option Addr} {n c:Nat} {l:Bs} (h:Key B w a n c l) (hb:Below B w w'):Key B w' a n c l:=h.below hb
set_option maxHeartbeats 4000000 in
theorem II.seek {P:IP} (hg:P.gets) (hR:P.R=wholeIR P.T) {w:World} {cur:Nat} (h:II P w cur) {ka:Option Addr} {kn kc:Nat} {tk:Bs} (hk:Key P.base w ka kn kc tk):Calls Tryz.prog 216 #[.pointer (some ⟨P.it,0,none⟩),.slice ka kn kc] w fun e w'=>(∃ b,e=.returned (.bool b))∧II P w' (sidx P.T.l tk+1)∧Below P.base w w':=by
 have hw:P.whole:=by unfold IP.whole;rw [hR];rfl
 obtain ⟨X,ci,dv,hx,hd⟩:=h.out;have h5:w.cell? ⟨P.it,5,none⟩=some .nilIface:=hx.hit.cell (k:=5) rfl;have h2:w.cell? ⟨P.it,2,none⟩=some (.iface 173 (.pointer (some ⟨P.ii,0,none⟩))):=hx.hit.cell (k:=2) rfl;have hm:=metSeek w P.ii (.pointer (some ⟨P.gx,0,none⟩)) (hx.hii.cell (k:=0) rfl);have hre:=released_any hx;have hse:=idxSeek_any hw hx hd hk;have hok:=hx.rd.ok;have hlo:=hw.lo0 hx;have hhi:P.R.hi=P.T.B.length:=by rw [hR];rfl
 have hil:=hok.tab.ilen;have hsl:=sidx_le (ients P.T.ri P.T.B P.T.sp) tk;rw [hil] at hsl;have hvl:=whole_vis hR hok;have HOK:=hid hok;have HK:=hid hk;have HR:=hid hR;have HVL:=hid hvl;clear h hx hd hk hok hil hR hvl;by_cases hl:sidx (ients P.T.ri P.T.B P.T.sp) tk < P.R.hi
 ·rw [decide_eq_true hl] at hse;generalize hI:sidx (ients P.T.ri P.T.B P.T.sp) tk=I at *;obtain ⟨b,hb⟩:∃ b,P.T.B[I]?=some b:=⟨_,List.getElem?_eq_getElem (show I < P.T.B.length by omega)⟩;have hsk:sidx P.T.l tk=before P.T.B I+sidx b.es tk:=by rw [← hI];exact HOK.out.tab.seek_in tk (by rw [hI];exact hb)
  have hbf:=whole_before HR.out (show I≤P.T.B.length by omega);have hbs:=whole_before HR.out (show I+1≤P.T.B.length by omega);rw [before_succ hb] at hbs;have HS:=hid (show sidx P.T.l tk=(vup P I).length+sidx b.es tk∧(vup P (I+1)).length=(vup P I).length+b.es.length from ⟨by rw [hsk,hbf],by rw [hbs,hbf]⟩);clear hI hsk hbf hbs hhi;go_enter Tryz.func216,Tryz.ntmps216
  go_wp2_with fail
  refine hre.mono ?_;rintro e w' ⟨rfl,hw'⟩;rw [hw'];clear hre hw' w';dsimp only;go_wp2_with fail
  refine hse.mono ?_;rintro e w1 ⟨rfl,h1,hd1,hb1⟩;have hsd:=setData_any hg h1 hd1 (by omega) hl;have HB1:=hid hb1;clear hse h1 hd1 hb1 h5 h2 hm;dsimp only;go_wp2_with fail
  refine hsd.mono ?_;rintro e w7 ⟨rfl,dv7,h7,h7d,hb7⟩;have HB7:=hid (HB1.out.trans hb7);obtain ⟨g7,rfl,hds,hdl0,hdh⟩:=dataSeek_any hw h7 h7d hb (HK.out.below HB7.out);have h74:w7.cell? ⟨P.it,4,none⟩=some (.iface 153 (.pointer (some ⟨g7,0,none⟩))):=h7.hit.cell (k:=4) rfl;have HDH:=hid (show P.R.dl I=0∧P.R.dh I=b.es.length from ⟨hdl0,hdh⟩);clear hsd h7 h7d hb7 hdl0 hdh;dsimp only;by_cases hl2:sidx b.es tk < P.R.dh I
  ·rw [decide_eq_true hl2] at hds;go_wp2_with fail
   refine hds.mono ?_;rintro e w8 ⟨rfl,h8,h8d,hb8⟩;have h84:w8.cell? ⟨P.it,4,none⟩=some (.iface 153 (.pointer (some ⟨g7,0,none⟩))):=h8.hit.cell (k:=4) rfl;have HF:Hid (II P w8 (sidx P.T.l tk+1)∧Below P.base w w8):=hid (by
    have h1:=HS.out.1;have h2:=HDH.out.1;exact ⟨⟨_,.inr (.inr ⟨I,sidx b.es tk,_,by omega,hl,h8,h8d,by omega,hl2,by omega⟩)⟩,HB7.out.trans hb8⟩)
   clear hds h8 h8d hb8;dsimp only;go_wp2
   go_ret
   exact ⟨⟨_,rfl⟩,HF.out⟩
  ·rw [decide_eq_false hl2] at hds;go_wp2_with fail
   refine hds.mono ?_;rintro e w8 ⟨rfl,h8,h8d,hb8⟩;have h84:w8.cell? ⟨P.it,4,none⟩=some (.iface 153 (.pointer (some ⟨g7,0,none⟩))):=h8.hit.cell (k:=4) rfl;have hde:=dataErr_any h8 h8d;have hcl:=clear_any h8 (.inr ⟨_,_,h8d⟩);have HB8:=hid (HB7.out.trans hb8);clear hds h8 h8d hb8;dsimp only;go_wp2_with fail
   refine hde.mono ?_;rintro e w' ⟨rfl,hw'⟩;rw [hw'];clear hde hw' w';dsimp only;go_wp2_with fail
   refine hcl.mono ?_;rintro e w9 ⟨rfl,h9,hb9⟩;have hrec:=inext_any P hg _ w9 (sidx P.T.l tk+1) (.inl ⟨_,I+1,h9,by omega,by
    have h1:=HS.out;have h2:=HDH.out;have h3:=sidx_le b.es tk;have h4:nxt P.R.lo P.R.hi (I+1)=I+2:=by unfold nxt;rw [if_neg (by omega)];omega
    rw [h4];show _=(vup P (I+1)).length+1
    omega,Nat.lt_succ_self _⟩)
   have HB9:=hid (HB8.out.trans hb9);clear hcl h9 hb9;dsimp only;go_wp2_with fail
   refine hrec.mono ?_;rintro e w10 ⟨rfl,h10,hb10⟩;have HF:=hid (show II P w10 (sidx P.T.l tk+1)∧Below P.base w w10 from ⟨h10,HB9.out.trans hb10⟩);clear hrec h10 hb10;dsimp only;go_wp2
   go_ret
   exact ⟨⟨_,rfl⟩,HF.out⟩
 ·rw [decide_eq_false hl] at hse;have hI:sidx (ients P.T.ri P.T.B P.T.sp) tk=P.T.B.length:=by omega
  have HS:Hid (sidx P.T.l tk=(vis P).length):=hid (by rw [HVL.out];exact HOK.out.tab.seek_none tk hI);rw [hI,← hhi] at hse;clear hI hhi hsl;go_enter Tryz.func216,Tryz.ntmps216
  go_wp2_with fail
  refine hre.mono ?_;rintro e w' ⟨rfl,hw'⟩;rw [hw'];clear hre hw' w';dsimp only;go_wp2_with fail
  refine hse.mono ?_;rintro e w1 ⟨rfl,h1,hd1,hb1⟩;have hie:=indexErr_any h1;have hcl:=clear_any h1 hd1;have HB1:=hid hb1;clear hse h1 hd1 hb1 h5 h2 hm;dsimp only;go_wp2_with fail
  refine hie.mono ?_;rintro e w' ⟨rfl,hw'⟩;rw [hw'];clear hie hw' w';dsimp only;go_wp2_with fail
  refine hcl.mono ?_;rintro e w2 ⟨rfl,h2,hb2⟩;have HF:=hid (show II P w2 (sidx P.T.l tk+1)∧Below P.base w w2 from ⟨⟨_,.inr (.inl ⟨by rw [HS.out],h2⟩)⟩,HB1.out.trans hb2⟩);clear hcl h2 hb2;dsimp only;go_wp2
  go_ret
  exact ⟨⟨_,rfl⟩,HF.out⟩
end
end Go.Proofs.YtmkdpjicgjhhjaaGreatDoor
