/- Part 32 of the proof of FnTableComesBack: contracts and lemmas, each under the conditions that it states. Texts: BPrev. -/
import Derived.Test.YtmkdpjicgjhhjaaGreatDoorC31
namespace Go.Proofs.YtmkdpjicgjhhjaaGreatDoor
open Go.Lib (hid)
set_option maxRecDepth 100000
set_option linter.all false
section
open Go Go.RowKit Go.Shelf
def PSt (ri:Nat) (p0:Bs) (es:List KV) (s:IS) (nodes:List Nat) (pk:Bs) (pos:Nat):Prop :=
 (s.dir=3∧pos < es.length∧s.poff=eoff ri p0 es pos∧nodes=[]∧pk=[]∧s.rix*ri≤pos)∨(s.dir=1∧pos=es.length∧nodes=[]∧pk=[]) ∨
  (s.dir=2∧pos < es.length∧s.rix=pos / ri∧nodes=nodesOf ri p0 es (pos / ri*ri) pos∧pk=keysOf es (pos / ri*ri) pos)
def PrevTo (q ri:Nat) (p0:Bs) (es:List KV) (pos:Nat) (s':IS) (k':Bs) (n':List Nat) (p':Bs):Prop :=
 (pos=0→s'.dir=0∧n'=[]∧p'=[])∧(0 < pos→s'.dir=2∧s'.rix=(pos - 1) / ri∧n'=nodesOf ri p0 es ((pos - 1) / ri*ri) (pos - 1)∧p'=keysOf es ((pos - 1) / ri*ri) (pos - 1)∧s'.off=eoff ri p0 es pos∧s'.vv=eval' q ri p0 es (pos - 1)∧∃ e,es[pos - 1]?=some e∧k'=e.1)
def PrevMid (ri:Nat) (p0:Bs) (es:List KV) (g:Nat) (c:IC) (O:Own) (pos:Nat) (w:World) (v3:Value) (wx:World):Prop :=
 ∃ r:Nat,v3=.int .i64 (r:Int)∧0 < pos∧(r*ri=pos∧0 < r∨r*ri < pos∧r=(pos - 1) / ri)∧r < (bends ri p0 es).length ∧
  BITo g c O w wx (fun s' _ n' p'=>s'.dir=2∧n'=[]∧p'=[]∧s'.off=eoff ri p0 es pos)
theorem BITo.undrew' {g:Nat} {c:IC} {O:Own} {w w':World} {P:IS→Bs→List Nat→Bs→Prop} {k:Nat} (h:BITo g c O w w' P):BITo g c O w (w'.drewN k) P:=by
 obtain ⟨s',O',k',n',p',h1,h2,h3,h4⟩:=h;exact ⟨s',O',k',n',p',h1.drewN k,h2,h3.drewN k,h4⟩
theorem div_pred {ri pos:Nat} (h0:0 < ri) (hp:0 < pos) (h:pos / ri*ri < pos):pos / ri=(pos - 1) / ri:=by
 refine (Nat.div_eq_of_lt_le ?_ ?_).symm
 ·omega
 ·have:=Nat.div_add_mod pos ri;have:=Nat.mod_lt pos h0;rw [Nat.succ_mul,Nat.mul_comm];rw [Nat.mul_comm] at h;omega
def PrevMid2 (ri:Nat) (p0:Bs) (es:List KV) (g:Nat) (c:IC) (O:Own) (pos:Nat) (w:World) (v3 v9:Value) (wx:World):Prop :=
 ∃ r0:Nat,v3=.int .i64 (r0:Int)∧v9=.int .i64 ((eoff ri p0 es (r0*ri):Nat):Int)∧0 < pos∧r0=(pos - 1) / ri∧r0*ri < pos ∧
  BITo g c O w wx (fun s' k' n' p'=>s'.dir=2∧s'.vv=.slice none 0 0∧k'=[]∧n'=[]∧p'=[]∧s'.off=eoff ri p0 es pos)
def PrevL (q ri:Nat) (p0:Bs) (es:List KV) (pos k0 k:Nat) (s':IS) (k':Bs) (n':List Nat) (p':Bs):Prop :=
 s'.dir=2∧s'.off=eoff ri p0 es pos∧n'=nodesOf ri p0 es k0 (k - 1)∧p'=keysOf es k0 (k - 1)∧(k=k0→s'.vv=.slice none 0 0)∧(k0 < k→s'.vv=eval' q ri p0 es (k - 1)∧∃ e,es[k - 1]?=some e∧k'=e.1)
theorem undrew_mid {ri:Nat} {p0:Bs} {es:List KV} {g:Nat} {c:IC} {O:Own} {pos:Nat} {w:World} {v3:Value} {wx:World} (h:PrevMid ri p0 es g c O pos w v3 wx) (k:Nat):PrevMid ri p0 es g c O pos w v3 (wx.drewN k):=by
 obtain ⟨r,h1,h2,h3,h4,h5⟩:=h;exact ⟨r,h1,h2,h3,h4,h5.undrew'⟩
set_option maxHeartbeats 8000000 in
theorem bprev_any (w:World) (g:Nat) (c:IC) (s:IS) (O:Own) (key:Bs) (nodes:List Nat) (pk:Bs) (h:BI w g c s O key nodes pk) (q off len ri:Nat) (p0:Bs) (es:List KV) (hE:BE w c.p q off len ri p0 es) (hap:c.p≠g∧q≠g∧¬ O.has c.p∧¬ O.has q) (hri:ri≤1000)
  (hc:c.riS=0∧c.riL=(bends ri p0 es).length∧c.oS=0∧c.oR=0∧c.oL=eoff ri p0 es es.length) (pos:Nat) (hp:PSt ri p0 es s nodes pk pos) :
  Calls Tryz.prog 173 #[.pointer (some ⟨g,0,none⟩)] w fun e w'=>e=.returned (.bool (decide (0 < pos)))∧BITo g c O w w' (PrevTo q ri p0 es pos):=by
 have hz11:w.cell? ⟨g,11,none⟩=some (.int .i64 (s.dir:Int)):=h.blk.cell (k:=11) rfl;have hz17:w.cell? ⟨g,17,none⟩=some .nilIface:=h.blk.cell (k:=17) rfl;have hz7:w.cell? ⟨g,7,none⟩=some (.int .i64 (s.poff:Int)):=h.blk.cell (k:=7) rfl;have hz6:w.cell? ⟨g,6,none⟩=some (.int .i64 (s.off:Int)):=h.blk.cell (k:=6) rfl;have hz15:w.cell? ⟨g,15,none⟩=some (.int .i64 0):=by
  have h0:w.cell? ⟨g,15,none⟩=some (.int .i64 (c.oR:Int)):=h.blk.cell (k:=15) rfl;rw [hc.2.2.2.1] at h0;exact h0
 have hz16:w.cell? ⟨g,16,none⟩=some (.int .i64 (eoff ri p0 es es.length:Int)):=by
  have h0:w.cell? ⟨g,16,none⟩=some (.int .i64 (c.oL:Int)):=h.blk.cell (k:=16) rfl;rw [hc.2.2.2.2] at h0;exact h0
 have hz13:w.cell? ⟨g,13,none⟩=some (.int .i64 ((bends ri p0 es).length:Int)):=by
  have h0:w.cell? ⟨g,13,none⟩=some (.int .i64 (c.riL:Int)):=h.blk.cell (k:=13) rfl;rw [hc.2.1] at h0;exact h0
 have hz10:w.cell? ⟨g,10,none⟩=some (.int .i64 (s.rix:Int)):=h.blk.cell (k:=10) rfl;have hz1:w.cell? ⟨g,1,none⟩=some (.pointer (some ⟨c.p,0,none⟩)):=h.blk.cell (k:=1) rfl;have hf6:=h.blk.free 6;have hf11:=h.blk.free 11;have hf10:=h.blk.free 10;have hdm:((s.dir:Int) == -1)=false:=by rw [beq_eq_false_iff_ne];rcases hp with h | h | h <;> omega
 have hd0:((s.dir:Int) == 0)=false:=by rw [beq_eq_false_iff_ne];rcases hp with h | h | h <;> omega
 have HH:=hid h;have HE:=hid hE;have HAP:=hid hap;have HC:=hid hc;have hrl:=hE.rb.len;have hrm:=hE.rb.max;have hri0:=hE.ri;clear h hE hap hc;go_enter Tryz.func173,Tryz.ntmps173
 go_upto_if 40 with fail
 go_cut [3] (fun v3 wx=>PrevMid ri p0 es g c O pos w v3 wx)
 case first=>as_aux_lemma =>
  rcases hp with ⟨hd,hpl,hpo,hn,hk,hrx⟩ | ⟨hd,hpe,hn,hk⟩ | ⟨hd,hpl,hrx,hn,hk⟩
  ·rw [hpo] at hz7;have hd3:((s.dir:Int) == 3)=true:=by rw [hd];rfl
   by_cases hp0:pos=0
   ·have hfin:BITo g c O w ((w.setCell ⟨g,6,none⟩ (.int .i64 (eoff ri p0 es pos:Int))).setCell ⟨g,11,none⟩ (.int .i64 0)) (PrevTo q ri p0 es pos):=by
     have h:=HH.out;have h1:=(h.setNum { s with off:=eoff ri p0 es pos } 6 (.int .i64 (eoff ri p0 es pos:Int)) rfl rfl rfl rfl).setNum { s with off:=eoff ri p0 es pos,dir:=0 } 11 (.int .i64 0) rfl rfl rfl rfl;exact ⟨_,O,key,nodes,pk,h1,⟨fun _=>⟨rfl,hn,hk⟩,fun h=>by omega⟩,((Fr.refl (fun k=>k=g∨O.has k) w).setC g 6 _ (.inl rfl)).setC g 11 _ (.inl rfl),fun _ h=>.inl h⟩
    have e0:eoff ri p0 es pos=0:=by rw [hp0];exact eoff_zero
    rw [e0] at hz7 hfin;have HFIN:=hid hfin;have HP0:=hid hp0;clear hp0 hfin hd hpo hn hk e0;go_upto_region 9 with fail
    go_quiet (fail)
    go_wp2
    go_ret
    exact ⟨by rw [HP0.out];rfl,BITo.undrew' HFIN.out⟩
   ·have hpp:0 < pos:=by omega
    have hep:=eoff_lt' (ri:=ri) (p:=p0) (es:=es) hpp (by omega);rw [eoff_zero] at hep;have hne:(((eoff ri p0 es pos:Nat):Int) == 0)=false:=by rw [beq_eq_false_iff_ne];omega
    have hle:=eoff_mono (ri:=ri) (p:=p0) (es:=es) (show pos≤es.length by omega);have hcov:=bends_cover (p:=p0) (es:=es) hri0 hpl;have hrq:s.rix≤pos / ri:=(Nat.le_div_iff_mul_le hri0).2 hrx;have h:=HH.out;have h6:=h.setNum { s with off:=eoff ri p0 es pos } 6 (.int .i64 (eoff ri p0 es pos:Int)) rfl rfl rfl rfl;have hF6:Fr (fun k=>k=g∨O.has k) w (w.setCell ⟨g,6,none⟩ (.int .i64 (eoff ri p0 es pos:Int))):=(Fr.refl (fun k=>k=g∨O.has k) w).setC g 6 _ (.inl rfl)
    have hE6:BE (w.setCell ⟨g,6,none⟩ (.int .i64 (eoff ri p0 es pos:Int))) c.p q off len ri p0 es:=HE.out.keep (hF6.block _ HE.out.rb.blk.lt (by rintro (e | e);exact HAP.out.1 e;exact HAP.out.2.2.1 e)) (hF6.block _ HE.out.rb.qlt (by rintro (e | e);exact HAP.out.2.1 e;exact HAP.out.2.2.2 e));have hthr:RThr (bdata ri p0 es) (eoff ri p0 es es.length) s.rix ((bends ri p0 es).length - s.rix) (eoff ri p0 es pos) (pos / ri+1 - s.rix):=⟨by omega,fun i hi=>by
     have hil:s.rix+i < (bends ri p0 es).length:=by omega
     obtain ⟨r,hD⟩:=bdata_end (ri:=ri) (p:=p0) (es:=es) (j:=s.rix+i) (x:=eoff ri p0 es ((s.rix+i)*ri)) (by rw [List.getElem?_append_left hil];exact bends_at hri0 hil);have hir:(s.rix+i)*ri≤es.length:=by
      rcases bends_lt (p:=p0) hri0 hil with e | e
      ·rw [e];omega
      ·omega
     have hme:=eoff_mono (ri:=ri) (p:=p0) (es:=es) hir;refine ⟨_,r,hD,by omega,?_,?_⟩
     ·intro hlt;have h1:pos < (s.rix+i)*ri:=by
       rcases Nat.lt_or_ge pos ((s.rix+i)*ri) with h | h
       ·exact h
       ·have:=eoff_mono (ri:=ri) (p:=p0) (es:=es) h;omega
      have h2:pos / ri < s.rix+i:=(Nat.div_lt_iff_lt_mul hri0).2 h1;omega
     ·intro hji;exact eoff_lt' ((Nat.div_lt_iff_lt_mul hri0).1 (show pos / ri < s.rix+i by omega)) hir⟩
    have hri2:=fun k=>restartIndex_any ((w.setCell ⟨g,6,none⟩ (.int .i64 (eoff ri p0 es pos:Int))).drewN k) c.p q off len _ _ _ (hE6.rb.drewN k) s.rix (bends ri p0 es).length (eoff ri p0 es pos) (pos / ri+1 - s.rix) (by omega) (Nat.le_refl _) (by omega) hthr (by omega)
    rw [show s.rix+(pos / ri+1 - s.rix) - 1=pos / ri by omega] at hri2;have hmid:∀ k w2,Below ((w.setCell ⟨g,6,none⟩ (.int .i64 (eoff ri p0 es pos:Int))).drewN k).heap.size ((w.setCell ⟨g,6,none⟩ (.int .i64 (eoff ri p0 es pos:Int))).drewN k) w2→(w2.cell? ⟨g,11,none⟩=some (.int .i64 (s.dir:Int))∧w2.frozen? ⟨g,11,none⟩=false)∧PrevMid ri p0 es g c O pos w (.int .i64 ((pos / ri:Nat):Int)) (w2.setCell ⟨g,11,none⟩ (.int .i64 2)):=fun k w2 hb=>by
     have h62:BI w2 g c { s with off:=eoff ri p0 es pos } O key nodes pk:=h6.keep (fun j hj=>hb.block j (by rcases hj with e | e;rw [e];exact h6.blk.lt;exact h6.lt e));have h63:=h62.setNum { s with off:=eoff ri p0 es pos,dir:=2 } 11 (.int .i64 2) rfl rfl rfl rfl;have hF2:Fr (fun k=>k=g∨O.has k) w w2:=hF6.trans (S':=fun _=>False) ⟨hb.os,hb.tape,hb.output,hb.size,fun j hj _=>hb.block j hj⟩ (fun _ _ h=>h.elim)
     refine ⟨⟨h62.blk.cell (k:=11) rfl,h62.blk.free 11⟩,pos / ri,rfl,hpp,?_,hcov.1,_,O,key,nodes,pk,h63,⟨rfl,hn,hk,rfl⟩,hF2.setC g 11 _ (.inl rfl),fun _ h=>.inl h⟩;rcases Nat.lt_or_ge (pos / ri*ri) pos with h | h
     ·exact .inr ⟨h,div_pred hri0 hpp h⟩
     ·have he:pos / ri*ri=pos:=by omega
      refine .inl ⟨he,?_⟩;rcases Nat.eq_zero_or_pos (pos / ri) with h0 | h0
      ·rw [h0] at he;omega
      ·exact h0
    have HMID:=hid hmid;have hwI:=fun x:Nat=>x
    clear h h6 hF6 hE6 hthr hmid hcov hrq hep hle hd hpo hn hk hrx hwI hpp hp0;generalize eoff ri p0 es pos=EP at *;generalize (bends ri p0 es).length=RL at *;go_upto_region 9 with fail
    go_quiet (fail)
    go_upto_region 12 with fail
    refine wp_tail 16 (by kernel_rfl) ?_;simp only [List.take_succ_cons,List.take_zero,List.drop_succ_cons,List.drop_zero];repeat still_step
    refine wpStill_nil ?_;go_wp2_with fail
    refine (hri2 _).mono ?_;rintro e w2 ⟨rfl,hb⟩;obtain ⟨⟨hq11,hqf11⟩,hmd⟩:=HMID.out _ w2 hb;have HMD:=hid hmd;clear hri2 hb hmd HMID;dsimp only;go_wp2_with fail
    go_meet
    case rel=>exact HMD.out
  ·have hd1:((s.dir:Int) == 1)=true:=by rw [hd];rfl
   have hd3:((s.dir:Int) == 3)=false:=by rw [hd];rfl
   rw [← hpe] at hz16;by_cases hp0:pos=0
   ·have hfin:BITo g c O w (((w.setCell ⟨g,10,none⟩ (.int .i64 ((bends ri p0 es).length:Int))).setCell ⟨g,6,none⟩ (.int .i64 (eoff ri p0 es pos:Int))).setCell ⟨g,11,none⟩ (.int .i64 0)) (PrevTo q ri p0 es pos):=by
     have h:=HH.out;have h1:=((h.setNum { s with rix:=(bends ri p0 es).length } 10 (.int .i64 ((bends ri p0 es).length:Int)) rfl rfl rfl rfl).setNum { s with rix:=(bends ri p0 es).length,off:=eoff ri p0 es pos } 6 (.int .i64 (eoff ri p0 es pos:Int)) rfl rfl rfl rfl).setNum { s with rix:=(bends ri p0 es).length,off:=eoff ri p0 es pos,dir:=0 } 11 (.int .i64 0) rfl rfl rfl rfl;exact ⟨_,O,key,nodes,pk,h1,⟨fun _=>⟨rfl,hn,hk⟩,fun h=>by omega⟩,(((Fr.refl (fun k=>k=g∨O.has k) w).setC g 10 _ (.inl rfl)).setC g 6 _ (.inl rfl)).setC g 11 _ (.inl rfl),fun _ h=>.inl h⟩
    have e0:eoff ri p0 es pos=0:=by rw [hp0];exact eoff_zero
    rw [e0] at hz16 hfin;have HFIN:=hid hfin;have HP0:=hid hp0;clear hp0 hfin hd hpe hn hk e0;go_upto_region 17 with fail
    go_quiet (fail)
    go_wp2
    go_ret
    exact ⟨by rw [HP0.out];rfl,BITo.undrew' HFIN.out⟩
   ·have hpp:0 < pos:=by omega
    have hep:=eoff_lt' (ri:=ri) (p:=p0) (es:=es) hpp (by omega);rw [eoff_zero] at hep;have hne:(((eoff ri p0 es pos:Nat):Int) == 0)=false:=by rw [beq_eq_false_iff_ne];omega
    have hcov:=bends_cover (p:=p0) (es:=es) (i:=pos - 1) hri0 (by omega);have hrl1:(bends ri p0 es).length - 1=(pos - 1) / ri:=by
     have h1:(bends ri p0 es).length - 1≤(pos - 1) / ri:=by
      have h0:(bends ri p0 es).length - 1 < (bends ri p0 es).length:=Nat.sub_lt (Nat.lt_of_le_of_lt (Nat.zero_le _) hcov.1) Nat.one_pos;rcases bends_lt (p:=p0) (es:=es) hri0 h0 with e | e
      ·rw [e];exact Nat.zero_le _
      ·exact (Nat.le_div_iff_mul_le hri0).2 (Nat.le_sub_one_of_lt (by rw [hpe];exact e))
     have h2:=hcov.1;generalize (pos - 1) / ri=RN at *;omega
    have hw1:IntKind.i64.wrap (((bends ri p0 es).length:Int) - 1)=(((pos - 1) / ri:Nat):Int):=by
     rw [← hrl1,show ((bends ri p0 es).length:Int) - 1=(((bends ri p0 es).length - 1:Nat):Int) by omega];exact IntWalk.i64_in _ (by omega)
    have hmid:PrevMid ri p0 es g c O pos w (.int .i64 (((pos - 1) / ri:Nat):Int)) (((w.setCell ⟨g,10,none⟩ (.int .i64 ((bends ri p0 es).length:Int))).setCell ⟨g,6,none⟩ (.int .i64 (eoff ri p0 es pos:Int))).setCell ⟨g,11,none⟩ (.int .i64 2)):=by
     have h:=HH.out;have h1:=((h.setNum { s with rix:=(bends ri p0 es).length } 10 (.int .i64 ((bends ri p0 es).length:Int)) rfl rfl rfl rfl).setNum { s with rix:=(bends ri p0 es).length,off:=eoff ri p0 es pos } 6 (.int .i64 (eoff ri p0 es pos:Int)) rfl rfl rfl rfl).setNum { s with rix:=(bends ri p0 es).length,off:=eoff ri p0 es pos,dir:=2 } 11 (.int .i64 2) rfl rfl rfl rfl;exact ⟨_,rfl,hpp,.inr ⟨by have:=hcov.2.1;generalize (pos - 1) / ri=RN at *;omega,rfl⟩,hcov.1,_,O,key,nodes,pk,h1,⟨rfl,hn,hk,rfl⟩,(((Fr.refl (fun k=>k=g∨O.has k) w).setC g 10 _ (.inl rfl)).setC g 6 _ (.inl rfl)).setC g 11 _ (.inl rfl),fun _ h=>.inl h⟩
    have hmid2:=undrew_mid hmid;have HMID:=hid hmid2;clear hmid hmid2 hcov hrl1 hep hd hpe hn hk hpp hp0;generalize eoff ri p0 es pos=EP at *;generalize (bends ri p0 es).length=RL at *;generalize (pos - 1) / ri=RN at *;go_upto_region 17 with fail
    go_quiet (fail)
    go_wp2_with fail
    go_meet
    case rel=>exact HMID.out _
  ·have hd1:((s.dir:Int) == 1)=false:=by rw [hd];rfl
   have hd3:((s.dir:Int) == 3)=false:=by rw [hd];rfl
   have hz8:w.cell? ⟨g,8,none⟩=some s.nv:=HH.out.blk.cell (k:=8) rfl;have hf8:=HH.out.blk.free 8;have hcov:=bends_cover (p:=p0) (es:=es) hri0 hpl;rcases Nat.eq_or_lt_of_le hcov.2.1 with heq | hlt
   ·rw [heq,nodesOf_self] at hn;rw [heq,keysOf_self] at hk;have h:=HH.out;obtain ⟨na,nc,hnv,hncap,_,_⟩:=own_form h.nodes;have hno:=h.nodes;rw [hnv,hn] at hno;obtain ⟨gn,rfl,_,hgc⟩:=own_cells hno (by simp);have hn0:w.cell? ⟨gn,0,none⟩=some (.int .i64 (eoff ri p0 es pos:Int)):=hgc 0 _ rfl;have hnl:nodes.length=1:=by rw [hn];rfl
    rw [hnv,hnl] at hz8;rw [hnl] at hnv;obtain ⟨hno0,hnob⟩:=own_take' hno 0 (Nat.zero_le _);have hsl0:∀ w',(Instr.slice 224 (.slice (some ⟨gn,0,none⟩) 1 nc) none (some (.int .i64 0)) none).run Tryz.prog w'=.ok (.slice (some ⟨gn,0,none⟩) 0 nc) w':=fun w'=>run_slice_hi (P:=Tryz.prog) 224 3 un224 sz3 .i64 (some ⟨gn,0,none⟩) 1 nc 0 (by omega) w'
    have hz12:w.cell? ⟨g,12,none⟩=some (.int .i64 0):=by
     have h0:w.cell? ⟨g,12,none⟩=some (.int .i64 (c.riS:Int)):=h.blk.cell (k:=12) rfl;rw [HC.out.1] at h0;exact h0
    have h1:=h.setNum { s with off:=eoff ri p0 es pos } 6 (.int .i64 (eoff ri p0 es pos:Int)) rfl rfl rfl rfl;have hnk:(Value.slice (some ⟨gn,0,none⟩) 0 nc).ownBlock=O.r:=by rw [hnob,← h.nodesO,hnv];rfl
    obtain ⟨h2,ho2⟩:=h1.nodesTo (w1:=w.setCell ⟨g,6,none⟩ (.int .i64 (eoff ri p0 es pos:Int))) (v:=.slice (some ⟨gn,0,none⟩) 0 nc) (nodes':=[]) (Fr.refl _ _) (own_keep (by simpa [iv] using hno0) (fun k e=>Below.heap_setCell _ _ _ k (by have:=h.dis.rb k (by rw [← hnk,e]);simpa using this))) (fun k e=>.inl (by rw [← hnk,e]));have hsz:(w.setCell ⟨g,6,none⟩ (.int .i64 (eoff ri p0 es pos:Int))).heap.size=w.heap.size:=by simp [World.setCell]
    rw [hsz] at ho2;have hF2:Fr (fun k=>k=g∨O.has k) w ((w.setCell ⟨g,6,none⟩ (.int .i64 (eoff ri p0 es pos:Int))).setCell ⟨g,8,none⟩ (.slice (some ⟨gn,0,none⟩) 0 nc)):=((Fr.refl (fun k=>k=g∨O.has k) w).setC g 6 _ (.inl rfl)).setC g 8 _ (.inl rfl);by_cases hp0:pos=0
    ·have hr0:s.rix=0:=by rw [hrx,hp0];exact Nat.zero_div _
     rw [hr0] at hz10;have h3:=h2.setNum { s with off:=eoff ri p0 es pos,nv:=.slice (some ⟨gn,0,none⟩) 0 nc,dir:=0 } 11 (.int .i64 0) rfl rfl rfl rfl;have hfin:BITo g c O w (((w.setCell ⟨g,6,none⟩ (.int .i64 (eoff ri p0 es pos:Int))).setCell ⟨g,8,none⟩ (.slice (some ⟨gn,0,none⟩) 0 nc)).setCell ⟨g,11,none⟩ (.int .i64 0)) (PrevTo q ri p0 es pos):=⟨_,_,_,_,_,h3,⟨fun _=>⟨rfl,rfl,hk⟩,fun h=>by omega⟩,hF2.setC g 11 _ (.inl rfl),ho2⟩
     have HFIN:=hid hfin;have HP0:=hid hp0;clear hfin hp0 hr0 h1 h2 h3 ho2 hF2 hno hno0 hnob hnk hgc hd hrx hn hk hnv hnl heq hcov h hpl hsz;generalize eoff ri p0 es pos=EP at *;go_upto_region 25 with fail
     go_quiet (fail)
     go_wp2
     go_ret
     exact ⟨by rw [HP0.out];rfl,BITo.undrew' HFIN.out⟩
    ·have hpp:0 < pos:=by omega
     have hr1:0 < pos / ri:=by
      rcases Nat.eq_zero_or_pos (pos / ri) with e | e
      ·rw [e] at heq;omega
      ·exact e
     have hpd:(pos - 1) / ri=pos / ri - 1:=by
      obtain ⟨k,hk1⟩:∃ k,pos / ri=k+1:=⟨pos / ri - 1,by generalize pos / ri=X at *;omega⟩;rw [hk1] at heq ⊢;rw [Nat.succ_mul] at heq;refine Nat.div_eq_of_lt_le ?_ ?_
      ·rw [Nat.add_sub_cancel];omega
      ·rw [Nat.add_sub_cancel,Nat.succ_mul];omega
     have hpl1:(pos - 1) / ri*ri < pos:=by
      have:=Nat.div_mul_le_self (pos - 1) ri;omega
     have hrb:(pos - 1) / ri < (bends ri p0 es).length:=by have:=hcov.1;rw [hpd];generalize pos / ri=X at *;omega
     have hw1:IntKind.i64.wrap ((s.rix:Int) - 1)=(((pos - 1) / ri:Nat):Int):=by
      rw [hpd,← hrx];rw [← hrx] at hr1;have h5:=hcov.1;rw [← hrx] at h5;rw [show (s.rix:Int) - 1=((s.rix - 1:Nat):Int) by omega];exact IntWalk.i64_in _ (by omega)
     have hr0:((s.rix:Int) == 0)=false:=by rw [beq_eq_false_iff_ne,hrx];generalize pos / ri=X at *;omega
     have h3:=h2.setNum { s with off:=eoff ri p0 es pos,nv:=.slice (some ⟨gn,0,none⟩) 0 nc,rix:=(pos - 1) / ri } 10 (.int .i64 (((pos - 1) / ri:Nat):Int)) rfl rfl rfl rfl;have hmid:PrevMid ri p0 es g c O pos w (.int .i64 (((pos - 1) / ri:Nat):Int)) (((w.setCell ⟨g,6,none⟩ (.int .i64 (eoff ri p0 es pos:Int))).setCell ⟨g,8,none⟩ (.slice (some ⟨gn,0,none⟩) 0 nc)).setCell ⟨g,10,none⟩ (.int .i64 (((pos - 1) / ri:Nat):Int))) :=
      ⟨_,rfl,hpp,.inr ⟨hpl1,rfl⟩,hrb,_,_,_,_,_,h3,⟨hd,rfl,hk,rfl⟩,hF2.setC g 10 _ (.inl rfl),ho2⟩
     have HMID:=hid (undrew_mid hmid);clear hmid hpp hp0 hr1 hpl1 hrb h1 h2 h3 ho2 hF2 hno hno0 hnob hnk hgc hd hrx hn hk hnv hnl heq hcov h hpl hsz hpd;generalize eoff ri p0 es pos=EP at *;generalize (pos - 1) / ri=RN at *;go_upto_region 25 with fail
     go_quiet (fail)
     go_wp2_with fail
     go_meet
     case rel=>exact HMID.out _
   ·obtain ⟨k,rfl⟩:∃ k,pos=k+1:=⟨pos - 1,by omega⟩;generalize hR0:(k+1) / ri*ri=r0 at *;have hrk:r0≤k:=by omega
    have h:=HH.out;obtain ⟨e,he⟩:∃ e,es[k]?=some e:=⟨_,List.getElem?_eq_getElem (show k < es.length by omega)⟩;rw [nodesOf_succ hrk] at hn;rw [keysOf_succ hrk he] at hk;have hnl:nodes.length=(nodesOf ri p0 es r0 k).length+3:=by rw [hn,List.length_append];rfl
    have hkl:pk.length=(keysOf es r0 k).length+e.1.length:=by rw [hk,List.length_append]
    obtain ⟨na,nc,hnv,hncap,hncm,_⟩:=own_form h.nodes;have hno:=h.nodes;rw [hnv] at hno;obtain ⟨gn,rfl,hgO,hgc⟩:=own_cells hno (by omega);rw [hn,iv_append] at hgc;have hcell:∀ (j x:Nat),(trip ri p0 es r0 k)[j]?=some x→w.cell? ⟨gn,(nodesOf ri p0 es r0 k).length+j,none⟩=some (.int .i64 (x:Int)):=fun j x hx=>hgc _ _ (by
     rw [List.getElem?_append_right (by rw [iv_length];omega),iv_length,Nat.add_sub_cancel_left];simp only [iv,List.getElem?_map,hx];rfl)
    have hgn:gn≠g:=h.dis.rb gn (by rw [← h.nodesO,hnv];exact hgO);have hvl:=vlen_eq he;have hc0:=hcell 0 _ rfl;have hc1:=hcell 1 _ rfl;have hc2:=hcell 2 _ rfl;rw [hvl] at hc1 hc2;rw [Nat.add_zero] at hc0;obtain ⟨ka,kc,hkv,hkcap,hko,hkob⟩:=own_take h.key 0 (Nat.zero_le _);obtain ⟨pa,pc,hpv,hpcap,hpcm,_⟩:=own_form h.pk;have hpo:=h.pk;rw [hpv] at hpo;have hpo1:=own_keep hpo (w2:=w.setCell ⟨g,8,none⟩ (.slice (some ⟨gn,0,none⟩) (nodesOf ri p0 es r0 k).length nc)) (fun k' e'=>Below.heap_setCell _ _ _ k' (by have:=h.dis.pb k' (by rw [← h.pkO,hpv,e']);simpa using this))
    have hpsl:=(own_sl hpo1).cut (lo:=(keysOf es r0 k).length) (by omega);obtain ⟨vo,vc,hve,_,hv1,hv2⟩:=HE.out.valSl he;have hle:=eoff_mono (ri:=ri) (p:=p0) (es:=es) (show k+1≤es.length by omega);have hkb:=HE.out.ks e (List.mem_of_getElem? he);have hnpos:1≤(nodesOf ri p0 es r0 k).length:=by
     obtain ⟨d,rfl⟩:∃ d,k=r0+d:=⟨k - r0,by omega⟩;rw [nodesOf_length];omega
    have hKd:e.1=pk.drop (keysOf es r0 k).length:=by rw [hk,List.drop_left]
    rw [← hKd,show pk.length - (keysOf es r0 k).length=e.1.length by omega] at hpsl;have hvo1:eoff ri p0 es (k+1) - e.2.length=vo:=by omega
    rw [hvo1] at hc1;have hz3:w.cell? ⟨c.p,3,none⟩=some (.slice (some ⟨q,0,none⟩) (bdata ri p0 es).length ((bdata ri p0 es).length+5)):=HE.out.rb.blk.cell (k:=3) rfl;have hz4:w.cell? ⟨g,4,none⟩=some s.kv:=h.blk.cell (k:=4) rfl;have hz9:w.cell? ⟨g,9,none⟩=some s.pv:=h.blk.cell (k:=9) rfl;have hslA:∀ w',(Instr.slice 224 (.slice (some ⟨gn,0,none⟩) nodes.length nc) (some (.int .i64 (((nodesOf ri p0 es r0 k).length:Nat):Int))) none none).run Tryz.prog w'=.ok (.slice (some ⟨gn,(nodesOf ri p0 es r0 k).length,none⟩) 3 (nc - (nodesOf ri p0 es r0 k).length)) w':=fun w'=>by
     rw [run_slice_lo (P:=Tryz.prog) 224 3 un224 sz3 .i64 (some ⟨gn,0,none⟩) nodes.length nc _ (by omega) w',cutq _ _ _ (by omega),show nodes.length - (nodesOf ri p0 es r0 k).length=3 by omega]
    have hslB:∀ w',(Instr.slice 224 (.slice (some ⟨gn,0,none⟩) nodes.length nc) none (some (.int .i64 (((nodesOf ri p0 es r0 k).length:Nat):Int))) none).run Tryz.prog w'=.ok (.slice (some ⟨gn,0,none⟩) (nodesOf ri p0 es r0 k).length nc) w':=fun w'=>run_slice_hi (P:=Tryz.prog) 224 3 un224 sz3 .i64 (some ⟨gn,0,none⟩) nodes.length nc _ (by omega) w'
    have hslK:∀ w',(Instr.slice 29 s.kv none (some (.int .i64 0)) none).run Tryz.prog w'=.ok (.slice ka 0 kc) w':=fun w'=>by
     rw [hkv];exact run_slice_hi (P:=Tryz.prog) 29 5 un29 sz5 .i64 ka key.length kc 0 (by omega) w'
    have hslP:∀ w',(Instr.slice 29 s.pv (some (.int .i64 (((keysOf es r0 k).length:Nat):Int))) none none).run Tryz.prog w'=.ok (.slice (cutA pa pc (keysOf es r0 k).length) e.1.length (pc - (keysOf es r0 k).length)) w':=fun w'=>by
     rw [hpv,run_slice_lo (P:=Tryz.prog) 29 5 un29 sz5 .i64 pa pk.length pc _ (by omega) w',show pk.length - (keysOf es r0 k).length=e.1.length by omega]
    have hslQ:∀ w',(Instr.slice 29 s.pv none (some (.int .i64 (((keysOf es r0 k).length:Nat):Int))) none).run Tryz.prog w'=.ok (.slice pa (keysOf es r0 k).length pc) w':=fun w'=>by
     rw [hpv];exact run_slice_hi (P:=Tryz.prog) 29 5 un29 sz5 .i64 pa pk.length pc _ (by omega) w'
    have hslD:∀ w',(Instr.slice 29 (.slice (some ⟨q,0,none⟩) (bdata ri p0 es).length ((bdata ri p0 es).length+5)) (some (.int .i64 (vo:Int))) (some (.int .i64 ((eoff ri p0 es (k+1):Nat):Int))) none).run Tryz.prog w'=.ok (.slice (some ⟨q,vo,none⟩) e.2.length vc) w':=fun w'=>by
     rw [run_slice_lohi (P:=Tryz.prog) 29 5 un29 sz5 .i64 .i64 (some ⟨q,0,none⟩) (bdata ri p0 es).length ((bdata ri p0 es).length+5) vo (eoff ri p0 es (k+1)) (by omega) (by omega) w',cutq _ _ _ (by omega),show eoff ri p0 es (k+1) - vo=e.2.length by omega,show (bdata ri p0 es).length+5 - vo=vc by omega]
    have hw1:IntKind.i64.wrap ((nodes.length:Int) - 3)=(((nodesOf ri p0 es r0 k).length:Nat):Int):=by
     rw [show (nodes.length:Int) - 3=(((nodesOf ri p0 es r0 k).length:Nat):Int) by omega];exact IntWalk.i64_in _ (by unfold maxLen at hncm;omega)
    have hw2:IntKind.i64.wrap ((vo:Int)+(e.2.length:Int))=((eoff ri p0 es (k+1):Nat):Int):=by
     rw [show (vo:Int)+(e.2.length:Int)=((eoff ri p0 es (k+1):Nat):Int) by omega];exact IntWalk.i64_in _ (by omega)
    have hl1:((nodes.length:Int) == 1)=false:=by rw [beq_eq_false_iff_ne];omega
    have hz8':w.cell? ⟨g,8,none⟩=some (.slice (some ⟨gn,0,none⟩) nodes.length nc):=by rw [hz8,hnv]
    have hcs:=fun n v8 w8 hown hgrow hlies=>h.cached (na:=some ⟨gn,0,none⟩) (nc:=nc) (N:=(nodesOf ri p0 es r0 k).length) hnv (by omega) (ka:=ka) (kc:=kc) (hkob.trans h.keyO) (kb:=e.1) (pa:=pa) (pc:=pc) (ko:=(keysOf es r0 k).length) hpv (by omega) (.slice (some ⟨q,vo,none⟩) e.2.length vc) (eoff ri p0 es (k+1)) n v8 w8 hown hgrow hlies
    have htn:List.take (nodesOf ri p0 es r0 k).length nodes=nodesOf ri p0 es r0 k:=by rw [hn,List.take_left]
    have htk:List.take (keysOf es r0 k).length pk=keysOf es r0 k:=by rw [hk,List.take_left]
    rw [htn,htk] at hcs;have hkr:k / ri=(k+1) / ri∧k / ri*ri=r0:=by
     have hd:=div_pred hri0 (show 0 < k+1 by omega) (by rw [hR0];omega);rw [Nat.add_sub_cancel] at hd;exact ⟨hd.symm,by rw [← hd,hR0]⟩
    have HFIN:Hid (∀ s' k' n' p',(s'.dir=s.dir∧s'.rix=s.rix∧s'.vv=(.slice (some ⟨q,vo,none⟩) e.2.length vc)∧s'.off=eoff ri p0 es (k+1)∧k'=e.1∧n'=nodesOf ri p0 es r0 k∧p'=keysOf es r0 k)→PrevTo q ri p0 es (k+1) s' k' n' p'):=hid (by
     rintro s' k' n' p' ⟨q1,q2,q3,q4,q5,q6,q7⟩;refine ⟨fun h=>by omega,fun _=>⟨q1.trans hd,by rw [q2,hrx,Nat.add_sub_cancel,hkr.1],by rw [q6,Nat.add_sub_cancel,hkr.2],by rw [q7,Nat.add_sub_cancel,hkr.2],q4,by rw [q3,Nat.add_sub_cancel,hve],e,by rw [Nat.add_sub_cancel];exact he,q5⟩⟩)
    have HKO:Hid (w.ownsRow 0 5 1 (.slice ka 0 kc) 0 []):=hid (by simpa using hko);have HPS:=hid hpsl;have hgkey:∀ k',(Value.slice ka 0 kc).ownBlock=some k'→k'≠g:=fun k' e'=>h.dis.fb k' (by rw [← h.keyO,← hkob,e'])
    have hpnil:cutA pa pc (keysOf es r0 k).length=none→e.1.length=0∧pc - (keysOf es r0 k).length=0:=fun e'=>⟨by have h1:=hpsl.nil e';have h2:=hpsl.cap;omega,hpsl.nil e'⟩
    have hcs2:=fun n v8 w8 hown hgrow hlies=>(hcs n v8 w8 hown hgrow hlies).imp id (fun h=>h.mono HFIN.out)
    have HCS:=hid hcs2;have HOB:Hid ((Value.slice ka 0 kc).ownBlock≠some c.p):=hid (by rw [hkob,h.keyO];exact fun e=>HAP.out.2.2.1 (.inl e));have hcpg:c.p≠g:=HAP.out.1;have HOG:Hid ((Value.slice ka 0 kc).ownBlock≠some gn):=hid (by rw [hkob,h.keyO];exact fun e=>h.dis.fr gn e (by rw [← h.nodesO,hnv];exact hgO));have hgnlt:=lt_of_cell hc0;have hcplt:=HE.out.rb.blk.lt;have hke:=HPS.out.len;clear hrl hrm hcs hcs2 htn htk hkr HFIN hpsl hpo hpo1 hno hgc hcell hgO hKd hn hk hnl hkl hrx hR0 hcov hlt hrk hpl he h hkv hpv hko hkob hve hvl hnv hv1 hv2 hvo1 hd hz8
    generalize (nodesOf ri p0 es r0 k).length=NL at *;generalize (keysOf es r0 k).length=KO at *;generalize eoff ri p0 es (k+1)=EP at *;generalize (bdata ri p0 es).length=DL at *;generalize hKB:e.1=KB at *;generalize hVB:e.2.length=VL at *;generalize nodes.length=ML at *;generalize cutA pa pc KO=pa' at *;generalize hPC:pc - KO=pc' at *;clear hKB hVB;go_upto_region 34 with fail
    refine Pos.start (fun W=>W.cell? ⟨g,4,none⟩=some s.kv∧W.cell? ⟨g,9,none⟩=some s.pv) 13 (by kernel_rfl) ?_;have hS:(fun W:World=>W.cell? ⟨g,4,none⟩=some s.kv∧W.cell? ⟨g,9,none⟩=some s.pv) ((w.setCell ⟨g,8,none⟩ (.slice (some ⟨gn,0,none⟩) NL nc)).drewN 1):=⟨by go_simp,by go_simp⟩;iterate 12
     refine' Pos.takeK hS rfl (by kernel_rfl) (fun _ _ _ h=>h) (by rfl) ?_ ?_;rotate_left
     ·intro W hW;obtain ⟨s1,s2⟩:=hW;go_simp;try with_reducible rfl
     intro K hK;go_simp;refine hK _ ?_;clear hK K
    refine Pos.eff rfl (by kernel_rfl) ?_;refine wpList_app rfl _ _ 29 rfl 5 (.int .u8 0) 1 1 un29 info5 rfl (by omega) (.slice ka 0 kc) 0 [] rfl (by exact own_keep HKO.out (fun k' e'=>Below.heap_setCell _ _ _ k' (by have:=hgkey k' e';simpa using this))) pa' KB.length pc' (bv KB) rfl (by rw [bv_length];omega) hpnil (by exact HPS.out.news) (bv_one _) (by unfold maxLen;omega) (by omega) ?_;intro v8 w8 hown8 hgrow8 hlies8
    obtain ⟨hB8,hSA⟩:=HCS.out _ v8 w8 hown8 hgrow8 hlies8;obtain ⟨a8,c8,rfl,hc8⟩:=own_form hown8;rw [Nat.zero_add] at hSA;have HSA:=hid hSA;have h84:w8.cell? ⟨g,4,none⟩=some s.kv:=hB8.cell (k:=4) rfl;have h89:w8.cell? ⟨g,9,none⟩=some s.pv:=hB8.cell (k:=9) rfl;have h85:w8.cell? ⟨g,5,none⟩=some s.vv:=hB8.cell (k:=5) rfl;have h86:w8.cell? ⟨g,6,none⟩=some (.int .i64 (s.off:Int)):=hB8.cell (k:=6) rfl;have h81:w8.cell? ⟨g,1,none⟩=some (.pointer (some ⟨c.p,0,none⟩)):=hB8.cell (k:=1) rfl
    have h8d:w8.cell? ⟨c.p,3,none⟩=some (.slice (some ⟨q,0,none⟩) DL (DL+5)):=by
     rw [hgrow8.cell_far ⟨c.p,3,none⟩ (by simpa [World.setCell] using hcplt) (fun e=>HOB.out e.symm)];go_simp
    have h8n1:=(hgrow8.cell_far ⟨gn,NL+1,none⟩ (by simpa [World.setCell] using hgnlt) (fun e=>HOG.out e.symm)).trans (show _=some (Value.int .i64 (vo:Int)) from by rw [← hc1];go_simp);have h8n2:=(hgrow8.cell_far ⟨gn,NL+2,none⟩ (by simpa [World.setCell] using hgnlt) (fun e=>HOG.out e.symm)).trans (show _=some (Value.int .i64 (VL:Int)) from by rw [← hc2];go_simp);have hf84:=hB8.free 4;have hf85:=hB8.free 5
    have hf86:=hB8.free 6;have hf89:=hB8.free 9;have hpsz:0 < e.1.length+1:=by omega
    clear hS hSA hown8 hgrow8 hlies8 hB8 hpsz HCS hpnil HPS HKO;refine ⟨⟨h84,h89⟩,?_⟩;refine Pos.tail (by kernel_rfl) (by decide) ?_;simp only [List.drop_succ_cons,List.drop_zero];go_wp2_with fail
    go_returns
    exact ⟨rfl,HSA.out⟩
 case rest=>as_aux_lemma =>
  obtain ⟨r,rfl,hpp,hrr,hrb,s1,O1,k1,n1,p1,h1,⟨hd1,rfl,rfl,ho1⟩,hfr1,hsub1⟩:=hcut;clear hz11 hz17 hz7 hz6 hz15 hz16 hz13 hz10 hz1 hf6 hf11 hf10 hdm hd0;have hposl:pos≤es.length:=by rcases hp with ⟨_,h,_⟩ | ⟨_,h,_⟩ | ⟨_,h,_⟩ <;> omega
  have hr0l:(pos - 1) / ri*ri < pos:=by have:=Nat.div_mul_le_self (pos - 1) ri;omega
  have hr0b:(pos - 1) / ri < (bends ri p0 es).length:=(bends_cover (p:=p0) hri0 (show pos - 1 < es.length by omega)).1;obtain ⟨ka,kc,hkv,hko,hkob⟩:=own_cut h1.key;have hslK:∀ w',(Instr.slice 29 s1.kv none (some (.int .i64 0)) none).run Tryz.prog w'=.ok (.slice ka 0 kc) w':=fun w'=>by
   rw [hkv];exact run_slice_hi (P:=Tryz.prog) 29 5 un29 sz5 .i64 ka k1.length kc 0 (by omega) w'
  obtain ⟨h2,ho2⟩:=h1.keyTo (w1:=wc) (v:=.slice ka 0 kc) (key':=[]) (Fr.refl _ _) (by simpa [bv,Lib.byteCells] using hko) (fun k hk=>.inl (by rw [← h1.keyO,← hkob,hk]));have h3:=h2.setNum { s1 with kv:=.slice ka 0 kc,vv:=.slice none 0 0 } 5 (.slice none 0 0) rfl rfl rfl rfl;have hF3:Fr (fun k=>k=g∨O.has k) w ((wc.setCell ⟨g,4,none⟩ (.slice ka 0 kc)).setCell ⟨g,5,none⟩ (.slice none 0 0)):=(hfr1.setC g 4 _ (.inl rfl)).setC g 5 _ (.inl rfl)
  have hE3:BE ((wc.setCell ⟨g,4,none⟩ (.slice ka 0 kc)).setCell ⟨g,5,none⟩ (.slice none 0 0)) c.p q off len ri p0 es:=HE.out.keep (hF3.block _ HE.out.rb.blk.lt (by rintro (e | e);exact HAP.out.1 e;exact HAP.out.2.2.1 e)) (hF3.block _ HE.out.rb.qlt (by rintro (e | e);exact HAP.out.2.1 e;exact HAP.out.2.2.2 e));have hz14:wc.cell? ⟨g,4,none⟩=some s1.kv:=h1.blk.cell (k:=4) rfl;have hz15:wc.cell? ⟨g,5,none⟩=some s1.vv:=h1.blk.cell (k:=5) rfl
  have hz11:wc.cell? ⟨g,1,none⟩=some (.pointer (some ⟨c.p,0,none⟩)):=h1.blk.cell (k:=1) rfl;have hf4:=h1.blk.free 4;have hf5:=h1.blk.free 5;have hz31:((wc.setCell ⟨g,4,none⟩ (.slice ka 0 kc)).setCell ⟨g,5,none⟩ (.slice none 0 0)).cell? ⟨g,1,none⟩=some (.pointer (some ⟨c.p,0,none⟩)):=h3.blk.cell (k:=1) rfl;generalize hW3:(wc.setCell ⟨g,4,none⟩ (.slice ka 0 kc)).setCell ⟨g,5,none⟩ (.slice none 0 0)=W3 at *
  have hsz3:W3.heap.size=wc.heap.size:=by rw [← hW3];simp [World.setCell]
  have hro:∀ j,j < (bends ri p0 es).length→∀ w',Below W3.heap.size W3 w'→Calls Tryz.prog 103 #[.pointer (some ⟨c.p,0,none⟩),.int .i64 (j:Int)] w' fun e w2=>e=.returned (.int .i64 ((eoff ri p0 es (j*ri):Nat):Int))∧Below W3.heap.size W3 w2:=fun j hj w' hb=>by
   have hj2:j*ri≤es.length:=by
    rcases bends_lt (p:=p0) hri0 hj with e | e
    ·rw [e];omega
    ·omega
   have hme:=eoff_mono (ri:=ri) (p:=p0) (es:=es) hj2;obtain ⟨r',hD⟩:=bdata_end (ri:=ri) (p:=p0) (es:=es) (j:=j) (x:=eoff ri p0 es (j*ri)) (by rw [List.getElem?_append_left hj];exact bends_at hri0 hj);have hb1:=hb.block _ hE3.rb.blk.lt;have hb2:=hb.block _ hE3.rb.qlt;exact (restartOffset_any w' c.p q off len _ _ _ (hE3.rb.keep hb1 hb2) j _ (Nat.le_of_lt hj) (by omega) hD).mono (fun e w2 ⟨q1,q2⟩=>⟨q1,⟨q2.os.trans hb.os,q2.tape.trans hb.tape,q2.output.trans hb.output,Nat.le_trans hb.size q2.size,fun k hk=>(q2.block k (Nat.lt_of_lt_of_le hk hb.size)).trans (hb.block k hk)⟩⟩)
  have HM2:Hid (∀ w2,Below W3.heap.size W3 w2→w2.cell? ⟨g,6,none⟩=some (.int .i64 ((eoff ri p0 es pos:Nat):Int))∧w2.cell? ⟨g,1,none⟩=some (.pointer (some ⟨c.p,0,none⟩))∧PrevMid2 ri p0 es g c O pos w (.int .i64 (((pos - 1) / ri:Nat):Int)) (.int .i64 ((eoff ri p0 es ((pos - 1) / ri*ri):Nat):Int)) w2):=hid (fun w2 hb=>by
   have h4:BI w2 g c _ _ _ _ _:=h3.keep (fun j hj=>hb.block j (by rcases hj with e | e;rw [e];exact h3.blk.lt;exact h3.lt e));have hF4:Fr (fun k=>k=g∨O.has k) w w2:=hF3.trans (S':=fun _=>False) ⟨hb.os,hb.tape,hb.output,hb.size,fun j hj _=>hb.block j hj⟩ (fun _ _ h=>h.elim);refine ⟨by rw [← ho1];exact h4.blk.cell (k:=6) rfl,h4.blk.cell (k:=1) rfl,_,rfl,rfl,hpp,rfl,hr0l,_,_,_,_,_,h4,⟨hd1,rfl,rfl,rfl,rfl,ho1⟩,hF4,fun k hk=>?_⟩
   rcases ho2 k hk with e | e
   ·exact hsub1 k e
   ·exact .inr (by have:=hfr1.size;omega))
  have HRO:=hid hro;have HFB:=Below.refl W3.heap.size W3;have hb0:∀ n,Below W3.heap.size W3 (W3.drewN n):=fun n=>⟨rfl,rfl,rfl,Nat.le_refl _,fun _ _=>rfl⟩
  have hcall:=HRO.out r hrb W3 (hb0 0);have HL2:=hid (show pos≤es.length∧(pos - 1) / ri*ri < pos∧(pos - 1) / ri < (bends ri p0 es).length from ⟨hposl,hr0l,hr0b⟩);have HRR:=hid hrr;clear hro h1 h2 h3 ho2 hF3 hE3 hfr1 hsub1 hko hkob hkv ho1 hd1 hp hrr hr0b hr0l hposl hsz3 hb0;generalize hER:eoff ri p0 es (r*ri)=ER at hcall;have HER:=hid hER;clear hER;go_wp2_with fail
  clear hW3;refine hcall.mono ?_;rintro e w2 ⟨rfl,hb2⟩;have hz26:=(HM2.out w2 hb2).1;have hz21:=(HM2.out w2 hb2).2.1;have HB2:=hid hb2;clear hcall hb2;dsimp only;go_upto_if 260 with fail
  go_cut [3,9] (fun v3 v9 wx=>PrevMid2 ri p0 es g c O pos w v3 v9 wx)
  case first=>as_aux_lemma =>
   rcases HRR.out with ⟨he,hr⟩ | ⟨hl,hre⟩
   ·have hr1:(pos - 1) / ri=r - 1:=by
     obtain ⟨k,rfl⟩:∃ k,r=k+1:=⟨r - 1,by omega⟩;rw [Nat.succ_mul] at he;rw [Nat.add_sub_cancel];refine Nat.div_eq_of_lt_le ?_ ?_
     ·omega
     ·rw [Nat.succ_mul];omega
    have hcall2:=HRO.out _ HL2.out.2.2 w2 HB2.out;have hee:ER=eoff ri p0 es pos:=by rw [← HER.out,he]
    subst hee;have hw1:IntKind.i64.wrap ((r:Int) - 1)=(((pos - 1) / ri:Nat):Int):=by
     rw [hr1,show (r:Int) - 1=((r - 1:Nat):Int) by omega];exact IntWalk.i64_in _ (by omega)
    clear he hr1 hr hrl hrm hpp HRR HER HRO;generalize eoff ri p0 es pos=EP at *;generalize hRN:(pos - 1) / ri=RN at *;generalize eoff ri p0 es (RN*ri)=E0 at *;clear hRN;go_wp2_with fail
    refine hcall2.mono ?_;rintro e w3 ⟨rfl,hb3⟩;have HM3:=hid (HM2.out w3 hb3).2.2;clear hcall2 hb3 HM2;dsimp only;go_wp2_with fail
    go_meet
    case rel=>exact HM3.out
   ·have hltE:=eoff_lt' (ri:=ri) (p:=p0) (es:=es) hl HL2.out.1;have hee:ER=eoff ri p0 es (r*ri):=HER.out.symm;subst hee;have hne:((((eoff ri p0 es (r*ri):Nat):Int) == ((eoff ri p0 es pos:Nat):Int)))=false:=by rw [beq_eq_false_iff_ne];omega
    have HM3:=hid (HM2.out w2 HB2.out).2.2;rw [← hre] at HM3;clear hre hl hrb hrl hrm hpp hltE HRR HER HRO HM2;generalize eoff ri p0 es pos=EP at *;generalize eoff ri p0 es (r*ri)=E0 at *;go_wp2_with fail
    go_meet
    case rel=>exact HM3.out
  case rest=>as_aux_lemma =>
   obtain ⟨r0,rfl,rfl,hpp,hre,hl0,s1,O1,k1,n1,p1,h1,⟨hd1,hv1,rfl,rfl,rfl,ho1⟩,hfr1,hsub1⟩:=hcut;clear hz26 hz21 HM2 HRO HB2 HRR HER;have hposl:=HL2.out.1;have HPP:=hid hpp;have HRE:=hid hre;clear hpp hrb HL2;have hz18:wc.cell? ⟨g,8,none⟩=some s1.nv:=h1.blk.cell (k:=8) rfl;have hf8:=h1.blk.free 8;obtain ⟨k0,hk0⟩:∃ k0,k0=r0*ri:=⟨_,rfl⟩;have hk0m:k0 % ri=0:=by rw [hk0];exact Nat.mul_mod_left r0 ri
   have HK0M:=hid hk0m;have hl0':k0 < pos:=by rw [hk0];exact hl0
   have he0:eoff ri p0 es (r0*ri)=eoff ri p0 es k0:=by rw [hk0]
   have HKRE:Hid (k0=(pos - 1) / ri*ri):=hid (by rw [hk0,hre]);rw [he0];have HOW:Hid ((wc.alloc (Obj.cells #[.int .i64 ((eoff ri p0 es k0:Nat):Int)] 3)).ownsRow 0 3 1 s1.nv 0 []):=hid (own_keep (by simpa [iv] using h1.nodes) (fun k e=>Below.heap_alloc wc _ k (own_lt h1.nodes e)));have HINIT:Hid (∀ (v8:Value) (w8:World),w8.ownsRow 0 3 1 v8 (0+1) ([]++[.int .i64 ((eoff ri p0 es k0:Nat):Int)])→(wc.alloc (Obj.cells #[.int .i64 ((eoff ri p0 es k0:Nat):Int)] 3)).grownBy w8 s1.nv.ownBlock→Lies (wc.alloc (Obj.cells #[.int .i64 ((eoff ri p0 es k0:Nat):Int)] 3)) s1.nv v8 →
     Blk w8 g (bic c s1) 226∧BITo g c O w (w8.setCell ⟨g,8,none⟩ v8) (PrevL q ri p0 es pos k0 k0)):=hid (fun v8 w8 a b d=>by
    obtain ⟨q1,q2⟩:=h1.nodesApp [eoff ri p0 es k0] (Obj.cells #[.int .i64 ((eoff ri p0 es k0:Nat):Int)] 3) 0 a b d;refine ⟨q1,(BITo.trans hfr1 hsub1 q2).mono ?_⟩;rintro s' k' n' p' ⟨rfl,rfl,rfl,rfl⟩;have e:k0 - 1 - k0=0:=by omega
    refine ⟨hd1,ho1,by simp [nodesOf,e],by simp [keysOf,e],fun _=>hv1,fun h=>absurd h (Nat.lt_irrefl _)⟩)
   clear h1 hd1 hv1 ho1 hfr1 hsub1 hre hk0 hk0m hl0 he0;go_wp2_with (at_builtin;go_must (refine wpList_app rfl _ _ 224 rfl 3 (.int .i64 0) 1 8 un224 info3 rfl (by omega) s1.nv 0 [] rfl (by exact HOW.out) (some ⟨wc.heap.size,0,none⟩) 1 1 [.int .i64 ((eoff ri p0 es k0:Nat):Int)] rfl rfl (fun e=>by cases e) (by exact news_new [.int .i64 ((eoff ri p0 es k0:Nat):Int)] _ (Blk.new wc _ _)) (by simp [Value.oneCell']) (by unfold maxLen;omega) (by omega) ?_);go_must (intro v8 w8 hown8 hgrow8 hlies8);go_must (obtain ⟨hB8,hL8⟩:=HINIT.out v8 w8 hown8 hgrow8 hlies8);go_must (have HL8:=hid hL8);go_must (obtain ⟨a8,c8,rfl,hc8⟩:=own_form hown8);go_must (have h88:w8.cell? ⟨g,8,none⟩=some s1.nv:=hB8.cell (k:=8) rfl);go_must (have hf88:=hB8.free 8);clear hown8 hgrow8 hlies8 hB8 hL8)
   go_loopw [9] (fun v9 wr=>∃ k,v9=.int .i64 ((eoff ri p0 es k:Nat):Int)∧k0≤k∧k < pos∧BITo g c O w wr (PrevL q ri p0 es pos k0 k)) (fun v9 _=>eoff ri p0 es pos - (intOf v9).toNat)
   case atStart=>exact ⟨k0,rfl,Nat.le_refl _,hl0',HL8.out⟩
   case round =>
    obtain ⟨k,rfl,hk1,hk2,s2,O2,key2,nodes2,pk2,h2,⟨hd2,ho2,hn2,hp2,hv2,hkey2⟩,hfr2,hsub2⟩:=hrel;clear HINIT HOW HL8 hz18 hf8 h88 hf88;have hEr:BE wr c.p q off len ri p0 es:=HE.out.keep (hfr2.block _ HE.out.rb.blk.lt (by rintro (e | e);exact HAP.out.1 e;exact HAP.out.2.2.1 e)) (hfr2.block _ HE.out.rb.qlt (by rintro (e | e);exact HAP.out.2.1 e;exact HAP.out.2.2.2 e));obtain ⟨ev,hek⟩:∃ ev,es[k]?=some ev:=⟨_,List.getElem?_eq_getElem (show k < es.length by omega)⟩
    have hka:k % ri=0∨∃ e',0 < k∧es[k - 1]?=some e'∧key2=e'.1:=by
     rcases Nat.eq_or_lt_of_le hk1 with e | e
     ·exact .inl (by rw [← e];exact HK0M.out)
     ·obtain ⟨_,e',he',hke'⟩:=hkey2 e;exact .inr ⟨e',by omega,he',hke'⟩
    have hjoin:=key_join (ri:=ri) (p0:=p0) hek hka;obtain ⟨vo,vc,hve,_,_,_⟩:=hEr.valSl hek;have hsucc:=eoff_lt (ri:=ri) (p:=p0) hek;have hle:=eoff_mono (ri:=ri) (p:=p0) (es:=es) (show k+1≤es.length by omega);have hle2:=eoff_mono (ri:=ri) (p:=p0) (es:=es) (show k+1≤pos by omega);have hkl:=hEr.ks ev (List.mem_of_getElem? hek);have hent:=hEr.entry hek;have HKD:Hid (∀ W',W'.heap[c.p]?=wr.heap[c.p]?→W'.heap[q]?=wr.heap[q]?→Sl W' (some ⟨q,eoff ri p0 es (k+1) - ev.2.length - (ev.1.length - esh ri p0 es k),none⟩) (ev.1.length - esh ri p0 es k) ((bdata ri p0 es).length+5 - (eoff ri p0 es (k+1) - ev.2.length - (ev.1.length - esh ri p0 es k))) (ev.1.drop (esh ri p0 es k))):=hid (fun W' a b=>(hEr.keep a b).keySl hek)
    have hw6:IntKind.i64.wrap ((eoff ri p0 es k:Int)+((eoff ri p0 es (k+1) - eoff ri p0 es k:Nat):Int))=((eoff ri p0 es (k+1):Nat):Int):=by
     rw [show (eoff ri p0 es k:Int)+((eoff ri p0 es (k+1) - eoff ri p0 es k:Nat):Int)=((eoff ri p0 es (k+1):Nat):Int) by omega];exact IntWalk.i64_in _ (by omega)
    have hshb:esh ri p0 es k≤1073741824:=by have:=esh_le (ri:=ri) (p:=p0) hek;omega
    have hshk:=hjoin.1;have HJ:=hid hjoin.2;have hk0l:(ev.1.drop (esh ri p0 es k)).length=ev.1.length - esh ri p0 es k:=by simp
    have HEK:=hid hek;have hz1:wr.cell? ⟨g,1,none⟩=some (.pointer (some ⟨c.p,0,none⟩)):=h2.blk.cell (k:=1) rfl;have hz15:wr.cell? ⟨g,15,none⟩=some (.int .i64 0):=by
     have h0:wr.cell? ⟨g,15,none⟩=some (.int .i64 (c.oR:Int)):=h2.blk.cell (k:=15) rfl;rw [HC.out.2.2.2.1] at h0;exact h0
    have hkr:k - k0 < ri:=by
     have e1:=HKRE.out;have e2:=Nat.div_add_mod (pos - 1) ri;have e3:=Nat.mod_lt (pos - 1) hri0;rw [Nat.mul_comm] at e2;omega
    have hpkb:pk2.length≤1099511627776∧nodes2.length≤3100:=by
     rw [hp2,hn2];rcases Nat.eq_or_lt_of_le hk1 with e | e
     ·rw [← e];simp [keysOf,nodesOf,show k0 - 1 - k0=0 by omega]
     ·obtain ⟨dd,hdd⟩:∃ dd,k - 1=k0+dd:=⟨k - 1 - k0,by omega⟩;have h1:=keysOf_le (es:=es) (r:=k0) (k - 1) (by omega) (by omega) HE.out.ks;have h2:=nodesOf_length (ri:=ri) (p0:=p0) (es:=es) k0 dd;rw [hdd,h2];rw [hdd] at h1;have h3:(k0+dd - k0)*1073741824≤1000*1073741824:=Nat.mul_le_mul_right _ (by omega);omega
    have HPOS:Hid (k+1=pos→eoff ri p0 es (k+1)=eoff ri p0 es pos):=hid (fun h=>by rw [h]);have HLT:Hid (k+1≠pos→eoff ri p0 es (k+1) < eoff ri p0 es pos):=hid (fun h=>eoff_lt' (by omega) hposl);have HRC:c.p≠g∧q≠g:=⟨HAP.out.1,HAP.out.2.1⟩;have hcplt:=hEr.rb.blk.lt;have hqlt:=hEr.rb.qlt;have HPL:=hid (show c.p < w.heap.size∧q < w.heap.size from ⟨HE.out.rb.blk.lt,HE.out.rb.qlt⟩);rw [hve] at hent;generalize hVL:ev.2.length=VL at *
    generalize hNN:eoff ri p0 es (k+1) - eoff ri p0 es k=NN at *;generalize hKA:eoff ri p0 es (k+1) - VL - (ev.1.length - esh ri p0 es k)=KA at *;generalize hKC:(bdata ri p0 es).length+5 - KA=KC at *;generalize hSH:esh ri p0 es k=SH at *;generalize hKDD:ev.1.drop SH=KD at *;generalize hKL:ev.1.length - SH=KL at *;have hklb:KL≤1073741824:=by omega
    have HVE:=hid hve;have HBE:=hid hEr;have HK0:=hid hk0l;have hcc:eoff ri p0 es k < 4294967296:=by omega
    clear hVL hNN hKA hKC hSH hKDD hKL hve hk0l hek hjoin hka hEr hkl;have HFR2:=hid hfr2;have HSUB2:=hid hsub2;have hz5:wr.cell? ⟨g,5,none⟩=some s2.vv:=h2.blk.cell (k:=5) rfl;have hvf:(∃ vo1 VL1 vc1,s2.vv=.slice (some ⟨q,vo1,none⟩) VL1 vc1∧k0 < k)∨(s2.vv=.slice none 0 0∧k=k0):=by
     rcases Nat.eq_or_lt_of_le hk1 with e | e
     ·exact .inr ⟨hv2 e.symm,e.symm⟩
     ·obtain ⟨q1,e1,q2,_⟩:=hkey2 e;obtain ⟨vo1,vc1,q3,_⟩:=HBE.out.valSl q2;exact .inl ⟨vo1,_,vc1,q1.trans q3,e⟩
    have hvq:(∀ w',(eqGuard BinOp.neq 29 (Operand.tmp 322) (Operand.const (Value.slice none 0 0)) s2.vv (Value.slice none 0 0)).run Tryz.prog w'=.ok () w')∧∃ b:Bool,(∀ w',(binOp BinOp.neq 29 s2.vv (Value.slice none 0 0)).run Tryz.prog w'=.ok (.bool b) w')∧b=decide (k0 < k):=by
     rcases hvf with ⟨vo1,VL1,vc1,e,h⟩ | ⟨e,h⟩
     ·rw [e,decide_eq_true h];exact ⟨fun w'=>by rfl,true,fun w'=>by rfl,rfl⟩
     ·rw [e,decide_eq_false (by omega)];exact ⟨fun w'=>by rfl,false,fun w'=>by rfl,rfl⟩
    obtain ⟨hvg,bb,hvb,hbb⟩:=hvq;have HBBB:=hid hbb;clear hrl hrm hsub2 hfr2 hvf hbb;go_wp2_with fail
    refine hent.mono ?_;rintro e w9 ⟨rfl,hw9⟩;rw [hw9];clear hw9 w9 hent;dsimp only;go_upto_if 323 with fail
    go_cut [] (fun wx=>BITo g c O w wx (fun s' k' n' p'=>s'.dir=2∧s'.off=eoff ri p0 es pos∧k'=key2∧n'=nodesOf ri p0 es k0 k∧p'=keysOf es k0 k))
    case first=>as_aux_lemma =>
     clear hvg hvb;by_cases hkk:k0 < k
     ·have hbt:bb=true:=by rw [HBBB.out,decide_eq_true hkk]
      subst hbt;have hvv:=(hkey2 hkk).1;obtain ⟨kk,rfl⟩:∃ kk,k=kk+1:=⟨k - 1,by omega⟩;rw [Nat.add_sub_cancel] at hvv hn2 hp2;obtain ⟨_,e1,he1,hke1⟩:=hkey2 hkk;rw [Nat.add_sub_cancel] at he1;obtain ⟨vo1,vc1,hve1,_,hvo1,_⟩:=HBE.out.valSl he1;rw [hve1] at hvv;rw [hvv] at hz5;have hle1:=eoff_mono (ri:=ri) (p:=p0) (es:=es) (show kk+1≤es.length by omega);have htr:nodesOf ri p0 es k0 (kk+1)=nodes2++[pk2.length,vo1,e1.2.length]:=by
       rw [nodesOf_succ (by omega),hn2,hp2];unfold trip;rw [vlen_eq he1,show eoff ri p0 es (kk+1) - e1.2.length=vo1 by omega]
      have hks:keysOf es k0 (kk+1)=pk2++key2:=by rw [keysOf_succ (by omega) he1,hp2,hke1]
      have hz8:wr.cell? ⟨g,8,none⟩=some s2.nv:=h2.blk.cell (k:=8) rfl;have hz9:wr.cell? ⟨g,9,none⟩=some s2.pv:=h2.blk.cell (k:=9) rfl;have hz4:wr.cell? ⟨g,4,none⟩=some s2.kv:=h2.blk.cell (k:=4) rfl;have hf8:=h2.blk.free 8;have hf9:=h2.blk.free 9;have hgl:=h2.blk.lt;obtain ⟨pa,pc,hpv,hpcap,hpcm,hpnil⟩:=own_form h2.pk;obtain ⟨ka,kc,hkv,hkcap,hkcm,hknil⟩:=own_form h2.key;rw [hpv] at hz9;rw [hkv] at hz4
      have hw1:IntKind.i64.wrap (((eoff ri p0 es (kk+1):Nat):Int) - (e1.2.length:Int))=(vo1:Int):=by
       rw [show ((eoff ri p0 es (kk+1):Nat):Int) - (e1.2.length:Int)=(vo1:Int) by omega];exact IntWalk.i64_in _ (by omega)
      have HW:Hid (wr.ownsRow 0 3 1 s2.nv nodes2.length (iv nodes2)):=hid h2.nodes;have hn1:=hpkb.2;have hp1:=hpkb.1;have hkl1:key2.length≤1073741824:=by rw [hke1];exact HE.out.ks e1 (List.mem_of_getElem? he1)
      have HA:Hid (∀ (o:Obj) (m:Nat) (v8:Value) (w8:World),w8.ownsRow 0 3 1 v8 (nodes2.length+3) (iv nodes2++iv [pk2.length,vo1,e1.2.length])→((wr.alloc o).drewN m).grownBy w8 s2.nv.ownBlock→Lies ((wr.alloc o).drewN m) s2.nv v8 →
        ∃ O3,Blk w8 g (bic c s2) 226∧BI (w8.setCell ⟨g,8,none⟩ v8) g c { s2 with nv:=v8 } O3 key2 (nodesOf ri p0 es k0 (kk+1)) pk2∧Fr (fun k=>k=g∨O.has k) w (w8.setCell ⟨g,8,none⟩ v8)∧∀ k,O3.has k→O.has k∨w.heap.size≤k):=hid (fun o m v8 w8 a1 a2 a3=>by
       obtain ⟨b1,s',O',k',n',p',b2,⟨rfl,rfl,rfl,rfl⟩,b3,b4⟩:=h2.nodesApp [pk2.length,vo1,e1.2.length] o m a1 a2 a3;refine ⟨O',b1,?_,HFR2.out.trans b3 (fun k hk h=>?_),fun k hk=>?_⟩
       ·rw [htr];exact b2
       ·rcases h with h | h
        ·exact .inl h
        ·exact (HSUB2.out k h).elim .inr (fun h'=>by omega)
       ·rcases b4 k hk with h | h
        ·exact HSUB2.out k h
        ·exact .inr (by have:=HFR2.out.size;omega))
      have HD2:=hid (show s2.dir=2∧s2.off=eoff ri p0 es pos from ⟨hd2,ho2⟩);have HKS:=hid hks;have HPV:=hid hpv;have HBB:=hid h2.blk;have HKV:=hid hkv;clear hd2 ho2 hn2 hp2 hv2 hkey2 hvv he1 hke1 hve1 hvo1 htr hks hpkb hkk hpv hkv hle1 hkr h2;generalize hE0:eoff ri p0 es (kk+1)=E0 at *;generalize hV1:e1.2.length=V1 at *;clear hV1;go_upto_region 57 with fail
      refine Pos.start (fun W=>W.cell? ⟨g,8,none⟩=some s2.nv∧W.cell? ⟨g,9,none⟩=some (.slice pa pk2.length pc)∧W.cell? ⟨g,5,none⟩=some (.slice (some ⟨q,vo1,none⟩) V1 vc1)) 24 (by kernel_rfl) ?_;have hS:(fun W:World=>W.cell? ⟨g,8,none⟩=some s2.nv∧W.cell? ⟨g,9,none⟩=some (.slice pa pk2.length pc)∧W.cell? ⟨g,5,none⟩=some (.slice (some ⟨q,vo1,none⟩) V1 vc1)) (wr.drewN 1):=⟨hz8,hz9,hz5⟩;iterate 22
       refine' Pos.takeK hS rfl (by kernel_rfl) (fun _ _ _ h=>h) (by rfl) ?_ ?_;rotate_left
       ·intro W hW;obtain ⟨s1,s2,s3⟩:=hW;go_simp;try with_reducible rfl
       intro K hK;go_simp;refine hK _ ?_;clear hK K
      clear hS;refine Pos.eff rfl (by kernel_rfl) ?_;go_wp2_with fail
      refine ⟨⟨by go_simp,by go_simp,by go_simp⟩,?_⟩;refine Pos.eff rfl (by kernel_rfl) ?_;refine wpList_app rfl _ _ 224 rfl 3 (.int .i64 0) 1 8 un224 info3 rfl (by omega) s2.nv nodes2.length (iv nodes2) rfl (by exact own_keep HW.out (fun k e=>Below.heap_alloc wr _ k (own_lt HW.out e))) (some ⟨wr.heap.size,0,none⟩) 3 3 (iv [pk2.length,vo1,V1]) rfl rfl (fun e=>by cases e) (by exact news_new (iv [pk2.length,vo1,V1]) _ (Blk.new wr _ _)) (iv_one _) (by unfold maxLen;omega) (by omega) ?_
      intro v8 w8 hown8 hgrow8 hlies8;obtain ⟨O3,hB8,h3,hfr3,hsub3⟩:=HA.out _ _ v8 w8 hown8 hgrow8 hlies8;obtain ⟨a8,c8,rfl,hc8⟩:=own_form hown8;have h88:w8.cell? ⟨g,8,none⟩=some s2.nv:=hB8.cell (k:=8) rfl;have h89:w8.cell? ⟨g,9,none⟩=some (.slice pa pk2.length pc):=by rw [← HPV.out];exact hB8.cell (k:=9) rfl
      have h84:w8.cell? ⟨g,4,none⟩=some (.slice ka key2.length kc):=by rw [← HKV.out];exact hB8.cell (k:=4) rfl
      have h85:w8.cell? ⟨g,5,none⟩=some (.slice (some ⟨q,vo1,none⟩) V1 vc1):=(hB8.cell (k:=5) rfl).trans (by rw [← hz5];exact (HBB.out.cell (k:=5) rfl).symm);have hf88:=hB8.free 8;have hf89:=hB8.free 9;have H3:=hid h3;have HF3:=hid (show Fr (fun k=>k=g∨O.has k) w (w8.setCell ⟨g,8,none⟩ (.slice a8 (nodes2.length+3) c8))∧∀ k,O3.has k→O.has k∨w.heap.size≤k from ⟨hfr3,hsub3⟩);clear hown8 hgrow8 hlies8 hB8 h3 hfr3 hsub3 hz8 hz9 hz4 hz5 hf8 hf9 HA HW
      refine ⟨⟨h88,h89,h85⟩,?_⟩;refine Pos.tail (by kernel_rfl) (by decide) ?_;simp only [List.drop_succ_cons,List.drop_zero];go_wp2_with fail
      refine Pos.start (fun W=>W.cell? ⟨g,9,none⟩=some (.slice pa pk2.length pc)∧W.cell? ⟨g,4,none⟩=some (.slice ka key2.length kc)) 10 (by kernel_rfl) ?_;have hS:(fun W:World=>W.cell? ⟨g,9,none⟩=some (.slice pa pk2.length pc)∧W.cell? ⟨g,4,none⟩=some (.slice ka key2.length kc)) ((w8.setCell ⟨g,8,none⟩ (.slice a8 (nodes2.length+3) c8)).drewN 1):=⟨by go_simp,by go_simp⟩;iterate 9
       refine' Pos.takeK hS rfl (by kernel_rfl) (fun _ _ _ h=>h) (by rfl) ?_ ?_;rotate_left
       ·intro W hW;obtain ⟨s1,s2⟩:=hW;go_simp;try with_reducible rfl
       intro K hK;go_simp;refine hK _ ?_;clear hK K
      clear hS;refine Pos.eff rfl (by kernel_rfl) ?_;refine wpList_app rfl _ _ 29 rfl 5 (.int .u8 0) 1 1 un29 info5 rfl (by omega) (.slice pa pk2.length pc) pk2.length (bv pk2) rfl (by have:=H3.out.pk;rw [show ({ s2 with nv:=Value.slice a8 (nodes2.length+3) c8 }:IS).pv=.slice pa pk2.length pc from HPV.out] at this;exact this) ka key2.length kc (bv key2) rfl (by rw [bv_length];omega) (fun e=>⟨by have:=hknil e;omega,hknil e⟩) (by have:=H3.out.key;rw [show ({ s2 with nv:=Value.slice a8 (nodes2.length+3) c8 }:IS).kv=.slice ka key2.length kc from HKV.out] at this;exact (own_sl this).news) (bv_one _) (by unfold maxLen;omega) (by omega) ?_
      intro v9 w9 hown9 hgrow9 hlies9;obtain ⟨hB9,hT9⟩:=H3.out.pkApp key2 _ hown9 (by rw [show ({ s2 with nv:=Value.slice a8 (nodes2.length+3) c8 }:IS).pv=.slice pa pk2.length pc from HPV.out];exact hgrow9) (by rw [show ({ s2 with nv:=Value.slice a8 (nodes2.length+3) c8 }:IS).pv=.slice pa pk2.length pc from HPV.out];exact hlies9);obtain ⟨a9,c9,rfl,hc9⟩:=own_form hown9;have h99:w9.cell? ⟨g,9,none⟩=some (.slice pa pk2.length pc):=by rw [← HPV.out];exact hB9.cell (k:=9) rfl
      have h94:w9.cell? ⟨g,4,none⟩=some (.slice ka key2.length kc):=by rw [← HKV.out];exact hB9.cell (k:=4) rfl
      have hf99:=hB9.free 9;have HT9:Hid (BITo g c O w (w9.setCell ⟨g,9,none⟩ (.slice a9 (pk2.length+key2.length) c9)) (fun s' k' n' p'=>s'.dir=2∧s'.off=eoff ri p0 es pos∧k'=key2∧n'=nodesOf ri p0 es k0 (kk+1)∧p'=keysOf es k0 (kk+1))):=hid ((BITo.trans HF3.out.1 HF3.out.2 hT9).mono (by
       rintro s' k' n' p' ⟨rfl,rfl,rfl,rfl⟩;exact ⟨HD2.out.1,HD2.out.2,rfl,rfl,HKS.out.symm⟩))
      clear hown9 hgrow9 hlies9 hB9 hT9;refine ⟨⟨h99,h94⟩,?_⟩;refine Pos.tail (by kernel_rfl) (by decide) ?_;simp only [List.drop_succ_cons,List.drop_zero];go_wp2_with fail
      go_meet
      case rel=>exact HT9.out
     ·have hbt:bb=false:=by rw [HBBB.out,decide_eq_false hkk]
      subst hbt;have hkk2:k=k0:=by omega
      rw [hv2 hkk2] at hz5;have HD2:=hid (show s2.dir=2∧s2.off=eoff ri p0 es pos∧nodes2=nodesOf ri p0 es k0 k∧pk2=keysOf es k0 k from ⟨hd2,ho2,by rw [hn2,hkk2,nodesOf_self];simp [nodesOf,show k0 - 1 - k0=0 by omega],by rw [hp2,hkk2,keysOf_self];simp [keysOf,show k0 - 1 - k0=0 by omega]⟩);have H2:=hid h2;clear hn2 hp2 hkk hkk2 hd2 ho2 hv2 hkey2 hpkb hkr h2;go_wp2_with fail
      go_meet
      case rel=>exact ⟨s2,O2,key2,nodes2,pk2,H2.out,⟨HD2.out.1,HD2.out.2.1,rfl,HD2.out.2.2.1,HD2.out.2.2.2⟩,HFR2.out,HSUB2.out⟩
    case rest=>as_aux_lemma =>
     obtain ⟨s3,O3,k3,n3,p3,h3,⟨hd3,ho3,rfl,hn3,hp3⟩,hfr3,hsub3⟩:=hcut;have hqc:wc.heap[c.p]?=wr.heap[c.p]?:=(hfr3.block c.p HPL.out.1 (by rintro (e | e);exact HAP.out.1 e;exact HAP.out.2.2.1 e)).trans (HFR2.out.block c.p HPL.out.1 (by rintro (e | e);exact HAP.out.1 e;exact HAP.out.2.2.1 e)).symm;have hqq:wc.heap[q]?=wr.heap[q]?:=(hfr3.block q HPL.out.2 (by rintro (e | e);exact HAP.out.2.1 e;exact HAP.out.2.2.2 e)).trans (HFR2.out.block q HPL.out.2 (by rintro (e | e);exact HAP.out.2.1 e;exact HAP.out.2.2.2 e)).symm
     have HP3:Hid (s3.dir=2∧s3.off=eoff ri p0 es pos∧n3=nodesOf ri p0 es k0 k∧p3=keysOf es k0 k):=hid ⟨hd3,ho3,hn3,hp3⟩;clear hvg hvb hd3 ho3 hn3 hp3 hd2 ho2 hn2 hp2 hv2 hkey2 h2 hz5 hz15 hz1 hpkb hkr;obtain ⟨ka,kc,hkv,hkcap,hko,hkob⟩:=own_take h3.key SH hshk;rw [bv_take] at hko;have hslk:∀ w',(Instr.slice 29 s3.kv none (some (.int .i64 (SH:Int))) none).run Tryz.prog w'=.ok (.slice ka SH kc) w':=fun w'=>by
      rw [hkv];exact run_slice_hi (P:=Tryz.prog) 29 5 un29 sz5 .i64 ka k3.length kc SH hkcap w'
     have h5:=h3.setNum { s3 with vv:=.slice (some ⟨q,vo,none⟩) VL vc } 5 (.slice (some ⟨q,vo,none⟩) VL vc) rfl rfl rfl rfl;have hB5:=h5.blk;have hz4:wc.cell? ⟨g,4,none⟩=some s3.kv:=h3.blk.cell (k:=4) rfl;have hz45:wc.cell? ⟨g,5,none⟩=some s3.vv:=h3.blk.cell (k:=5) rfl;have hf4:=h3.blk.free 4;have hf5:=h3.blk.free 5;have hgq:=HRC.2;have HSL:Hid (Sl (wc.setCell ⟨g,5,none⟩ (.slice (some ⟨q,vo,none⟩) VL vc)) (some ⟨q,KA,none⟩) KL KC KD):=hid (HKD.out _ ((Below.heap_setCell _ ⟨g,5,none⟩ _ c.p HRC.1).trans (by exact hqc)) ((Below.heap_setCell _ ⟨g,5,none⟩ _ q HRC.2).trans (by exact hqq)))
     have HKO:Hid ((wc.setCell ⟨g,5,none⟩ (.slice (some ⟨q,vo,none⟩) VL vc)).ownsRow 0 5 1 (.slice ka SH kc) SH (bv (k3.take SH))):=hid (own_keep hko (fun k' e'=>Below.heap_setCell _ ⟨g,5,none⟩ _ k' (h3.dis.fb k' (by rw [← h3.keyO,← hkob,e']))));have HSTEP:Hid (∀ (v8:Value) (w8:World),w8.ownsRow 0 5 1 v8 (SH+KL) (bv (k3.take SH)++bv KD)→(wc.setCell ⟨g,5,none⟩ (.slice (some ⟨q,vo,none⟩) VL vc)).grownBy w8 (Value.slice ka SH kc).ownBlock→Lies (wc.setCell ⟨g,5,none⟩ (.slice (some ⟨q,vo,none⟩) VL vc)) (.slice ka SH kc) v8 →
       Blk w8 g (bic c { s3 with vv:=.slice (some ⟨q,vo,none⟩) VL vc }) 226∧BITo g c O w (w8.setCell ⟨g,4,none⟩ v8) (fun s' k' n' p'=>s'.dir=2∧s'.off=eoff ri p0 es pos∧s'.vv=eval' q ri p0 es k∧k'=ev.1∧n'=nodesOf ri p0 es k0 k∧p'=keysOf es k0 k)):=hid (fun v8 w8 a b d=>by
      rw [← HK0.out] at a;obtain ⟨q1,q2⟩:=h5.keyApp (sh:=SH) (kd:=KD) (hkob.trans h3.keyO) hshk 0 a b d;refine ⟨q1,(BITo.trans (hfr3.setC g 5 _ (.inl rfl)) hsub3 q2).mono ?_⟩;rintro s' k' n' p' ⟨rfl,rfl,rfl,rfl⟩;exact ⟨HP3.out.1,HP3.out.2.1,HVE.out.symm,HJ.out,HP3.out.2.2.1,HP3.out.2.2.2⟩)
     have ho6:(bic c { s3 with vv:=.slice (some ⟨q,vo,none⟩) VL vc })[6]?=some (.int .i64 ((eoff ri p0 es pos:Nat):Int)):=by rw [← HP3.out.2.1];rfl
     have HO6:=hid ho6;clear ho6 h3 hfr3 hsub3 hko hkob hkv h5 hB5;by_cases hlast:k+1=pos
     ·have hE1:=HPOS.out hlast;have HL:=hid hlast;rw [hE1] at hw6;clear hlast hE1 HPOS HLT;generalize hEP:eoff ri p0 es pos=EP at *;clear hsucc hle hle2;generalize eoff ri p0 es k=E0 at *;skip
      go_wp2_with (at_builtin;go_must (refine wpList_app rfl _ _ 29 rfl 5 (.int .u8 0) 1 1 un29 info5 rfl (by omega) (.slice ka SH kc) SH (bv (k3.take SH)) rfl (by exact HKO.out) (some ⟨q,KA,none⟩) KL KC (bv KD) rfl (by rw [bv_length,HK0.out];omega) (fun e=>by cases e) (by exact HSL.out.news) (bv_one _) (by unfold maxLen;omega) (by omega) ?_);go_must (intro v8 w8 hown8 hgrow8 hlies8);go_must (obtain ⟨hB8,hSA⟩:=HSTEP.out v8 w8 hown8 hgrow8 hlies8);go_must (have HSA:=hid hSA);go_must (obtain ⟨a8,c8,rfl,hc8⟩:=own_form hown8);go_must (have h84:w8.cell? ⟨g,4,none⟩=some s3.kv:=hB8.cell (k:=4) rfl);go_must (have h86:w8.cell? ⟨g,6,none⟩=some (.int .i64 (EP:Int)):=hB8.cell HO6.out);go_must (have h810:w8.cell? ⟨g,10,none⟩=some (.int .i64 (s3.rix:Int)):=hB8.cell (k:=10) rfl);go_must (have hf84:=hB8.free 4);go_must (have hf86:=hB8.free 6);go_must (have hf810:=hB8.free 10);clear hown8 hgrow8 hlies8 hB8 hSA)
      go_ret
      obtain ⟨s',O',k',n',p',hb',⟨q1,q2,q3,q4,q5,q6⟩,hf',hs'⟩:=HSA.out;have hb2:=(hb'.setNum { s' with rix:=r0 } 10 (.int .i64 (r0:Int)) rfl rfl rfl rfl).setNum { s' with rix:=r0,off:=EP } 6 (.int .i64 (EP:Int)) rfl rfl rfl rfl;refine ⟨by rw [decide_eq_true HPP.out];rfl,{ s' with rix:=r0,off:=EP },O',k',n',p',?_,⟨fun h=>by have:=HPP.out;omega,fun _=>?_⟩,(hf'.setC g 10 _ (.inl rfl)).setC g 6 _ (.inl rfl),hs'⟩
      ·exact hb2
      ·have e1:k=pos - 1:=by have:=HL.out;omega
       have e2:r0=(pos - 1) / ri:=HRE.out;have e3:=HKRE.out;subst e1;rw [e3] at q5 q6;exact ⟨q1,e2,q5,q6,hEP.symm,q3,ev,HEK.out,q4⟩
     ·have hE1:=HLT.out hlast;have HL:=hid hlast;clear hlast HPOS HLT;generalize hEP:eoff ri p0 es pos=EP at *;generalize hE1':eoff ri p0 es (k+1)=E1 at *;generalize hE0:eoff ri p0 es k=E0 at *;skip
      go_wp2_with (at_builtin;go_must (refine wpList_app rfl _ _ 29 rfl 5 (.int .u8 0) 1 1 un29 info5 rfl (by omega) (.slice ka SH kc) SH (bv (k3.take SH)) rfl (by exact HKO.out) (some ⟨q,KA,none⟩) KL KC (bv KD) rfl (by rw [bv_length,HK0.out];omega) (fun e=>by cases e) (by exact HSL.out.news) (bv_one _) (by unfold maxLen;omega) (by omega) ?_);go_must (intro v8 w8 hown8 hgrow8 hlies8);go_must (obtain ⟨hB8,hSA⟩:=HSTEP.out v8 w8 hown8 hgrow8 hlies8);go_must (have HSA:=hid hSA);go_must (obtain ⟨a8,c8,rfl,hc8⟩:=own_form hown8);go_must (have h84:w8.cell? ⟨g,4,none⟩=some s3.kv:=hB8.cell (k:=4) rfl);go_must (have h86:w8.cell? ⟨g,6,none⟩=some (.int .i64 (EP:Int)):=hB8.cell HO6.out);go_must (have h810:w8.cell? ⟨g,10,none⟩=some (.int .i64 (s3.rix:Int)):=hB8.cell (k:=10) rfl);go_must (have hf84:=hB8.free 4);go_must (have hf86:=hB8.free 6);go_must (have hf810:=hB8.free 10);clear hown8 hgrow8 hlies8 hB8 hSA)
      go_roundw
      case rel =>
       refine ⟨k+1,by rw [hE1'],by omega,by have:=HL.out;omega,HSA.out.mono ?_⟩;rintro s' k' n' p' ⟨q1,q2,q3,q4,q5,q6⟩;exact ⟨q1,q2.trans hEP.symm,q5,q6,fun h=>by omega,fun _=>⟨q3,ev,HEK.out,q4⟩⟩
      case measure =>
       simp [intOf];omega
end
end Go.Proofs.YtmkdpjicgjhhjaaGreatDoor
