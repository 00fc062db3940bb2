/- Part 26 of the proof of FnTableComesBack: contracts and lemmas, each under the conditions that it states. Texts: BNext, BFirst. -/
import Derived.Test.YtmkdpjicgjhhjaaGreatDoorC21
namespace Go.Proofs.YtmkdpjicgjhhjaaGreatDoor
open Go.Lib (hid)
set_option maxRecDepth 100000
set_option linter.all false
section
open Go Go.RowKit Go.Shelf
theorem fr_grown {w w':World} {r:Option Nat} (h:w.grownBy w' r):Fr (fun k=>r=some k) w w':=(Fr.refl (fun k=>r=some k) w).grown h (fun _ hk _=>hk)
theorem BI.step {w:World} {g:Nat} {c:IC} {s:IS} {O:Own} {key:Bs} {nodes:List Nat} {pk:Bs} (h:BI w g c s O key nodes pk) {sh:Nat} {ka:Option Addr} {kc:Nat} {kd:Bs} (hob:(Value.slice ka sh kc).ownBlock=O.f) (hsh:sh≤key.length)
  {v8:Value} {w8:World} (hown:w8.ownsRow 0 5 1 v8 (sh+kd.length) (bv (key.take sh)++bv kd)) (hgrow:w.grownBy w8 (Value.slice ka sh kc).ownBlock) (hlies:Lies w (Value.slice ka sh kc) v8) (vv:Value) (off:Nat) :
  (BITo g c O w (((w8.setCell ⟨g,4,none⟩ v8).setCell ⟨g,5,none⟩ vv).setCell ⟨g,6,none⟩ (.int .i64 (off:Int))) (fun s' k' n' p'=>s'={ s with kv:=v8,vv:=vv,off:=off }∧k'=key.take sh++kd∧n'=nodes∧p'=pk)) ∧
  (∀ poff:Nat,BITo g c O w (((((w8.setCell ⟨g,4,none⟩ v8).setCell ⟨g,5,none⟩ vv).setCell ⟨g,7,none⟩ (.int .i64 (poff:Int))).setCell ⟨g,6,none⟩ (.int .i64 (off:Int))).setCell ⟨g,11,none⟩ (.int .i64 3)) (fun s' k' n' p'=>s'={ s with kv:=v8,vv:=vv,off:=off,poff:=poff,dir:=3 }∧k'=key.take sh++kd∧n'=nodes∧p'=pk)):=by
 have hf:=fr_grown hgrow;rw [hob] at hf;have hl:(key.take sh++kd).length=sh+kd.length:=by simp;omega
 have ho:w8.ownsRow 0 5 1 v8 (key.take sh++kd).length (bv (key.take sh++kd)):=by rw [hl,bv_append];exact hown
 obtain ⟨h1,h2⟩:=h.keyTo hf ho (fun k hk=>by
  rcases hlies with e | e
  ·exact .inl (by rw [← hob,← e,hk])
  ·rw [hk] at e;exact .inr (by have:=Option.some.inj e;omega))
 have h3:=h1.setNum { s with kv:=v8,vv:=vv } 5 vv rfl rfl rfl rfl;have h4:=h3.setNum { s with kv:=v8,vv:=vv,off:=off } 6 (.int .i64 (off:Int)) rfl rfl rfl rfl;have hF:Fr (fun k=>k=g∨O.has k) w w8:=hf.mono (fun k _ e=>.inr (.inl e));refine ⟨⟨_,_,_,_,_,h4,⟨rfl,rfl,rfl,rfl⟩,((hF.setC g 4 _ (.inl rfl)).setC g 5 _ (.inl rfl)).setC g 6 _ (.inl rfl),h2⟩,fun poff=>?_⟩;have h5:=h3.setNum { s with kv:=v8,vv:=vv,poff:=poff } 7 (.int .i64 (poff:Int)) rfl rfl rfl rfl
 have h6:=h5.setNum { s with kv:=v8,vv:=vv,poff:=poff,off:=off } 6 (.int .i64 (off:Int)) rfl rfl rfl rfl;have h7:=h6.setNum { s with kv:=v8,vv:=vv,poff:=poff,off:=off,dir:=3 } 11 (.int .i64 3) rfl rfl rfl rfl;exact ⟨_,_,_,_,_,h7,⟨rfl,rfl,rfl,rfl⟩,((((hF.setC g 4 _ (.inl rfl)).setC g 5 _ (.inl rfl)).setC g 7 _ (.inl rfl)).setC g 6 _ (.inl rfl)).setC g 11 _ (.inl rfl),h2⟩
def KeyAt (ri:Nat) (es:List KV) (i:Nat) (key:Bs):Prop:=i < es.length→i % ri=0∨∃ e',0 < i∧es[i - 1]?=some e'∧key=e'.1
def NextTo (q ri:Nat) (p0:Bs) (es:List KV) (c:IC) (s:IS) (nodes:List Nat) (pk:Bs) (i hi:Nat) (s':IS) (k':Bs) (n':List Nat) (p':Bs):Prop :=
 s'.rix=(if s.dir=0 then c.riS else s.rix)∧n'=(if s.dir=2 then [] else nodes)∧p'=(if s.dir=2 then [] else pk) ∧
  (i < hi→s'.dir=3∧s'.poff=eoff ri p0 es i∧s'.off=eoff ri p0 es (i+1)∧s'.vv=eval' q ri p0 es i∧∃ e,es[i]?=some e∧k'=e.1)∧(¬ i < hi→s'.dir=1∧s'.off=eoff ri p0 es i)
def NextMid (ri:Nat) (p0:Bs) (es:List KV) (g:Nat) (c:IC) (s:IS) (O:Own) (nodes:List Nat) (pk:Bs) (k:Nat) (w wx:World):Prop :=
 BITo g c O w wx (fun s1 k1 n1 p1=>s1.off=eoff ri p0 es k∧s1.rix=(if s.dir=0 then c.riS else s.rix)∧n1=(if s.dir=2 then [] else nodes)∧p1=(if s.dir=2 then [] else pk)∧KeyAt ri es k k1)
def offOf (w:World) (g:Nat):Nat:=match w.cell? ⟨g,6,none⟩ with | some (.int _ x)=>x.toNat | _=>0
theorem bv_take (l:List UInt8) (n:Nat):(bv l).take n=bv (l.take n):=by simp [bv,Lib.byteCells]
theorem BI.stepD {w:World} {g:Nat} {c:IC} {s:IS} {O:Own} {key:Bs} {nodes:List Nat} {pk:Bs} (h:BI w g c s O key nodes pk) {sh:Nat} {ka:Option Addr} {kc:Nat} {kd:Bs} (hob:(Value.slice ka sh kc).ownBlock=O.f) (hsh:sh≤key.length) (vv:Value) (off poff:Nat)
  (n:Nat) (v8:Value) (w8:World) (hown:w8.ownsRow 0 5 1 v8 (sh+kd.length) (bv (key.take sh)++bv kd)) (hgrow:(w.drewN n).grownBy w8 (Value.slice ka sh kc).ownBlock) (hlies:Lies (w.drewN n) (Value.slice ka sh kc) v8) :
  Blk w8 g (bic c s) 226∧BITo g c O w (((w8.setCell ⟨g,4,none⟩ v8).setCell ⟨g,5,none⟩ vv).setCell ⟨g,6,none⟩ (.int .i64 (off:Int))) (fun s' k' n' p'=>s'={ s with kv:=v8,vv:=vv,off:=off }∧k'=key.take sh++kd∧n'=nodes∧p'=pk) ∧
  BITo g c O w (((((w8.setCell ⟨g,4,none⟩ v8).setCell ⟨g,5,none⟩ vv).setCell ⟨g,7,none⟩ (.int .i64 (poff:Int))).setCell ⟨g,6,none⟩ (.int .i64 (off:Int))).setCell ⟨g,11,none⟩ (.int .i64 3)) (fun s' k' n' p'=>s'={ s with kv:=v8,vv:=vv,off:=off,poff:=poff,dir:=3 }∧k'=key.take sh++kd∧n'=nodes∧p'=pk):=by
 have hg:w.grownBy w8 (Value.slice ka sh kc).ownBlock:=⟨hgrow.os,hgrow.tape,hgrow.output,hgrow.size,hgrow.block⟩;have hs:=h.step hob hsh hown hg hlies vv off;have hf:=fr_grown hg;rw [hob] at hf;exact ⟨h.blk.fr hf (fun e=>h.dis.fb g e rfl),hs.1,hs.2 poff⟩
set_option maxHeartbeats 8000000 in
theorem bnext_any (w:World) (g:Nat) (c:IC) (s:IS) (O:Own) (key:Bs) (nodes:List Nat) (pk:Bs) (h:BI w g c s O key nodes pk) (q off len ri:Nat) (p0:Bs) (es:List KV) (hE:BE w c.p q off len ri p0 es) (hap:c.p≠g∧q≠g∧¬ O.has c.p∧¬ O.has q)
  (lo hi st:Nat) (hlo:c.oR=eoff ri p0 es lo) (hhi:c.oL=eoff ri p0 es hi) (hlh:lo≤hi) (hhm:hi≤es.length) (hdir:s.dir=0∨s.dir=2∨s.dir=3) (hst:(if s.dir=0 then c.oS else s.off)=eoff ri p0 es st) (hkey:KeyAt ri es st key) (hsh:st≤hi) :
  Calls Tryz.prog 60 #[.pointer (some ⟨g,0,none⟩)] w fun e w'=>e=.returned (.bool (decide (max st lo < hi)))∧BITo g c O w w' (NextTo q ri p0 es c s nodes pk (max st lo) hi):=by
 have hz11:w.cell? ⟨g,11,none⟩=some (.int .i64 (s.dir:Int)):=h.blk.cell (k:=11) rfl;have hz17:w.cell? ⟨g,17,none⟩=some .nilIface:=h.blk.cell (k:=17) rfl;have hz12:w.cell? ⟨g,12,none⟩=some (.int .i64 (c.riS:Int)):=h.blk.cell (k:=12) rfl;have hz14:w.cell? ⟨g,14,none⟩=some (.int .i64 (c.oS:Int)):=h.blk.cell (k:=14) rfl;have hz10:w.cell? ⟨g,10,none⟩=some (.int .i64 (s.rix:Int)):=h.blk.cell (k:=10) rfl
 have hz6:w.cell? ⟨g,6,none⟩=some (.int .i64 (s.off:Int)):=h.blk.cell (k:=6) rfl;have hz8:w.cell? ⟨g,8,none⟩=some s.nv:=h.blk.cell (k:=8) rfl;have hz9:w.cell? ⟨g,9,none⟩=some s.pv:=h.blk.cell (k:=9) rfl;have hf10:=h.blk.free 10;have hf6:=h.blk.free 6;have hf8:=h.blk.free 8;have hf9:=h.blk.free 9;have HH:=hid h;have HST:=hid hst;have HK:=hid hkey;obtain ⟨na,nc,hnv,hncap,hno,hnob⟩:=own_take h.nodes 0 (Nat.zero_le _)
 obtain ⟨pa,pc,hpv,hpcap,hpo,hpob⟩:=own_take h.pk 0 (Nat.zero_le _);have hsln:∀ w',(Instr.slice 224 s.nv none (some (.int .i64 0)) none).run Tryz.prog w'=.ok (.slice na 0 nc) w':=fun w'=>by
  rw [hnv];exact run_slice_hi (P:=Tryz.prog) 224 3 un224 sz3 .i64 na nodes.length nc 0 (by omega) w'
 have hslp:∀ w',(Instr.slice 29 s.pv none (some (.int .i64 0)) none).run Tryz.prog w'=.ok (.slice pa 0 pc) w':=fun w'=>by
  rw [hpv];exact run_slice_hi (P:=Tryz.prog) 29 5 un29 sz5 .i64 pa pk.length pc 0 (by omega) w'
 have HNO:Hid (w.ownsRow 0 3 1 (.slice na 0 nc) 0 []∧(Value.slice na 0 nc).ownBlock=O.r):=hid ⟨by simpa using hno,hnob.trans h.nodesO⟩;have HPO:Hid (w.ownsRow 0 5 1 (.slice pa 0 pc) 0 []∧(Value.slice pa 0 pc).ownBlock=O.p):=hid ⟨by simpa using hpo,hpob.trans h.pkO⟩;clear h hst hkey hnv hpv hno hpo hnob hpob;go_enter Tryz.func60,Tryz.ntmps60
 have hmid0:s.dir=0→NextMid ri p0 es g c s O nodes pk st w ((w.setCell ⟨g,10,none⟩ (.int .i64 (c.riS:Int))).setCell ⟨g,6,none⟩ (.int .i64 (c.oS:Int))):=fun hd=>by
  have h:=HH.out;have hst:=HST.out;rw [if_pos hd] at hst;have h1:=h.setNum { s with rix:=c.riS } 10 (.int .i64 (c.riS:Int)) rfl rfl rfl rfl;have h2:=h1.setNum { s with rix:=c.riS,off:=c.oS } 6 (.int .i64 (c.oS:Int)) rfl rfl rfl rfl;exact ⟨_,O,key,nodes,pk,h2,⟨hst,(if_pos hd).symm,(if_neg (by omega)).symm,(if_neg (by omega)).symm,HK.out⟩,((Fr.refl (fun k=>k=g∨O.has k) w).setC g 10 _ (.inl rfl)).setC g 6 _ (.inl rfl),fun _ h=>.inl h⟩
 have hmid2:s.dir=2→NextMid ri p0 es g c s O nodes pk st w ((w.setCell ⟨g,8,none⟩ (.slice na 0 nc)).setCell ⟨g,9,none⟩ (.slice pa 0 pc)):=fun hd=>by
  have h:=HH.out;have hst:=HST.out;rw [if_neg (by omega)] at hst;obtain ⟨h1,h1o⟩:=h.nodesTo (w1:=w) (Fr.refl _ _) (nodes':=[]) (by simpa [iv] using HNO.out.1) (fun k e=>.inl (by rw [← HNO.out.2,e]));have hgp:∀ k,O.p=some k→k≠g:=h.dis.pb;obtain ⟨h2,h2o⟩:=h1.pkTo (w1:=w.setCell ⟨g,8,none⟩ (.slice na 0 nc)) (Fr.refl _ _) (pk':=[]) (by
   have:=HPO.out.1;exact own_keep (by simpa [bv,Lib.byteCells] using this) (fun k e=>Below.heap_setCell _ _ _ k (by simpa using hgp k (by rw [← HPO.out.2,e])))) (fun k e=>.inl (by show O.p=some k;rw [← HPO.out.2,e]))
  refine ⟨_,_,key,[],[],h2,⟨hst,(if_neg (by omega)).symm,(if_pos hd).symm,(if_pos hd).symm,HK.out⟩,((Fr.refl (fun k=>k=g∨O.has k) w).setC g 8 _ (.inl rfl)).setC g 9 _ (.inl rfl),fun k hk=>?_⟩;rcases h2o k hk with hk | hk
  ·exact h1o k hk
  ·simp at hk;exact .inr hk
 have hmid3:s.dir=3→NextMid ri p0 es g c s O nodes pk st w w:=fun hd=>by
  have h:=HH.out;have hst:=HST.out;rw [if_neg (by omega)] at hst;exact ⟨s,O,key,nodes,pk,h,⟨hst,(if_neg (by omega)).symm,(if_neg (by omega)).symm,(if_neg (by omega)).symm,HK.out⟩,Fr.refl _ _,fun _ h=>.inl h⟩
 have HM0:=hid hmid0;have HM2:=hid hmid2;have HM3:=hid hmid3;clear hmid0 hmid2 hmid3;have hd1:((s.dir:Int) == 1)=false:=by rw [beq_eq_false_iff_ne];omega
 have hdm:((s.dir:Int) == -1)=false:=by rw [beq_eq_false_iff_ne];omega
 go_upto_if 38 with fail
 go_cut [] (fun wx=>NextMid ri p0 es g c s O nodes pk st w wx)
 case first =>
  rcases hdir with hd | hd | hd
  ·have HD:=hid (HM0.out hd);rw [hd] at hz11;have hd0:((s.dir:Int) == 0)=true:=by rw [hd];rfl
   clear hd HM0 HM2 HM3 hd1 hdm;go_wp2_with fail
   go_meet
   case rel=>exact HD.out
  ·have HD:=hid (HM2.out hd);rw [hd] at hz11;have hd0:((s.dir:Int) == 0)=false:=by rw [hd];rfl
   clear hd HM0 HM2 HM3 hd1 hdm;go_wp2_with fail
   go_meet
   case rel=>exact HD.out
  ·have HD:=hid (HM3.out hd);rw [hd] at hz11;have hd0:((s.dir:Int) == 0)=false:=by rw [hd];rfl
   clear hd HM0 HM2 HM3 hd1 hdm;go_wp2_with fail
   go_meet
   case rel=>exact HD.out
 case rest =>
  have HE:=hid hE;have HAP:=hid hap;have hEm:=hE.rb.len;have hEx:=hE.rb.max;clear hz11 hz17 hz12 hz14 hz10 hz6 hz8 hz9 hf10 hf6 hf8 hf9 HM0 HM2 HM3 hd1 hdm hsln hslp HNO HPO HK HST hE hap HH;go_wp2_with fail
  go_loopw [] (fun wr=>∃ k,NextMid ri p0 es g c s O nodes pk k w wr∧st≤k∧(k≤lo∨k=st)) (fun wr=>c.oR - offOf wr g)
  case atStart=>exact ⟨st,hcut,Nat.le_refl _,.inr rfl⟩
  case round =>
   obtain ⟨k,hm,hk1,hk2⟩:=hrel;have HM:=hid hm;obtain ⟨s1,O1,key1,nodes1,pk1,h1,⟨hoff,hrix,hn1,hp1,hka⟩,hfr,hsub⟩:=hm;have hz15:wr.cell? ⟨g,15,none⟩=some (.int .i64 (eoff ri p0 es lo:Int)):=by rw [← hlo];exact h1.blk.cell (k:=15) rfl
   have hz6:wr.cell? ⟨g,6,none⟩=some (.int .i64 (eoff ri p0 es k:Int)):=by rw [← hoff];exact h1.blk.cell (k:=6) rfl
   by_cases hlt:k < lo
   ·have hltE:=eoff_lt' (ri:=ri) (p:=p0) (es:=es) hlt (by omega);have hEr:BE wr c.p q off len ri p0 es:=HE.out.keep (hfr.block _ HE.out.rb.blk.lt (by rintro (e | e);exact HAP.out.1 e;exact HAP.out.2.2.1 e)) (hfr.block _ HE.out.rb.qlt (by rintro (e | e);exact HAP.out.2.1 e;exact HAP.out.2.2.2 e));obtain ⟨ev,hek⟩:∃ ev,es[k]?=some ev:=⟨_,List.getElem?_eq_getElem (show k < es.length by omega)⟩;have hjoin:=key_join (ri:=ri) (p0:=p0) hek (hka (lt_of_some hek))
    have hkd:=hEr.keySl hek;obtain ⟨vo,vc,hve,_,_,_⟩:=hEr.valSl hek;have hsucc:=eoff_lt (ri:=ri) (p:=p0) hek;have hle:=eoff_mono (ri:=ri) (p:=p0) (es:=es) (show k+1≤es.length by omega);have hkl:=hEr.ks ev (List.mem_of_getElem? hek);have hrl:=hEr.rb.len;have hrm:=hEr.rb.max;obtain ⟨ka,kc,hkv,hkcap,hko,hkob⟩:=own_take h1.key _ hjoin.1;rw [bv_take] at hko;have hsl:∀ w',(Instr.slice 29 s1.kv none (some (.int .i64 (esh ri p0 es k:Int))) none).run Tryz.prog w'=.ok (.slice ka (esh ri p0 es k) kc) w':=fun w'=>by
     rw [hkv];exact run_slice_hi (P:=Tryz.prog) 29 5 un29 sz5 .i64 ka key1.length kc (esh ri p0 es k) hkcap w'
    have hentd:∀ j n,Calls Tryz.prog 106 #[.pointer (some ⟨c.p,0,none⟩),.int .i64 (eoff ri p0 es k)] (wr.drewN (j+n)) fun r w'=>r=.returned (.tuple #[
       .slice (some ⟨q,eoff ri p0 es (k+1) - ev.2.length - (ev.1.length - esh ri p0 es k),none⟩) (ev.1.length - esh ri p0 es k) ((bdata ri p0 es).length+5 - (eoff ri p0 es (k+1) - ev.2.length - (ev.1.length - esh ri p0 es k))),
       eval' q ri p0 es k,.int .i64 (esh ri p0 es k),.int .i64 (eoff ri p0 es (k+1) - eoff ri p0 es k:Nat),.nilIface])∧∃ m,w'=wr.drewN (j+m):=fun j n=>((hEr.keep (w':=wr.drewN (j+n)) rfl rfl).entry hek).mono (fun e w' ⟨h1,h2⟩=>⟨h1,n,h2⟩)
    have HSL:Hid (Sl wr (some ⟨q,eoff ri p0 es (k+1) - ev.2.length - (ev.1.length - esh ri p0 es k),none⟩) (ev.1.length - esh ri p0 es k) ((bdata ri p0 es).length+5 - (eoff ri p0 es (k+1) - ev.2.length - (ev.1.length - esh ri p0 es k))) (ev.1.drop (esh ri p0 es k))):=hid hkd;have HKO:=hid hko;have HJ:=hid hjoin.2;have HEK:=hid hek;have HSTEP:=hid (fun n v8 w8 hown hgrow hlies=>h1.stepD (hkob.trans h1.keyO) hjoin.1 (kd:=ev.1.drop (esh ri p0 es k)) (eval' q ri p0 es k) (eoff ri p0 es (k+1)) (eoff ri p0 es k) n v8 w8 hown hgrow hlies)
    have hk0:(ev.1.drop (esh ri p0 es k)).length=ev.1.length - esh ri p0 es k:=by simp
    have hnn:((((eoff ri p0 es (k+1) - eoff ri p0 es k:Nat)):Int) == 0)=false:=by rw [beq_eq_false_iff_ne];omega
    have hw6:IntKind.i64.wrap ((eoff ri p0 es k:Int)+((eoff ri p0 es (k+1) - eoff ri p0 es k:Nat):Int))=(eoff ri p0 es (k+1):Int):=by
     rw [show (eoff ri p0 es k:Int)+((eoff ri p0 es (k+1) - eoff ri p0 es k:Nat):Int)=(eoff ri p0 es (k+1):Int) by omega];exact IntWalk.i64_in _ (by omega)
    have hz1:wr.cell? ⟨g,1,none⟩=some (.pointer (some ⟨c.p,0,none⟩)):=h1.blk.cell (k:=1) rfl;have hz4:wr.cell? ⟨g,4,none⟩=some s1.kv:=h1.blk.cell (k:=4) rfl;have hgl:=h1.blk.lt;have hshb:esh ri p0 es k≤1073741824:=by have:=esh_le (ri:=ri) (p:=p0) hek;omega
    have hf4:=h1.blk.free 4;generalize hELO:eoff ri p0 es lo=ELO at *;have HH1:=hid h1;have HOFF:=hid hoff;have HFR:=hid hfr;have HSUB:=hid hsub;have HREST:Hid (s1.rix=(if s.dir=0 then c.riS else s.rix)∧nodes1=(if s.dir=2 then [] else nodes)∧pk1=(if s.dir=2 then [] else pk)):=hid ⟨hrix,hn1,hp1⟩;clear h1 hfr hsub hka hoff hrix hn1 hp1 hcut hEr;generalize hVV:eval' q ri p0 es k=VV at *;generalize ev.2.length=VL at hve
    subst hve;generalize hNN:eoff ri p0 es (k+1) - eoff ri p0 es k=NN at *;generalize hKA:eoff ri p0 es (k+1) - ev.2.length - (ev.1.length - esh ri p0 es k)=KA at *;generalize hKC:(bdata ri p0 es).length+5 - KA=KC at *;generalize hE1:eoff ri p0 es (k+1)=E1 at *;generalize hE0:eoff ri p0 es k=E0 at *;generalize hSH:esh ri p0 es k=SH at *;generalize hKD:ev.1.drop SH=KD at *;generalize hKL:ev.1.length - SH=KL at *
    generalize hKT:key1.take SH=KT at *;have HVV:=hid hVV;have HE0:=hid hE0;have HE1:=hid hE1;have HK0:=hid hk0;have hklb:KL≤1073741824:=by omega
    clear hVV hNN hKA hKC hE1 hE0 hSH hKD hKT hk0 hKL hko hkv hkob hkd hjoin hek;go_upto_region 12 with fail
    go_quiet (fail)
    go_upto_region 13 with fail
    go_quiet (exact hentd _ _)
    go_wp2_with (at_builtin;go_must (refine wpList_app rfl _ _ 29 rfl 5 (.int .u8 0) 1 1 un29 info5 rfl (by omega) (.slice ka SH kc) SH (bv KT) rfl (by exact HKO.out) (some ⟨q,KA,none⟩) KL KC (bv KD) rfl (by rw [bv_length,HK0.out];omega) (fun e=>by cases e) (by exact HSL.out.news) (bv_one _) (by unfold maxLen;omega) (by omega) ?_);go_must (intro v8 w8 hown8 hgrow8 hlies8);go_must (obtain ⟨hB8,hSA,hSB⟩:=HSTEP.out _ v8 w8 (by rw [HK0.out];exact hown8) hgrow8 hlies8);go_must (have HSA:=hid hSA);go_must (have HSB:=hid hSB);go_must (obtain ⟨a8,c8,rfl,hc8⟩:=own_form hown8);go_must (have h84:w8.cell? ⟨g,4,none⟩=some s1.kv:=hB8.cell (k:=4) rfl);go_must (have h85:w8.cell? ⟨g,5,none⟩=some s1.vv:=hB8.cell (k:=5) rfl);go_must (have h86:w8.cell? ⟨g,6,none⟩=some (.int .i64 (E0:Int)):=by rw [← HOFF.out];exact hB8.cell (k:=6) rfl);go_must (have h87:w8.cell? ⟨g,7,none⟩=some (.int .i64 (s1.poff:Int)):=hB8.cell (k:=7) rfl);go_must (have h811:w8.cell? ⟨g,11,none⟩=some (.int .i64 (s1.dir:Int)):=hB8.cell (k:=11) rfl);go_must (have hf84:=hB8.free 4);go_must (have hf85:=hB8.free 5);go_must (have hf86:=hB8.free 6);go_must (have hf87:=hB8.free 7);go_must (have hf811:=hB8.free 11);clear hown8 hgrow8 hlies8 hB8 hSA hSB)
    go_roundw
    case rel =>
     refine ⟨k+1,?_,by omega,by omega⟩;refine (BITo.trans HFR.out HSUB.out HSA.out).mono ?_;rintro s' k' n' p' ⟨rfl,rfl,rfl,rfl⟩;exact ⟨HE1.out.symm,HREST.out.1,HREST.out.2.1,HREST.out.2.2,fun _=>.inr ⟨_,by omega,HEK.out,HJ.out⟩⟩
    case measure =>
     have m0:offOf wr g=E0:=by unfold offOf;rw [hz6];simp
     obtain ⟨s',_,_,_,_,hBI,⟨rfl,_⟩,_⟩:=HSA.out;have hc6:=hBI.blk.cell (k:=6) rfl;have m1:offOf (((w8.setCell ⟨g,4,none⟩ (.slice a8 (SH+KL) c8)).setCell ⟨g,5,none⟩ (.slice (some ⟨q,vo,none⟩) VL vc)).setCell ⟨g,6,none⟩ (.int .i64 (E1:Int))) g=E1:=by unfold offOf;rw [hc6];simp [bic]
     rw [m0,m1];omega
   ·have hki:max st lo=k:=by omega
    have hleE:=eoff_mono (ri:=ri) (p:=p0) (es:=es) (show lo≤k by omega);have hz16:wr.cell? ⟨g,16,none⟩=some (.int .i64 (eoff ri p0 es hi:Int)):=by rw [← hhi];exact h1.blk.cell (k:=16) rfl
    have HKI:=hid hki;clear hki;by_cases hkh:k < hi
    ·have hltH:=eoff_lt' (ri:=ri) (p:=p0) (es:=es) hkh hhm;have hEr:BE wr c.p q off len ri p0 es:=HE.out.keep (hfr.block _ HE.out.rb.blk.lt (by rintro (e | e);exact HAP.out.1 e;exact HAP.out.2.2.1 e)) (hfr.block _ HE.out.rb.qlt (by rintro (e | e);exact HAP.out.2.1 e;exact HAP.out.2.2.2 e));obtain ⟨ev,hek⟩:∃ ev,es[k]?=some ev:=⟨_,List.getElem?_eq_getElem (show k < es.length by omega)⟩;have hjoin:=key_join (ri:=ri) (p0:=p0) hek (hka (lt_of_some hek))
     have hkd:=hEr.keySl hek;obtain ⟨vo,vc,hve,_,_,_⟩:=hEr.valSl hek;have hsucc:=eoff_lt (ri:=ri) (p:=p0) hek;have hle:=eoff_mono (ri:=ri) (p:=p0) (es:=es) (show k+1≤es.length by omega);have hkl:=hEr.ks ev (List.mem_of_getElem? hek);have hrl:=hEr.rb.len;have hrm:=hEr.rb.max;obtain ⟨ka,kc,hkv,hkcap,hko,hkob⟩:=own_take h1.key _ hjoin.1;rw [bv_take] at hko;have hsl:∀ w',(Instr.slice 29 s1.kv none (some (.int .i64 (esh ri p0 es k:Int))) none).run Tryz.prog w'=.ok (.slice ka (esh ri p0 es k) kc) w':=fun w'=>by
      rw [hkv];exact run_slice_hi (P:=Tryz.prog) 29 5 un29 sz5 .i64 ka key1.length kc (esh ri p0 es k) hkcap w'
     have hentd:∀ j n,Calls Tryz.prog 106 #[.pointer (some ⟨c.p,0,none⟩),.int .i64 (eoff ri p0 es k)] (wr.drewN (j+n)) fun r w'=>r=.returned (.tuple #[
        .slice (some ⟨q,eoff ri p0 es (k+1) - ev.2.length - (ev.1.length - esh ri p0 es k),none⟩) (ev.1.length - esh ri p0 es k) ((bdata ri p0 es).length+5 - (eoff ri p0 es (k+1) - ev.2.length - (ev.1.length - esh ri p0 es k))),
        eval' q ri p0 es k,.int .i64 (esh ri p0 es k),.int .i64 (eoff ri p0 es (k+1) - eoff ri p0 es k:Nat),.nilIface])∧∃ m,w'=wr.drewN (j+m):=fun j n=>((hEr.keep (w':=wr.drewN (j+n)) rfl rfl).entry hek).mono (fun e w' ⟨h1,h2⟩=>⟨h1,n,h2⟩)
     have HSL:Hid (Sl wr (some ⟨q,eoff ri p0 es (k+1) - ev.2.length - (ev.1.length - esh ri p0 es k),none⟩) (ev.1.length - esh ri p0 es k) ((bdata ri p0 es).length+5 - (eoff ri p0 es (k+1) - ev.2.length - (ev.1.length - esh ri p0 es k))) (ev.1.drop (esh ri p0 es k))):=hid hkd;have HKO:=hid hko;have HJ:=hid hjoin.2;have HEK:=hid hek;have HSTEP:=hid (fun n v8 w8 hown hgrow hlies=>h1.stepD (hkob.trans h1.keyO) hjoin.1 (kd:=ev.1.drop (esh ri p0 es k)) (eval' q ri p0 es k) (eoff ri p0 es (k+1)) (eoff ri p0 es k) n v8 w8 hown hgrow hlies)
     have hk0:(ev.1.drop (esh ri p0 es k)).length=ev.1.length - esh ri p0 es k:=by simp
     have hnn:((((eoff ri p0 es (k+1) - eoff ri p0 es k:Nat)):Int) == 0)=false:=by rw [beq_eq_false_iff_ne];omega
     have hw6:IntKind.i64.wrap ((eoff ri p0 es k:Int)+((eoff ri p0 es (k+1) - eoff ri p0 es k:Nat):Int))=(eoff ri p0 es (k+1):Int):=by
      rw [show (eoff ri p0 es k:Int)+((eoff ri p0 es (k+1) - eoff ri p0 es k:Nat):Int)=(eoff ri p0 es (k+1):Int) by omega];exact IntWalk.i64_in _ (by omega)
     have hz1:wr.cell? ⟨g,1,none⟩=some (.pointer (some ⟨c.p,0,none⟩)):=h1.blk.cell (k:=1) rfl;have hz4:wr.cell? ⟨g,4,none⟩=some s1.kv:=h1.blk.cell (k:=4) rfl;have hgl:=h1.blk.lt;have hshb:esh ri p0 es k≤1073741824:=by have:=esh_le (ri:=ri) (p:=p0) hek;omega
     generalize hEHI:eoff ri p0 es hi=EHI at *;generalize hELO:eoff ri p0 es lo=ELO at *;have HOFF:=hid hoff;have HFR:=hid hfr;have HSUB:=hid hsub;have HKH:=hid hkh;have HREST:Hid (s1.rix=(if s.dir=0 then c.riS else s.rix)∧nodes1=(if s.dir=2 then [] else nodes)∧pk1=(if s.dir=2 then [] else pk)):=hid ⟨hrix,hn1,hp1⟩;clear h1 hfr hsub hka hoff hrix hn1 hp1 hcut hEr hkh hlt;generalize hVV:eval' q ri p0 es k=VV at *
     generalize ev.2.length=VL at hve;subst hve;generalize hNN:eoff ri p0 es (k+1) - eoff ri p0 es k=NN at *;generalize hKA:eoff ri p0 es (k+1) - ev.2.length - (ev.1.length - esh ri p0 es k)=KA at *;generalize hKC:(bdata ri p0 es).length+5 - KA=KC at *;generalize hE1:eoff ri p0 es (k+1)=E1 at *;generalize hE0:eoff ri p0 es k=E0 at *;generalize hSH:esh ri p0 es k=SH at *;generalize hKD:ev.1.drop SH=KD at *
     generalize hKL:ev.1.length - SH=KL at *;generalize hKT:key1.take SH=KT at *;have HVV:=hid hVV;have HE0:=hid hE0;have HE1:=hid hE1;have HK0:=hid hk0;have hklb:KL≤1073741824:=by omega
     clear hVV hNN hKA hKC hE1 hE0 hSH hKD hKT hk0 hKL hko hkv hkob hkd hjoin hek;go_upto_region 12 with fail
     go_quiet (fail)
     go_upto_region 23 with fail
     go_quiet (fail)
     go_upto_region 28 with fail
     go_quiet (exact hentd _ _)
     go_wp2_with (at_builtin;go_must (refine wpList_app rfl _ _ 29 rfl 5 (.int .u8 0) 1 1 un29 info5 rfl (by omega) (.slice ka SH kc) SH (bv KT) rfl (by exact HKO.out) (some ⟨q,KA,none⟩) KL KC (bv KD) rfl (by rw [bv_length,HK0.out];omega) (fun e=>by cases e) (by exact HSL.out.news) (bv_one _) (by unfold maxLen;omega) (by omega) ?_);go_must (intro v8 w8 hown8 hgrow8 hlies8);go_must (obtain ⟨hB8,hSA,hSB⟩:=HSTEP.out _ v8 w8 (by rw [HK0.out];exact hown8) hgrow8 hlies8);go_must (have HSA:=hid hSA);go_must (have HSB:=hid hSB);go_must (obtain ⟨a8,c8,rfl,hc8⟩:=own_form hown8);go_must (have h84:w8.cell? ⟨g,4,none⟩=some s1.kv:=hB8.cell (k:=4) rfl);go_must (have h85:w8.cell? ⟨g,5,none⟩=some s1.vv:=hB8.cell (k:=5) rfl);go_must (have h86:w8.cell? ⟨g,6,none⟩=some (.int .i64 (E0:Int)):=by rw [← HOFF.out];exact hB8.cell (k:=6) rfl);go_must (have h87:w8.cell? ⟨g,7,none⟩=some (.int .i64 (s1.poff:Int)):=hB8.cell (k:=7) rfl);go_must (have h811:w8.cell? ⟨g,11,none⟩=some (.int .i64 (s1.dir:Int)):=hB8.cell (k:=11) rfl);go_must (have hf84:=hB8.free 4);go_must (have hf85:=hB8.free 5);go_must (have hf86:=hB8.free 6);go_must (have hf87:=hB8.free 7);go_must (have hf811:=hB8.free 11);clear hown8 hgrow8 hlies8 hB8 hSA hSB)
     go_returns
     refine ⟨?_,?_⟩
     ·rw [HKI.out,decide_eq_true HKH.out];rfl
     ·refine (BITo.trans HFR.out HSUB.out HSB.out).mono ?_;rintro s' k' n' p' ⟨rfl,rfl,rfl,rfl⟩;rw [HKI.out];exact ⟨HREST.out.1,HREST.out.2.1,HREST.out.2.2,fun _=>⟨rfl,HE0.out.symm,HE1.out.symm,HVV.out.symm,_,HEK.out,HJ.out⟩,fun h=>absurd HKH.out h⟩
    ·have hkh2:k=hi:=by omega
     have hfin:BITo g c O w (wr.setCell ⟨g,11,none⟩ (.int .i64 1)) (NextTo q ri p0 es c s nodes pk k hi):=by
      have h2:=h1.setNum { s1 with dir:=1 } 11 (.int .i64 1) rfl rfl rfl rfl;exact ⟨_,O1,key1,nodes1,pk1,h2,⟨hrix,hn1,hp1,fun h=>absurd h hkh,fun _=>⟨rfl,hoff⟩⟩,hfr.setC g 11 _ (.inl rfl),hsub⟩
     have HFIN:=hid hfin;have HKH:=hid hkh;have hz11:wr.cell? ⟨g,11,none⟩=some (.int .i64 (s1.dir:Int)):=h1.blk.cell (k:=11) rfl;have hf11:=h1.blk.free 11;rw [← hkh2] at hz16;generalize hELO:eoff ri p0 es lo=ELO at *;generalize hE0:eoff ri p0 es k=E0 at *;clear h1 hfr hsub hka hoff hrix hn1 hp1 hcut hfin hkh hkh2 hlt hE0 hELO HM;go_upto_region 12 with fail
     go_quiet (fail)
     go_upto_region 23 with fail
     go_quiet (fail)
     go_upto_region 25 with fail
     go_quiet (fail)
     go_wp2
     go_returns
     refine ⟨?_,?_⟩
     ·rw [HKI.out,decide_eq_false HKH.out];rfl
     ·rw [HKI.out];obtain ⟨s',O',k',n',p',q1,q2,q3,q4⟩:=HFIN.out;exact ⟨s',O',k',n',p',q1.keep (fun _ _=>rfl),q2,⟨q3.os,q3.tape,q3.output,q3.size,q3.block⟩,q4⟩
end
section
open Go Go.RowKit Go.Shelf
def FirstTo (q ri:Nat) (p0:Bs) (es:List KV) (c:IC) (lo hi:Nat) (s':IS) (k':Bs) (n':List Nat) (p':Bs):Prop :=
 s'.rix=c.riS∧n'=[]∧p'=[]∧(lo < hi→s'.dir=3∧s'.poff=eoff ri p0 es lo∧s'.off=eoff ri p0 es (lo+1)∧s'.vv=eval' q ri p0 es lo∧∃ e,es[lo]?=some e∧k'=e.1)∧(¬ lo < hi→s'.dir=1∧s'.off=eoff ri p0 es lo)
theorem BI.drop {w:World} {g:Nat} {c:IC} {s:IS} {O:Own} {key:Bs} {nodes:List Nat} {pk:Bs} (h:BI w g c s O key nodes pk) {na pa:Option Addr} {nc pc:Nat} (hn:w.ownsRow 0 3 1 (.slice na 0 nc) 0 []∧(Value.slice na 0 nc).ownBlock=O.r) (hp:w.ownsRow 0 5 1 (.slice pa 0 pc) 0 []∧(Value.slice pa 0 pc).ownBlock=O.p) (d:Nat) :
  BITo g c O w (((w.setCell ⟨g,8,none⟩ (.slice na 0 nc)).setCell ⟨g,9,none⟩ (.slice pa 0 pc)).setCell ⟨g,11,none⟩ (.int .i64 (d:Int))) (fun s' k' n' p'=>s'={ s with nv:=.slice na 0 nc,pv:=.slice pa 0 pc,dir:=d }∧k'=key∧n'=[]∧p'=[]):=by
 obtain ⟨h1,h1o⟩:=h.nodesTo (w1:=w) (Fr.refl _ _) (nodes':=[]) (by simpa [iv] using hn.1) (fun k e=>.inl (by rw [← hn.2,e]));have hgp:∀ k,O.p=some k→k≠g:=h.dis.pb;obtain ⟨h2,h2o⟩:=h1.pkTo (w1:=w.setCell ⟨g,8,none⟩ (.slice na 0 nc)) (Fr.refl _ _) (pk':=[]) (by
  have:=hp.1;exact own_keep (by simpa [bv,Lib.byteCells] using this) (fun k e=>Below.heap_setCell _ _ _ k (by simpa using hgp k (by rw [← hp.2,e])))) (fun k e=>.inl (by show O.p=some k;rw [← hp.2,e]))
 have h3:=h2.setNum { s with nv:=.slice na 0 nc,pv:=.slice pa 0 pc,dir:=d } 11 (.int .i64 (d:Int)) rfl rfl rfl rfl;refine ⟨_,_,key,[],[],h3,⟨rfl,rfl,rfl,rfl⟩,(((Fr.refl (fun k=>k=g∨O.has k) w).setC g 8 _ (.inl rfl)).setC g 9 _ (.inl rfl)).setC g 11 _ (.inl rfl),fun k hk=>?_⟩;rcases h2o k hk with hk | hk
 ·exact h1o k hk
 ·simp at hk;exact .inr hk
theorem BI.cuts {w:World} {g:Nat} {c:IC} {s:IS} {O:Own} {key:Bs} {nodes:List Nat} {pk:Bs} (h:BI w g c s O key nodes pk):∃ na nc pa pc,
  (∀ w',(Instr.slice 224 s.nv none (some (.int .i64 0)) none).run Tryz.prog w'=.ok (.slice na 0 nc) w')∧(∀ w',(Instr.slice 29 s.pv none (some (.int .i64 0)) none).run Tryz.prog w'=.ok (.slice pa 0 pc) w') ∧
  (w.ownsRow 0 3 1 (.slice na 0 nc) 0 []∧(Value.slice na 0 nc).ownBlock=O.r)∧(w.ownsRow 0 5 1 (.slice pa 0 pc) 0 []∧(Value.slice pa 0 pc).ownBlock=O.p):=by
 obtain ⟨na,nc,hnv,hncap,hno,hnob⟩:=own_take h.nodes 0 (Nat.zero_le _);obtain ⟨pa,pc,hpv,hpcap,hpo,hpob⟩:=own_take h.pk 0 (Nat.zero_le _);refine ⟨na,nc,pa,pc,fun w'=>?_,fun w'=>?_,⟨by simpa using hno,hnob.trans h.nodesO⟩,⟨by simpa using hpo,hpob.trans h.pkO⟩⟩
 ·rw [hnv];exact run_slice_hi (P:=Tryz.prog) 224 3 un224 sz3 .i64 na nodes.length nc 0 (by omega) w'
 ·rw [hpv];exact run_slice_hi (P:=Tryz.prog) 29 5 un29 sz5 .i64 pa pk.length pc 0 (by omega) w'
set_option maxHeartbeats 4000000 in
theorem bfirst_any (w:World) (g:Nat) (c:IC) (s:IS) (O:Own) (key:Bs) (nodes:List Nat) (pk:Bs) (h:BI w g c s O key nodes pk) (q off len ri:Nat) (p0:Bs) (es:List KV) (hE:BE w c.p q off len ri p0 es) (hap:c.p≠g∧q≠g∧¬ O.has c.p∧¬ O.has q)
  (lo hi st:Nat) (hlo:c.oR=eoff ri p0 es lo) (hhi:c.oL=eoff ri p0 es hi) (hlh:lo≤hi) (hhm:hi≤es.length) (hdir:s.dir≤3) (hnp:s.dir≠2→nodes=[]∧pk=[]) (hst:c.oS=eoff ri p0 es st) (hsr:st < es.length→st % ri=0) (hsh:st≤lo) :
  Calls Tryz.prog 171 #[.pointer (some ⟨g,0,none⟩)] w fun e w'=>e=.returned (.bool (decide (lo < hi)))∧BITo g c O w w' (FirstTo q ri p0 es c lo hi):=by
 have hz11:w.cell? ⟨g,11,none⟩=some (.int .i64 (s.dir:Int)):=h.blk.cell (k:=11) rfl;have hz17:w.cell? ⟨g,17,none⟩=some .nilIface:=h.blk.cell (k:=17) rfl;have hz8:w.cell? ⟨g,8,none⟩=some s.nv:=h.blk.cell (k:=8) rfl;have hz9:w.cell? ⟨g,9,none⟩=some s.pv:=h.blk.cell (k:=9) rfl;have hf8:=h.blk.free 8;have hf9:=h.blk.free 9;have hf11:=h.blk.free 11;obtain ⟨na,nc,pa,pc,hsln,hslp,hno,hpo⟩:=h.cuts;have hmx:max st lo=lo:=by omega
 have hnx:∀ w1,BITo g c O w w1 (fun s' _ n' p'=>s'.dir=0∧n'=[]∧p'=[])→Calls Tryz.prog 60 #[.pointer (some ⟨g,0,none⟩)] w1 fun e w'=>e=.returned (.bool (decide (lo < hi)))∧BITo g c O w w' (FirstTo q ri p0 es c lo hi):=by
  rintro w1 ⟨s1,O1,k1,n1,p1,h1,⟨hd,rfl,rfl⟩,hf,hO⟩;have hE1:BE w1 c.p q off len ri p0 es:=hE.keep (hf.block _ hE.rb.blk.lt (by rintro (e | e);exact hap.1 e;exact hap.2.2.1 e)) (hf.block _ hE.rb.qlt (by rintro (e | e);exact hap.2.1 e;exact hap.2.2.2 e));have hap1:c.p≠g∧q≠g∧¬ O1.has c.p∧¬ O1.has q:=⟨hap.1,hap.2.1,fun e=>(hO _ e).elim hap.2.2.1 (fun h'=>by have:=hE.rb.blk.lt;omega),fun e=>(hO _ e).elim hap.2.2.2 (fun h'=>by have:=hE.rb.qlt;omega)⟩
  have hn:=bnext_any w1 g c s1 O1 k1 [] [] h1 q off len ri p0 es hE1 hap1 lo hi st hlo hhi hlh hhm (.inl hd) (by rw [if_pos hd];exact hst) (fun h=>.inl (hsr h)) (by omega);rw [hmx] at hn;refine hn.mono ?_;rintro e w' ⟨rfl,hb⟩;refine ⟨rfl,(BITo.trans hf hO hb).mono ?_⟩;rintro s' k' n' p' ⟨q1,q2,q3,q4,q5⟩;rw [if_pos hd] at q1;rw [if_neg (by omega)] at q2 q3;exact ⟨q1,q2,q3,q4,q5⟩
 have HNX:=hid hnx;have hdr:BITo g c O w (((w.setCell ⟨g,8,none⟩ (.slice na 0 nc)).setCell ⟨g,9,none⟩ (.slice pa 0 pc)).setCell ⟨g,11,none⟩ (.int .i64 0)) (fun s' _ n' p'=>s'.dir=0∧n'=[]∧p'=[]):=(h.drop hno hpo 0).mono (by rintro s' k' n' p' ⟨rfl,rfl,rfl,rfl⟩;exact ⟨rfl,rfl,rfl⟩);have hsd:s.dir≠2→BITo g c O w (w.setCell ⟨g,11,none⟩ (.int .i64 0)) (fun s' _ n' p'=>s'.dir=0∧n'=[]∧p'=[]):=fun hd=>by
  have h3:=h.setNum { s with dir:=0 } 11 (.int .i64 0) rfl rfl rfl rfl;exact ⟨_,O,key,nodes,pk,h3,⟨rfl,(hnp hd).1,(hnp hd).2⟩,(Fr.refl (fun k=>k=g∨O.has k) w).setC g 11 _ (.inl rfl),fun _ h=>.inl h⟩
 by_cases hd2:s.dir=2
 ·have hcall:=HNX.out _ hdr;rw [hd2] at hz11;clear hdr hsd hnp hdir hd2 h hno hpo hnx hE hap;go_enter Tryz.func171,Tryz.ntmps171
  go_wp2_with fail
  refine hcall.mono ?_;rintro e w' ⟨rfl,hb⟩;have HB:=hid hb;clear hb hcall;dsimp only;go_wp2
  go_ret
  exact ⟨rfl,HB.out⟩
 ·have hcall:=HNX.out _ (hsd hd2);have hdn2:((s.dir:Int) == 2)=false:=by rw [beq_eq_false_iff_ne];omega
  have hdnm:((s.dir:Int) == -1)=false:=by rw [beq_eq_false_iff_ne];omega
  clear hdr hsd hnp hdir hd2 h hno hpo hnx hE hap;go_enter Tryz.func171,Tryz.ntmps171
  go_wp2_with fail
  refine hcall.mono ?_;rintro e w' ⟨rfl,hb⟩;have HB:=hid hb;clear hb hcall;dsimp only;go_wp2
  go_ret
  exact ⟨rfl,HB.out⟩
end
end Go.Proofs.YtmkdpjicgjhhjaaGreatDoor
