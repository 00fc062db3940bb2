/- Part 14 of the proof of FnTableComesBack: contracts and lemmas, each under the conditions that it states. Texts: WBlock, WSt. -/
import Derived.Test.YtmkdpjicgjhhjaaGreatDoorC13
namespace Go.Proofs.YtmkdpjicgjhhjaaGreatDoor
open Go.Lib (hid)
set_option maxRecDepth 100000
set_option linter.all false
section
open Go Go.RowKit Go.Shelf
def sealB (l:List UInt8):List UInt8:=l++[0]++Lib.leBytes 4 (crcOf (l++[0]))
theorem sealB_length (l:List UInt8):(sealB l).length=l.length+5:=by
 unfold sealB;rw [List.length_append,List.length_append,leBytes_length];rfl
theorem BB.keep {w w2:World} {bb:Nat} {l:List UInt8} {v:Value} (h:BB w bb l v) (hb:w2.heap[bb]?=w.heap[bb]?) (hv:∀ k,v.ownBlock=some k→w2.heap[k]?=w.heap[k]?):BB w2 bb l v:=by
 obtain ⟨lr,hB⟩:=h.blk;exact ⟨⟨lr,hb.trans hB⟩,own_keep h.own hv,h.ne⟩
def WRes (b bb o off:Nat) (C:Array Value) (F:Option Nat) (l:List UInt8) (v:Value) (f:List UInt8) (w w':World):Prop :=
 ∃ C' F' v',UB w' b C' 117 o F' (sealB l)∧C'.size=C.size∧(∀ k,¬ (o≤k∧k < o+66)→k≠219→C'[k]?=C[k]?)∧C'[219]?=some (.int .u64 (off+(l.length+5):Nat))∧BB w' bb (f++sealB l) v' ∧
  Fr (fun k=>k=b∨F=some k∨k=bb∨v.ownBlock=some k) w w'∧(∀ k,F'=some k→F=some k∨w.heap.size≤k)∧(∀ k,v'.ownBlock=some k→v.ownBlock=some k∨w.heap.size≤k)∧(∀ k,F'=some k→v'.ownBlock≠some k)∧v'.ownBlock≠some b
set_option maxHeartbeats 4000000 in
theorem writeBlock_any (w:World) (b bb o off:Nat) (C:Array Value) (F:Option Nat) (l f:List UInt8) (v:Value) (hu:UB w b C 117 o F l) (ho1:1≤o) (ho2:o+66≤219) (hcs:219 < C.size) (hw0:C[0]?=some (.iface 53 (.pointer (some ⟨bb,0,none⟩)))) (hoff:C[219]?=some (.int .u64 off))
  (hB:BB w bb f v) (hpos:f=[]→v=.slice none 0 0) (hbb:bb≠b) (hFb:F≠some bb) (hvb:v.ownBlock≠some b) (hFv:∀ k,F=some k→v.ownBlock≠some k) (hl:l.length≤536870912) (hf:f.length≤536870912) (hofl:off≤536870912) :
  Calls Tryz.prog 50 #[.pointer (some ⟨b,0,none⟩),.pointer (some ⟨b,o,none⟩),.int .u64 1] w fun e w'=>e=.returned (.tuple #[.agg #[.int .u64 off,.int .u64 l.length],.nilIface])∧WRes b bb o off C F l v f w w':=by
 have hfr0:Fr (fun _=>False) w (w.alloc (.cells #[.int .u64 0,.int .u64 0] 114)):=(Fr.refl (fun _=>False) w).alloc _;have hu0:=hu.alloc (.cells #[.int .u64 0,.int .u64 0] 114);have hp0:=Blk.new w #[.int .u64 0,.int .u64 0] 114;have hal:=alloc_any _ b o 5 C 117 F l hu0 (by omega) (by omega);have hbl:=hu.blk.lt;have hbbl:bb < w.heap.size:=by obtain ⟨lr,h⟩:=hB.blk;exact h.lt
 have HU:=hid hu;have HB:=hid hB;go_enter Tryz.func50,Tryz.ntmps50
 go_wp2_with (go_at_call 93;refine hal.mono ?_)
 rintro e w1 ⟨C1,F1,junk,g,go,c,G,E,rfl,hj,hu1,hv1,hm,hlc,hcc,hl1,hs1,hC1,hf1,hF1⟩;have hjl:(l++junk).length=l.length+5:=by rw [List.length_append,hj]
 obtain ⟨C2,hu2,hs2,hC2⟩:=hu1.put hv1 hm (by omega) hcc hl1 l.length [0] (by rw [hjl];simp);have e2:(l++junk).take l.length++[0]++(l++junk).drop (l.length+[(0:UInt8)].length)=(l++[0])++junk.drop 1:=by
  rw [List.take_left,show (l++junk).drop (l.length+[(0:UInt8)].length)=junk.drop 1 from by rw [List.drop_append];simp]
 rw [e2] at hu2;have hfit:=hm.fit;have hset:splice G (go+l.length) (bv [0])=G.setIfInBounds (go+l.length) (.int .u8 0):=by
  apply Array.ext_getElem?
  intro i;have hf:go+l.length+(bv [(0:UInt8)]).length≤G.size:=by rw [bv_length];simp;omega
  by_cases e:i=go+l.length
  ·subst e;have:=splice_in hf (j:=0) (by simp [bv_length]);rw [Nat.add_zero] at this;rw [this,Array.getElem?_setIfInBounds_self_of_lt (by omega),bv_get];rfl
  ·rw [splice_out hf (by rw [bv_length];simp;omega),Array.getElem?_setIfInBounds_ne (by omega)]
 rw [hset,← setCell_eq_setRow w1 g (go+l.length) G E (0,0) _ hm.blk] at hu2;have hl2:((l++[0])++junk.drop 1).length=l.length+5:=by simp [hj]
 have hv2:C2[o]?=some (.slice (some ⟨g,go,none⟩) ((l++[0])++junk.drop 1).length c):=by rw [hC2 o (by omega),hv1,hl2,hjl]
 obtain ⟨x0,hx0⟩:=hm.by_ l.length (by omega);have hcx:=hm.blk.cell hx0;have hfx:=hm.blk.free (go+l.length);have hgb:g=b∨(F1=some g∧g≠b):=by
  rcases hm.alt with ⟨e,_⟩ | ⟨e,e',_⟩
  ·exact .inl e
  ·exact .inr ⟨e,e'⟩
 have hfr1:Fr (fun k=>k=b∨F=some k) w w1:=(hfr0.mono (S':=fun k=>k=b∨F=some k) (fun _ _ h=>h.elim)).trans hf1 (fun k _ h=>.inl h);have hF1':∀ k,F1=some k→F=some k∨w.heap.size < k:=fun k hk=>(hF1 k hk).imp id (fun h=>by simp at h;omega)
 have hgS:g < w.heap.size→g=b∨F=some g:=fun hlt=>by
  rcases hgb with e | ⟨e,_⟩
  ·exact .inl e
  ·rcases hF1' g e with h | h
   ·exact .inr h
   ·omega
 have hgp:g≠w.heap.size:=fun e=>by
  rcases hgb with h | ⟨h,_⟩
  ·omega
  ·rcases hF1 g h with h | h
   ·have:=(hu.lt h).1;omega
   ·simp at h;omega
 obtain ⟨w2,hw2⟩:∃ w2,w2=w1.setCell ⟨g,go+l.length,none⟩ (.int .u8 0):=⟨_,rfl⟩;rw [← hw2] at hu2;have hfr2:Fr (fun k=>k=b∨F=some k) w w2:=by rw [hw2];exact hfr1.setCell (p:=⟨g,go+l.length,none⟩) hgS _
 have hp2:Blk w2 w.heap.size #[.int .u64 0,.int .u64 0] 114:=by
  have hp1:Blk w1 w.heap.size #[.int .u64 0,.int .u64 0] 114:=(hf1.block w.heap.size (by simp) (by omega)).trans hp0;rw [hw2];exact hp1.other _ (Ne.symm hgp)
 have hby:=bytes_any w2 b o C2 117 F1 _ hu2 (some ⟨g,go,none⟩) c hv2;rw [hl2] at hby;have hsp2:=hu2.sl hv2;rw [hl2] at hsp2;have hS2:Sl w2 (some ⟨g,go,none⟩) (l.length+1) c (l++[0]):=by
  have:=hsp2.take (hi:=l.length+1) (by omega);refine this.of_eq ?_;rw [List.take_append_of_le_length (by simp),List.take_of_length_le (by simp)]
 have hcrc:=fun k=>newcrc_any (some ⟨g,go,none⟩) (l.length+1) c (l++[0]) (w2.drewN k) (hS2.fr (S:=fun _=>False) ((Fr.refl _ _).drewN k) (fun _ _ h=>h)) (by omega)
 have hmask:∀ w',Calls Tryz.prog 98 #[.int .u32 (crcRaw (l++[0]))] w' fun e w''=>e=.returned (.int .u32 (crcOf (l++[0]):Nat))∧w'=w'':=fun w'=>mask_any (crcRaw (l++[0])) w'
 have hcl:=crcOf_lt (l++[0]);have hcr:=crcRaw_lt (l++[0]);have hslN:∀ w',(Instr.slice 29 (.slice (some ⟨g,go,none⟩) (l.length+5) c) none (some (.int .i64 ((l.length:Int)+1))) none).run Tryz.prog w'=.ok (.slice (some ⟨g,go,none⟩) (l.length+1) c) w':=fun w'=>run_slice_hi (P:=Tryz.prog) 29 5 un29 sz5 .i64 (some ⟨g,go,none⟩) (l.length+5) c (l.length+1) (by omega) w'
 have hslL:∀ w',(Instr.slice 29 (.slice (some ⟨g,go,none⟩) (l.length+5) c) (some (.int .i64 ((l.length:Int)+1))) none none).run Tryz.prog w'=.ok (.slice (some ⟨g,go+(l.length+1),none⟩) 4 (c - (l.length+1))) w':=fun w'=>by
  have:=run_slice_lo (P:=Tryz.prog) 29 5 un29 sz5 .i64 (some ⟨g,go,none⟩) (l.length+5) c (l.length+1) (by omega) w';rwa [show l.length+5 - (l.length+1)=4 by omega,cutA_some (by omega)] at this
 have hw5:IntKind.i64.wrap ((l.length:Int)+5 - 4)=(l.length:Int)+1:=by rw [show ((l.length:Int)+5 - 4)=((l.length+1:Nat):Int) by omega];rw [IntWalk.i64_in _ (by omega)];omega
 have h15:(0:Int) < 5:=by omega
 have HU2:=hid hu2;have HV2:=hid hv2;have HM:=hid hm;have HS2:=hid (And.intro hs1 hs2);have HC2:=hid (And.intro hC1 hC2);have HF2:=hid hfr2;have HP2:=hid hp2;have HFF:=hid hF1';have HGS:=hid hgS;have HW2:=hid hw2;clear hu hB hu0 hal hu1 hv1 hm hl1 hs1 hC1 hf1 hF1 hu2 hs2 hC2 hv2 hset e2 hjl hfr0 hfr1 hfr2 hp0 hp2 hF1' hsp2 hS2 hx0 hfit hgS;go_wp2_with fail
 rw [← HW2.out];clear HW2 hw2 hcx hfx;refine hby.mono ?_;rintro e w3 ⟨rfl,k3,rfl⟩;clear hby;go_wp2_with (first | (go_at_call 97;refine (hcrc _).mono ?_;rintro e w4 ⟨rfl,hf4⟩) | (go_at_call 98;refine (hmask _).mono ?_;rintro e w5 ⟨rfl,rfl⟩))
 have hf4':Fr (fun _=>False) w2 w4:=⟨hf4.os,hf4.tape,hf4.output,hf4.size,hf4.block⟩;clear hcrc hmask hf4;have hu4:UB w4 b C2 117 o F1 ((l++[0])++junk.drop 1):=HU2.out.keep (HU2.out.blk.fr hf4' (fun h=>h)) rfl (fun _ _ _=>rfl) (fun k hk=>hf4'.block k (HU2.out.lt hk).1 (fun h=>h));obtain ⟨g',go',G3,E3,he3,hm3,hl3,hc3⟩:=hu4.home HV2.out (by rw [hl2];omega);simp only [Option.some.injEq,Addr.mk.injEq,and_true] at he3
 obtain ⟨rfl,rfl⟩:=he3;have hfit3:=hm3.fit;have hpu:=fun k=>putUint32_any g (go+(l.length+1)) 4 (c - (l.length+1)) (crcOf (l++[0])) hcl (w4.drewN k) G3 E3 (hm3.blk.drewN k) (by omega) (by omega)
 obtain ⟨C4,hu5,hs5,hC5⟩:=(hu4.alloc (.cells #[] 204)).put HV2.out (hm3.alloc (.cells #[] 204)) (by rw [hl2];omega) hcc hl3 (l.length+1) (Lib.leBytes 4 (crcOf (l++[0]))) (by rw [leBytes_length,hl2];omega);have e5:((l++[0])++junk.drop 1).take (l.length+1)++Lib.leBytes 4 (crcOf (l++[0]))++((l++[0])++junk.drop 1).drop (l.length+1+(Lib.leBytes 4 (crcOf (l++[0]))).length)=sealB l:=by
  have hd:((l++[0])++junk.drop 1).drop (l.length+1+(Lib.leBytes 4 (crcOf (l++[0]))).length)=[]:=List.drop_eq_nil_of_le (by rw [hl2,leBytes_length];omega);have ht:((l++[0])++junk.drop 1).take (l.length+1)=l++[0]:=by
   have h1:l.length+1=(l++[0]).length:=by simp
   rw [h1,List.take_left]
  rw [hd,ht,List.append_nil];rfl
 rw [e5] at hu5;obtain ⟨W5,hW5⟩:∃ W5,W5=(w4.alloc (.cells #[] 204)).setRow g (splice G3 (go+(l.length+1)) (bv (Lib.leBytes 4 (crcOf (l++[0]))))):=⟨_,rfl⟩;rw [← hW5] at hu5;have hpu':∀ k,Calls Tryz.prog 94 #[.agg #[],.slice (some ⟨g,go+(l.length+1),none⟩) 4 (c - (l.length+1)),.int .u32 (crcOf (l++[0]):Nat)] (w4.drewN k) fun e w'=>e=.returned (.tuple #[])∧w'=W5.drewN k:=fun k=>(hpu k).mono (fun e w' h=>⟨h.1,by rw [← h.2,hW5];rfl⟩)
 have hfr5:Fr (fun k=>k=b∨F=some k) w W5:=by
  rw [hW5];exact ((HF2.out.trans (hf4'.mono (S':=fun k=>k=b∨F=some k) (fun _ _ h=>h.elim)) (fun _ _ h=>h)).alloc _).setRow (fun h=>HGS.out h) _
 have hp5:Blk W5 w.heap.size #[.int .u64 0,.int .u64 0] 114:=by
  rw [hW5];exact (setRow_other _ g _ _ (Ne.symm hgp)).trans ((HP2.out.fr hf4' (fun h=>h)).alloc _)
 have hv5:C4[o]?=some (.slice (some ⟨g,go,none⟩) (sealB l).length c):=by rw [hC5 o (by omega),HV2.out,hl2,sealB_length]
 have hsl5:=hu5.sl hv5;rw [sealB_length] at hsl5;have hB5:BB W5 bb f v:=HB.out.keep (hfr5.block bb hbbl (by rintro (e | e);exact hbb e;exact hFb e)) (fun k hk=>hfr5.block k (own_lt HB.out.own hk) (by rintro (e | e);exact hvb (e ▸ hk);exact hFv k e hk));have hwr:=fun k=>bwrite_any (W5.drewN k) bb f v (hB5.keep rfl (fun _ _=>rfl)) hpos (some ⟨g,go,none⟩) (l.length+5) c (sealB l) (hsl5.fr (S:=fun _=>False) ((Fr.refl _ _).drewN k) (fun _ _ h=>h)) (fun q hq=>by
  obtain rfl:=Option.some.inj hq;rcases hgb with e | ⟨e,_⟩
  ·exact fun h=>hbb (h.symm.trans e)
  ·intro h;have h':g=bb:=h;rcases HFF.out g e with h2 | h2
   ·exact hFb (h' ▸ h2)
   ·omega) (by omega) (by omega)
 have hC0:C4[0]?=C[0]?:=by rw [hC5 0 (by omega),HC2.out.2 0 (by omega),HC2.out.1 0 (by omega)]
 have hC219:C4[219]?=C[219]?:=by rw [hC5 219 (by omega),HC2.out.2 219 (by omega),HC2.out.1 219 (by omega)]
 have hz0:=hu5.blk.cell (hC0.trans hw0);have HU5:=hid hu5;have HF5:=hid hfr5;have HP5:=hid hp5;have HC5:=hid hC5;have HS5:=hid hs5;have HC219:=hid (hC219.trans hoff);have HB5:=hid hB5;have HFV:=hid hFv;clear hu5 hfr5 hp5 hC5 hs5 hC219 hpu hW5 hm3 hl3 hu4 hf4' hsl5 hv5 e5 hC0 hB5 hw0 hoff hFv hpos;generalize crcOf (l++[0])=cr at *;refine wp_tail 5 (by kernel_rfl) ?_;simp only [List.take_succ_cons,List.take_zero,List.drop_succ_cons,List.drop_zero]
 repeat still_step
 refine wpStill_nil ?_;go_wp2_with (go_at_call 94;refine (hpu' _).mono ?_;rintro e w6 ⟨rfl,rfl⟩)
 refine (hwr _).mono ?_;rintro e w6 ⟨rfl,v',hbv,hf6,hn6⟩;have hf6':Fr (fun k=>k=bb∨v.ownBlock=some k) W5 w6:=⟨hf6.os,hf6.tape,hf6.output,hf6.size,hf6.block⟩;have hn6':∀ k,v'.ownBlock=some k→v.ownBlock=some k∨W5.heap.size≤k:=hn6;clear hf6 hn6 hwr hpu';have hB6:Blk w6 b C4 117:=HU5.out.blk.fr hf6' (by rintro (e | e);exact hbb e.symm;exact hvb e);have hP6:Blk w6 w.heap.size #[.int .u64 0,.int .u64 0] 114:=HP5.out.fr hf6' (by rintro (e | e);omega;have:=own_lt HB.out.own e;omega)
 have h219:=hB6.cell HC219.out;have hfz:=hB6.free 219;have hp60:=hP6.cell (k:=0) rfl;have hp61:=hP6.cell (k:=1) rfl;have hpf0:=hP6.free 0;have hpf1:=hP6.free 1;have hpb:¬ b=w.heap.size:=by omega
 have hpb2:¬ w.heap.size=b:=by omega
 have HB6:=hid hB6;have HBV:=hid hbv;have HF6:=hid hf6';have HN6:=hid hn6';have HP6:=hid hP6;clear hB6 hbv hf6' hn6' hP6;have hfin:WRes b bb o off C F l v f w (((w6.setCell ⟨w.heap.size,0,none⟩ (.int .u64 off)).setCell ⟨w.heap.size,1,none⟩ (.int .u64 l.length)).setCell ⟨b,219,none⟩ (.int .u64 ((off:Int)+((l.length:Int)+5)))):=by
  have hst:∀ k,k≠b→k≠w.heap.size→(((w6.setCell ⟨w.heap.size,0,none⟩ (.int .u64 off)).setCell ⟨w.heap.size,1,none⟩ (.int .u64 l.length)).setCell ⟨b,219,none⟩ (.int .u64 ((off:Int)+((l.length:Int)+5)))).heap[k]?=w6.heap[k]?:=fun k h1 h2 =>
   (Below.heap_setCell _ _ _ k (by simpa using h1)).trans ((Below.heap_setCell _ _ _ k (by simpa using h2)).trans (Below.heap_setCell _ _ _ k (by simpa using h2)))
  have hsz5:=HP5.out.lt;have hsz6:=HF6.out.size;have hvl:∀ k,v.ownBlock=some k→k < w.heap.size:=fun k hk=>own_lt HB.out.own hk
  have hB7:Blk (((w6.setCell ⟨w.heap.size,0,none⟩ (.int .u64 off)).setCell ⟨w.heap.size,1,none⟩ (.int .u64 l.length)).setCell ⟨b,219,none⟩ (.int .u64 ((off:Int)+((l.length:Int)+5)))) b (C4.setIfInBounds 219 (.int .u64 ((off:Int)+((l.length:Int)+5)))) 117 :=
   ((HB6.out.other _ hpb).other _ hpb).set 219 _
  have hcs4:C4.size=C.size:=by have:=HS5.out;have:=HS2.out.1;have:=HS2.out.2;omega
  have hv'b:v'.ownBlock≠some b:=fun e=>by
   rcases HN6.out b e with h | h
   ·exact hvb h
   ·omega
  refine ⟨C4.setIfInBounds 219 (.int .u64 ((off:Int)+((l.length:Int)+5))),F1,v',?_,by simpa using hcs4,fun k h1 h2=>?_,?_,?_,?_,fun k hk=>(HFF.out k hk).imp id (fun h=>by omega),fun k hk=>(HN6.out k hk).imp id (fun h=>by omega),fun k hk e=>?_,hv'b⟩
  ·refine HU5.out.keep hB7 (by simp) (fun k h1 h2=>Array.getElem?_setIfInBounds_ne (by omega)) (fun k hk=>?_);have hkb:=(HU5.out.lt hk).2;have hk2:k≠w.heap.size∧k≠bb∧v.ownBlock≠some k:=by
    rcases HFF.out k hk with h | h
    ·exact ⟨by have:=(HU.out.lt h).1;omega,fun e=>hFb (e ▸ h),HFV.out k h⟩
    ·exact ⟨by omega,by omega,fun e=>by have:=hvl k e;omega⟩
   exact (hst k hkb hk2.1).trans (HF6.out.block k (HU5.out.lt hk).1 (by rintro (e | e);exact hk2.2.1 e;exact hk2.2.2 e))
  ·rw [Array.getElem?_setIfInBounds_ne (by omega),HC5.out k (by omega),HC2.out.2 k (by omega),HC2.out.1 k (by omega)]
  ·rw [Array.getElem?_setIfInBounds_self_of_lt (by omega)];simp
  ·refine HBV.out.keep (hst bb hbb (by omega)) (fun k hk=>hst k (fun e=>hv'b (e ▸ hk)) ?_);rcases HN6.out k hk with h | h
   ·have:=hvl k h;omega
   ·omega
  ·have h1:Fr (fun k=>k=b∨F=some k∨k=bb∨v.ownBlock=some k) w w6:=(HF5.out.mono (S':=fun k=>k=b∨F=some k∨k=bb∨v.ownBlock=some k) (fun k _ h=>h.elim .inl (fun h=>.inr (.inl h)))).trans HF6.out (fun k _ h=>.inr (.inr h));exact ((h1.setCell (p:=⟨w.heap.size,0,none⟩) (fun h=>by simp at h) _).setCell (p:=⟨w.heap.size,1,none⟩) (fun h=>by simp at h) _).setC b 219 _ (.inl rfl)
  ·rcases HN6.out k e with h | h
   ·rcases HFF.out k hk with h2 | h2
    ·exact HFV.out k h2 h
    ·have:=hvl k h;omega
   ·have:=(HU5.out.lt hk).1;omega
 have HFIN:=hid hfin;clear hfin;have hP7:Blk (((w6.setCell ⟨w.heap.size,0,none⟩ (.int .u64 off)).setCell ⟨w.heap.size,1,none⟩ (.int .u64 l.length)).setCell ⟨b,219,none⟩ (.int .u64 ((off:Int)+((l.length:Int)+5)))) w.heap.size #[.int .u64 off,.int .u64 l.length] 114:=by
  have h:=((HP6.out.set 0 (.int .u64 off)).set 1 (.int .u64 l.length)).other (p:=⟨b,219,none⟩) (.int .u64 ((off:Int)+((l.length:Int)+5))) hpb2;simpa using h
 have HQ0:=hid (hP7.cell (k:=0) rfl);have HQ1:=hid (hP7.cell (k:=1) rfl);clear hP7;go_wp2
 refine bodyPost_ret (by simp [results,Tryz.results50,go_sem,HQ0.out,HQ1.out];rfl) rfl ?_;exact ⟨rfl,HFIN.out⟩
end
section
open Go Go.RowKit Go.Shelf
structure WS where
 file:List UInt8
 data:BWS
 index:BWS
 filt:Option FS
 po:Nat
 pl:Nat
 ent:Nat
def FiltIn (w:World) (b:Nat) (C:Array Value) (n:Nat) (OF:FOwn):Option FS→Prop
 | some fs=>FB w b C 117 148 n OF fs.raw∧C[3]?=some (.iface 194 (.int .i64 n))
 | none=>C[148]?=some .nilIface∧C[149]?=some (.slice none 0 0)∧C[150]?=some (.int .i64 0)∧C[3]?=some .nilIface
def FiltHas (OF:FOwn):Option FS→Nat→Prop
 | some _,k=>OF.has k
 | none,_=>False
structure WW (base:Nat) (w:World) (b bb bs n:Nat) (lab:Nat→Nat) (C:Array Value) (OD OI:Own) (OF:FOwn) (s:WS):Prop where
 data:BW w b C 117 6 241 OD s.data
 index:BW w b C 117 77 241 OI s.index
 filt:FiltIn w b C n OF s.filt
 size:C.size=273
 wr:C[0]?=some (.iface 53 (.pointer (some ⟨bb,0,none⟩)))
 err:C[1]?=some .nilIface
 cmp:C[2]?=some (.iface 192 (.agg #[]))
 comp:C[4]?=some (.int .u64 1)
 bsz:C[5]?=some (.int .i64 bs)
 po:C[217]?=some (.int .u64 s.po)
 pl:C[218]?=some (.int .u64 s.pl)
 off:C[219]?=some (.int .u64 s.file.length)
 ent:C[220]?=some (.int .i64 s.ent)
 cscr:∃ v m cs,C[271]?=some v∧w.ownsRow 0 5 1 v m cs∧∀ k,v.ownBlock=some k→lab k=4
 bf:∃ v,BB w bb s.file v∧(s.file=[]→v=.slice none 0 0)∧∀ k,v.ownBlock=some k→lab k=6
 labB:lab b=7
 labF:lab bb=5
 labD:∀ k,OD.has k→lab k=1
 labI:∀ k,OI.has k→lab k=2
 labL:∀ k,FiltHas OF s.filt k→lab k=3
 low:∀ k,lab k≠0→base≤k
def WIn (base:Nat) (w:World) (b bb bs n:Nat) (s:WS):Prop:=∃ lab C OD OI OF,WW base w b bb bs n lab C OD OI OF s
def WOut (base:Nat) (w w':World) (b bb bs n:Nat) (lab:Nat→Nat) (s:WS):Prop :=
 (∃ lab' C OD OI OF,WW base w' b bb bs n lab' C OD OI OF s∧∀ k,k < w.heap.size→lab' k=lab k)∧Below base w w'
theorem WOut.win {base:Nat} {w w':World} {b bb bs n:Nat} {lab:Nat→Nat} {s:WS} (h:WOut base w w' b bb bs n lab s):WIn base w' b bb bs n s:=by
 obtain ⟨⟨lab',C,OD,OI,OF,h,_⟩,_⟩:=h;exact ⟨lab',C,OD,OI,OF,h⟩
theorem FiltIn.keep {w w2:World} {b:Nat} {C C2:Array Value} {n:Nat} {OF:FOwn} {x:Option FS} (h:FiltIn w b C n OF x) (hB:Blk w2 b C2 117) (hs:C2.size=C.size) (hC:∀ k,148≤k→k < 217→C2[k]?=C[k]?) (h3:C2[3]?=C[3]?)
  (hF:∀ k,FiltHas OF x k→w2.heap[k]?=w.heap[k]?):FiltIn w2 b C2 n OF x:=by
 cases x with
 | none=>exact ⟨by rw [hC _ (by omega) (by omega)];exact h.1,by rw [hC _ (by omega) (by omega)];exact h.2.1,by rw [hC _ (by omega) (by omega)];exact h.2.2.1,by rw [h3];exact h.2.2.2⟩
 | some fs=>exact ⟨h.1.keep hB hs (fun k h1 h2=>hC k h1 (by omega)) hF,by rw [h3];exact h.2⟩
theorem FiltIn.lt {w:World} {b:Nat} {C:Array Value} {n:Nat} {OF:FOwn} {x:Option FS} (h:FiltIn w b C n OF x) {k:Nat} (hk:FiltHas OF x k):k < w.heap.size:=by
 cases x with
 | none=>exact hk.elim
 | some fs=>exact h.1.lt hk
def relab (w:World) (lab:Nat→Nat) (i:Nat) (k:Nat):Nat:=if k < w.heap.size then lab k else i
theorem relab_old {w:World} {lab:Nat→Nat} {i k:Nat} (h:k < w.heap.size):relab w lab i k=lab k:=if_pos h
theorem relab_new {w:World} {lab:Nat→Nat} {i k:Nat} (h:w.heap.size≤k):relab w lab i k=i:=if_neg (by omega)
theorem WW.dataTo {base:Nat} {w w':World} {b bb bs n:Nat} {lab:Nat→Nat} {C:Array Value} {OD OI:Own} {OF:FOwn} {s:WS} (h:WW base w b bb bs n lab C OD OI OF s) {d':BWS} (hd:BWTo b C 117 6 241 OD d' w w') :
  WOut base w w' b bb bs n lab { s with data:=d' }:=by
 obtain ⟨C',O',hb,hsz,hC,hf,hO⟩:=hd;have hbl:=h.data.ub.blk.lt;obtain ⟨v4,m4,cs4,hv4,ho4,hl4⟩:=h.cscr;obtain ⟨v6,hB6,hp6,hl6⟩:=h.bf;have hbbl:bb < w.heap.size:=by obtain ⟨lr,hx⟩:=hB6.blk;exact hx.lt
 have hk:∀ k,k < w.heap.size→lab k≠7→lab k≠1→w'.heap[k]?=w.heap[k]?:=fun k h1 h2 h3=>hf.block k h1 (by
  rintro (e | e)
  ·exact h2 (e ▸ h.labB)
  ·exact h3 (h.labD k e))
 have hIl:∀ k,OI.has k→k < w.heap.size:=fun k hk=>h.index.lt hk
 have hLl:∀ k,FiltHas OF s.filt k→k < w.heap.size:=fun k hk=>h.filt.lt hk
 have hDl:∀ k,OD.has k→k < w.heap.size:=fun k hk=>h.data.lt hk
 have hbase:base≤b:=h.low b (by rw [h.labB];decide);refine ⟨⟨relab w lab 1,C',O',OI,OF,⟨hb,h.index.keep hb.ub.blk hsz (fun k h1 h2=>hC k (by omega) (by omega)) (fun k hk'=>hk k (hIl k hk') (by rw [h.labI k hk'];decide) (by rw [h.labI k hk'];decide)),
  h.filt.keep hb.ub.blk hsz (fun k h1 h2=>hC k (by omega) (by omega)) (hC 3 (by omega) (by omega)) (fun k hk'=>hk k (hLl k hk') (by rw [h.labL k hk'];decide) (by rw [h.labL k hk'];decide)),hsz.trans h.size,
  (hC _ (by omega) (by omega)).trans h.wr,(hC _ (by omega) (by omega)).trans h.err,(hC _ (by omega) (by omega)).trans h.cmp,(hC _ (by omega) (by omega)).trans h.comp,(hC _ (by omega) (by omega)).trans h.bsz,(hC _ (by omega) (by omega)).trans h.po,(hC _ (by omega) (by omega)).trans h.pl,
  (hC _ (by omega) (by omega)).trans h.off,(hC _ (by omega) (by omega)).trans h.ent,
  ⟨v4,m4,cs4,(hC _ (by omega) (by omega)).trans hv4,own_keep ho4 (fun k hk'=>hk k (own_lt ho4 hk') (by rw [hl4 k hk'];decide) (by rw [hl4 k hk'];decide)),fun k hk'=>(relab_old (own_lt ho4 hk')).trans (hl4 k hk')⟩,
  ⟨v6,hB6.keep (hk bb hbbl (by rw [h.labF];decide) (by rw [h.labF];decide)) (fun k hk'=>hk k (own_lt hB6.own hk') (by rw [hl6 k hk'];decide) (by rw [hl6 k hk'];decide)),hp6,fun k hk'=>(relab_old (own_lt hB6.own hk')).trans (hl6 k hk')⟩,
  (relab_old hbl).trans h.labB,(relab_old hbbl).trans h.labF,fun k hk'=>?_,fun k hk'=>(relab_old (hIl k hk')).trans (h.labI k hk'),fun k hk'=>(relab_old (hLl k hk')).trans (h.labL k hk'),fun k hk'=>?_⟩,fun _ h=>relab_old h⟩,?_⟩
 ·by_cases e:k < w.heap.size
  ·rw [relab_old e];exact h.labD k ((hO k hk').elim id (fun h'=>absurd h' (by omega)))
  ·exact relab_new (by omega)
 ·by_cases e:k < w.heap.size
  ·rw [relab_old e] at hk';exact h.low k hk'
  ·omega
 ·exact ⟨hf.os,hf.tape,hf.output,hf.size,fun k hk'=>hf.block k (by omega) (by
   rintro (e | e)
   ·omega
   ·have:=h.low k (by rw [h.labD k e];decide);omega)⟩
theorem WW.indexTo {base:Nat} {w w':World} {b bb bs n:Nat} {lab:Nat→Nat} {C:Array Value} {OD OI:Own} {OF:FOwn} {s:WS} (h:WW base w b bb bs n lab C OD OI OF s) {d':BWS} (hd:BWTo b C 117 77 241 OI d' w w') :
  WOut base w w' b bb bs n lab { s with index:=d' }:=by
 obtain ⟨C',O',hb,hsz,hC,hf,hO⟩:=hd;have hbl:=h.data.ub.blk.lt;obtain ⟨v4,m4,cs4,hv4,ho4,hl4⟩:=h.cscr;obtain ⟨v6,hB6,hp6,hl6⟩:=h.bf;have hbbl:bb < w.heap.size:=by obtain ⟨lr,hx⟩:=hB6.blk;exact hx.lt
 have hk:∀ k,k < w.heap.size→lab k≠7→lab k≠2→w'.heap[k]?=w.heap[k]?:=fun k h1 h2 h3=>hf.block k h1 (by
  rintro (e | e)
  ·exact h2 (e ▸ h.labB)
  ·exact h3 (h.labI k e))
 have hIl:∀ k,OI.has k→k < w.heap.size:=fun k hk=>h.index.lt hk
 have hLl:∀ k,FiltHas OF s.filt k→k < w.heap.size:=fun k hk=>h.filt.lt hk
 have hDl:∀ k,OD.has k→k < w.heap.size:=fun k hk=>h.data.lt hk
 have hbase:base≤b:=h.low b (by rw [h.labB];decide);refine ⟨⟨relab w lab 2,C',OD,O',OF,⟨h.data.keep hb.ub.blk hsz (fun k h1 h2=>hC k (by omega) (by omega)) (fun k hk'=>hk k (hDl k hk') (by rw [h.labD k hk'];decide) (by rw [h.labD k hk'];decide)),hb,
  h.filt.keep hb.ub.blk hsz (fun k h1 h2=>hC k (by omega) (by omega)) (hC 3 (by omega) (by omega)) (fun k hk'=>hk k (hLl k hk') (by rw [h.labL k hk'];decide) (by rw [h.labL k hk'];decide)),hsz.trans h.size,
  (hC _ (by omega) (by omega)).trans h.wr,(hC _ (by omega) (by omega)).trans h.err,(hC _ (by omega) (by omega)).trans h.cmp,(hC _ (by omega) (by omega)).trans h.comp,(hC _ (by omega) (by omega)).trans h.bsz,(hC _ (by omega) (by omega)).trans h.po,(hC _ (by omega) (by omega)).trans h.pl,
  (hC _ (by omega) (by omega)).trans h.off,(hC _ (by omega) (by omega)).trans h.ent,
  ⟨v4,m4,cs4,(hC _ (by omega) (by omega)).trans hv4,own_keep ho4 (fun k hk'=>hk k (own_lt ho4 hk') (by rw [hl4 k hk'];decide) (by rw [hl4 k hk'];decide)),fun k hk'=>(relab_old (own_lt ho4 hk')).trans (hl4 k hk')⟩,
  ⟨v6,hB6.keep (hk bb hbbl (by rw [h.labF];decide) (by rw [h.labF];decide)) (fun k hk'=>hk k (own_lt hB6.own hk') (by rw [hl6 k hk'];decide) (by rw [hl6 k hk'];decide)),hp6,fun k hk'=>(relab_old (own_lt hB6.own hk')).trans (hl6 k hk')⟩,
  (relab_old hbl).trans h.labB,(relab_old hbbl).trans h.labF,fun k hk'=>(relab_old (hDl k hk')).trans (h.labD k hk'),fun k hk'=>?_,fun k hk'=>(relab_old (hLl k hk')).trans (h.labL k hk'),fun k hk'=>?_⟩,fun _ h=>relab_old h⟩,?_⟩
 ·by_cases e:k < w.heap.size
  ·rw [relab_old e];exact h.labI k ((hO k hk').elim id (fun h'=>absurd h' (by omega)))
  ·exact relab_new (by omega)
 ·by_cases e:k < w.heap.size
  ·rw [relab_old e] at hk';exact h.low k hk'
  ·omega
 ·exact ⟨hf.os,hf.tape,hf.output,hf.size,fun k hk'=>hf.block k (by omega) (by
   rintro (e | e)
   ·omega
   ·have:=h.low k (by rw [h.labI k e];decide);omega)⟩
theorem WW.filtTo {base:Nat} {w w':World} {b bb bs n:Nat} {lab:Nat→Nat} {C:Array Value} {OD OI:Own} {OF:FOwn} {s:WS} (h:WW base w b bb bs n lab C OD OI OF s) {fs fs':FS} (hs:s.filt=some fs) (hd:FBTo b C 117 148 n OF fs'.raw w w') :
  WOut base w w' b bb bs n lab { s with filt:=some fs' }:=by
 obtain ⟨C',O',hb,hsz,hC,hf,hO⟩:=hd;have hbl:=h.data.ub.blk.lt;obtain ⟨v4,m4,cs4,hv4,ho4,hl4⟩:=h.cscr;obtain ⟨v6,hB6,hp6,hl6⟩:=h.bf;have hbbl:bb < w.heap.size:=by obtain ⟨lr,hx⟩:=hB6.blk;exact hx.lt
 have hk:∀ k,k < w.heap.size→lab k≠7→lab k≠3→w'.heap[k]?=w.heap[k]?:=fun k h1 h2 h3=>hf.block k h1 (by
  rintro (e | e)
  ·exact h2 (e ▸ h.labB)
  ·exact h3 (h.labL k (by rw [hs];exact e)))
 have hIl:∀ k,OI.has k→k < w.heap.size:=fun k hk=>h.index.lt hk
 have hLl:∀ k,FiltHas OF s.filt k→k < w.heap.size:=fun k hk=>h.filt.lt hk
 have hDl:∀ k,OD.has k→k < w.heap.size:=fun k hk=>h.data.lt hk
 have hbase:base≤b:=h.low b (by rw [h.labB];decide);refine ⟨⟨relab w lab 3,C',OD,OI,O',⟨h.data.keep hb.ub.blk hsz (fun k h1 h2=>hC k (by omega)) (fun k hk'=>hk k (hDl k hk') (by rw [h.labD k hk'];decide) (by rw [h.labD k hk'];decide)),h.index.keep hb.ub.blk hsz (fun k h1 h2=>hC k (by omega)) (fun k hk'=>hk k (hIl k hk') (by rw [h.labI k hk'];decide) (by rw [h.labI k hk'];decide)),
  ⟨hb,(hC 3 (by omega)).trans (by have h3:=h.filt;rw [hs] at h3;exact h3.2)⟩,hsz.trans h.size,
  (hC _ (by omega)).trans h.wr,(hC _ (by omega)).trans h.err,(hC _ (by omega)).trans h.cmp,(hC _ (by omega)).trans h.comp,(hC _ (by omega)).trans h.bsz,(hC _ (by omega)).trans h.po,(hC _ (by omega)).trans h.pl,
  (hC _ (by omega)).trans h.off,(hC _ (by omega)).trans h.ent,
  ⟨v4,m4,cs4,(hC _ (by omega)).trans hv4,own_keep ho4 (fun k hk'=>hk k (own_lt ho4 hk') (by rw [hl4 k hk'];decide) (by rw [hl4 k hk'];decide)),fun k hk'=>(relab_old (own_lt ho4 hk')).trans (hl4 k hk')⟩,
  ⟨v6,hB6.keep (hk bb hbbl (by rw [h.labF];decide) (by rw [h.labF];decide)) (fun k hk'=>hk k (own_lt hB6.own hk') (by rw [hl6 k hk'];decide) (by rw [hl6 k hk'];decide)),hp6,fun k hk'=>(relab_old (own_lt hB6.own hk')).trans (hl6 k hk')⟩,
  (relab_old hbl).trans h.labB,(relab_old hbbl).trans h.labF,fun k hk'=>(relab_old (hDl k hk')).trans (h.labD k hk'),fun k hk'=>(relab_old (hIl k hk')).trans (h.labI k hk'),fun k hk'=>?_,fun k hk'=>?_⟩,fun _ h=>relab_old h⟩,?_⟩
 ·by_cases e:k < w.heap.size
  ·rw [relab_old e];exact h.labL k (by rw [hs];exact (hO k hk').elim id (fun h'=>absurd h' (by omega)))
  ·exact relab_new (by omega)
 ·by_cases e:k < w.heap.size
  ·rw [relab_old e] at hk';exact h.low k hk'
  ·omega
 ·exact ⟨hf.os,hf.tape,hf.output,hf.size,fun k hk'=>hf.block k (by omega) (by
   rintro (e | e)
   ·omega
   ·have:=h.low k (by rw [h.labL k (by rw [hs];exact e)];decide);omega)⟩
end
end Go.Proofs.YtmkdpjicgjhhjaaGreatDoor
