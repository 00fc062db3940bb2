/- Part 16 of the proof of FnTableComesBack: contracts and lemmas, each under the conditions that it states. Texts: FinB, WScr, FlP. -/
import Derived.Test.YtmkdpjicgjhhjaaGreatDoorC15
import Derived.Deep.DeepCutAuto
namespace Go.Proofs.YtmkdpjicgjhhjaaGreatDoor
open Go.Lib (hid)
set_option maxRecDepth 100000
set_option linter.all false
section
open Go Go.RowKit Go.Shelf
theorem WRes.undrew {b bb o off k:Nat} {C:Array Value} {F:Option Nat} {l f:List UInt8} {v:Value} {w w':World} (h:WRes b bb o off C F l v f (w.drewN k) w'):WRes b bb o off C F l v f w w':=by
 obtain ⟨C',F',v',h1,h2,h3,h4,h5,h6,h7⟩:=h;exact ⟨C',F',v',h1,h2,h3,h4,h5,h6.undrew,h7⟩
def FinB (base b bb bs n:Nat) (s:WS) (w w':World):Prop :=
 ∃ ft',WIn base w' b bb bs n { s with data:={ s.data.finish with buf:=[],n:=0,rs:=[] },file:=s.file++sealB s.data.finish.buf,po:=s.file.length,pl:=s.data.finish.buf.length,filt:=ft' } ∧
  FtTo n ((s.file++sealB s.data.finish.buf).length / 2048) s.filt ft'∧Below base w w'
set_option maxHeartbeats 4000000 in
theorem finishBlock_walk (w:World) (base b bb bs n:Nat) (s:WS) (h:WIn base w b bb bs n s) (hbuf:s.data.buf.length≤67108864) (hr:s.data.rs.length≤67108864) (hrv:∀ x∈s.data.rs,x < 4294967296) (hn:s.data.n≤4294967296) (hfl:s.file.length≤134217728) (hft:FtOk n s.filt) :
  Calls Tryz.prog 47 #[.pointer (some ⟨b,0,none⟩)] w fun e w'=>e=.returned .nilIface∧FinB base b bb bs n s w w':=by
 obtain ⟨lab,C,OD,OI,OF,h⟩:=h;have h1:=bwfinish_any w b C 117 6 241 OD s.data h.data (by omega) (by omega) hrv hn;have HH:=hid h;clear h;go_enter Tryz.func47,Tryz.ntmps47
 go_wp2_with (go_at_call 52;refine h1.mono ?_;rintro e w1 ⟨rfl,hx⟩)
 have hx2:=(HH.out.dataTo hx).win;have hb2:=(HH.out.dataTo hx).2;clear hx h1;obtain ⟨lab1,C1,OD1,OI1,OF1,g1⟩:=hx2;obtain ⟨v6,hv6,hp6,hl6⟩:=g1.bf;have hq4:=g1.data.ub.blk.cell g1.comp;refine Pos.start (fun W=>W.cell? ⟨b,4,none⟩=some (.int .u64 1)) 15 (by kernel_rfl) ?_;have hS:(fun W:World=>W.cell? ⟨b,4,none⟩=some (.int .u64 1)) (w1.drewN 1):=hq4;iterate 9
  refine' Pos.takeK hS rfl (by kernel_rfl) (fun _ _ _ h=>h) (by rfl) ?_ ?_;rotate_left
  ·intro W hW;obtain s1:=hW;go_simp;try with_reducible rfl
  intro K hK;go_simp;refine hK _ ?_;clear hK K
 refine Pos.toG 7 #[true,true,true,true,true,true,true,true,true,false,false,false,false,false,false,false] rfl (by kernel_rfl) ?_;have hub:=g1.data.ub;have hfb:s.data.finish.buf.length≤536870912:=by unfold BWS.finish BWS.ends;simp only [List.length_append,le32s_length];split <;> simp <;> omega
 have hwb:=fun k=>writeBlock_any (w1.drewN k) b bb 7 s.file.length C1 OD1.f s.data.finish.buf s.file v6 (hub.drewN k) (by omega) (by omega) (by have:=g1.size;omega) g1.wr g1.off (hv6.keep rfl (fun _ _=>rfl)) hp6 (fun e=>by have h1:=g1.labF;have h2:=g1.labB;rw [e] at h1;omega) (fun e=>by have h1:=g1.labF;have h2:=g1.labD bb (.inl e);omega) (fun e=>by have h1:=hl6 b e;have h2:=g1.labB;omega) (fun k e e'=>by have h1:=hl6 k e';have h2:=g1.labD k (.inl e);omega) hfb (by omega) (by omega)
 refine PosG.split (i:=9) (j:=13) rfl rfl (by kernel_rfl) ?_ ?_
 ·go_wp2_with (go_at_call 50;refine (hwb _).mono ?_;rintro e w2 ⟨rfl,hw2⟩)
  have hx3:=g1.sealData hv6 hl6 hw2.undrew;obtain ⟨⟨lab2,C2,OD2,OI2,OF2,g2,hlab2⟩,hb3⟩:=hx3;have hq42:=g2.data.ub.blk.cell g2.comp;clear hS hwb hw2;have hS:(fun W:World=>W.cell? ⟨b,4,none⟩=some (.int .u64 1)) w2:=hq42;refine ⟨hS,?_⟩;generalize hLB:s.data.finish.buf.length=LB at *;have HLB:=hid hLB;clear hLB;refine' PosG.takeK (k:=10) hS rfl (by kernel_rfl) (fun _ _ _ h=>h) (by rfl) ?_ ?_;rotate_left
  ·intro W hW;obtain s1:=hW;go_simp;try with_reducible rfl
  intro K hK;go_simp;refine hK _ ?_;clear hK K;refine' PosG.takeK (k:=11) hS rfl (by kernel_rfl) (fun _ _ _ h=>h) (by rfl) ?_ ?_;rotate_left
  ·intro W hW;obtain s1:=hW;go_simp;try with_reducible rfl
  intro K hK;go_simp;refine hK _ ?_;clear hK K;refine' PosG.takeK (k:=12) hS rfl (by kernel_rfl) (fun _ _ _ h=>h) (by rfl) ?_ ?_;rotate_left
  ·intro W hW;obtain s1:=hW;go_simp;try with_reducible rfl
  intro K hK;go_simp;refine hK _ ?_;clear hK K;refine PosG.eff (k:=13) rfl (by kernel_rfl) ?_;go_wp2
  have hS:(fun W:World=>W.cell? ⟨b,4,none⟩=some (.int .u64 1)) (w2.alloc (.cells #[.int .u64 0,.int .u64 0] 114)):=(g2.data.ub.blk.alloc _).cell g2.comp;refine ⟨hS,?_⟩;have hpn:=Blk.new w2 #[.int .u64 0,.int .u64 0] 114;have hp0:=hpn.cell (k:=0) rfl;have hp1:=hpn.cell (k:=1) rfl;have hpf0:=hpn.free 0;have hpf1:=hpn.free 1;refine PosG.eff (k:=14) rfl (by kernel_rfl) ?_;go_wp2
  clear hp0 hp1 hpf0 hpf1 hpn;obtain ⟨W3,hW3⟩:∃ W3,W3=w2.alloc (.cells #[.int .u64 s.file.length,.int .u64 LB] 114):=⟨_,rfl⟩;have hP3:Blk W3 w2.heap.size #[.int .u64 s.file.length,.int .u64 LB] 114:=by rw [hW3];exact Blk.new _ _ _
  have g3:WW base W3 b bb bs n lab2 C2 OD2 OI2 OF2 _:=g2.ext (w':=W3) (fun k hk=>by rw [hW3];exact Below.heap_alloc w2 _ k hk);have hb23:Below base w2 W3:=by
   have h1:=g2.low b (by rw [g2.labB];decide);have h2:=g2.data.ub.blk.lt;rw [hW3];exact ⟨rfl,rfl,rfl,by simp,fun k hk=>Below.heap_alloc w2 _ k (by omega)⟩
  have HB23:=hid hb23;rw [← hW3];clear hb23;have hp:w2.heap.size≠b:=by have:=g2.data.ub.blk.lt;omega
  have hS:(fun W:World=>W.cell? ⟨b,4,none⟩=some (.int .u64 1)) W3:=g3.data.ub.blk.cell g3.comp;refine ⟨hS,?_⟩;have hq0:=hP3.cell (k:=0) rfl;have hq1:=hP3.cell (k:=1) rfl;have hz217:=g3.data.ub.blk.cell g3.po;have hz218:=g3.data.ub.blk.cell g3.pl;have hf217:=g3.data.ub.blk.free 217;have hf218:=g3.data.ub.blk.free 218;clear hW3;refine PosG.tail rfl (by kernel_rfl) (by kernel_rfl) (by decide) ?_;simp only [List.drop_succ_cons,List.drop_zero]
  have hsz3:=g3.size;have g4:=g3.setNum 217 (.int .u64 s.file.length) (.inl rfl) s.file.length s.pl s.ent (Array.getElem?_setIfInBounds_self_of_lt (by omega)) ((Array.getElem?_setIfInBounds_ne (by omega)).trans g3.pl) ((Array.getElem?_setIfInBounds_ne (by omega)).trans g3.ent);have hsz4:=g4.1.size;have g5:=g4.1.setNum 218 (.int .u64 LB) (.inr (.inl rfl)) s.file.length LB s.ent ((Array.getElem?_setIfInBounds_ne (by omega)).trans g4.1.po) (Array.getElem?_setIfInBounds_self_of_lt (by omega)) ((Array.getElem?_setIfInBounds_ne (by omega)).trans g4.1.ent)
  have hreset:=bwreset_any _ b _ 117 6 241 OD2 _ g5.1.data;have HG5:=hid g5;have HB4:=hid g4.2;clear g4 g5 g3;go_wp2_with (go_at_call 92;refine hreset.mono ?_;rintro e w6 ⟨rfl,hx6⟩)
  obtain ⟨⟨lab6,C6,OD6,OI6,OF6,g6,_⟩,hb6⟩:=HG5.out.1.dataTo hx6;have hz219:=g6.data.ub.blk.cell g6.off;have hfl:=fun k=>fflush_ww (g6.ext (w':=w6.drewN k) (fun _ _=>rfl)) (by exact hft) (s.file++sealB s.data.finish.buf).length (by rw [List.length_append,sealB_length,HLB.out];omega)
  have HFN:Hid (∀ k w7,(∃ ft',WIn base w7 b bb bs n { s with data:={ s.data.finish with buf:=[],n:=0,rs:=[] },file:=s.file++sealB s.data.finish.buf,po:=s.file.length,pl:=LB,filt:=ft' }∧FtTo n ((s.file++sealB s.data.finish.buf).length / 2048) s.filt ft'∧Below base (w6.drewN k) w7)→FinB base b bb bs n s w w7):=hid (fun k w7 ⟨ft',q1,q2,q3⟩=>⟨ft',by rw [HLB.out];exact q1,q2,hb2.trans (hb3.trans (HB23.out.trans (HB4.out.trans (HG5.out.2.trans (hb6.trans ⟨q3.os,q3.tape,q3.output,q3.size,q3.block⟩)))))⟩)
  clear hreset hx6;generalize (s.file++sealB s.data.finish.buf).length=FL at *;go_wp2_with fail
  refine wp_tail 7 (by kernel_rfl) ?_;simp only [List.take_succ_cons,List.take_zero,List.drop_succ_cons,List.drop_zero];repeat still_step
  refine wpStill_nil ?_;go_wp2_with (go_at_call 40;refine (hfl _).mono ?_;rintro e w7 ⟨rfl,hx7⟩;have HX7:=hid hx7;clear hx7 hfl)
  go_ret
  exact ⟨rfl,HFN.out _ _ HX7.out⟩
 ·go_wp2
  have g1a:WW base (w1.alloc (.cells #[.int .u64 0,.int .u64 0] 114)) b bb bs n (fun k=>if k=w1.heap.size then 0 else lab1 k) C1 OD1 OI1 OF1 _:=(g1.zero w1.heap.size (Nat.le_refl _)).ext (w':=w1.alloc (.cells #[.int .u64 0,.int .u64 0] 114)) (fun k hk=>Below.heap_alloc w1 _ k hk);have hpn:=Blk.new w1 #[.int .u64 0,.int .u64 0] 114;have hwb2:=fun k=>writeBlock_any ((w1.alloc (.cells #[.int .u64 0,.int .u64 0] 114)).drewN k) b bb 7 s.file.length C1 OD1.f s.data.finish.buf s.file v6 (g1a.data.ub.drewN k) (by omega) (by omega) (by have:=g1.size;omega) g1.wr g1.off (hv6.keep (Below.heap_alloc w1 _ _ (by obtain ⟨lr,hx⟩:=hv6.blk;exact hx.lt)) (fun k hk=>Below.heap_alloc w1 _ _ (own_lt hv6.own hk))) hp6 (fun e=>by have h1:=g1.labF;have h2:=g1.labB;rw [e] at h1;omega) (fun e=>by have h1:=g1.labF;have h2:=g1.labD bb (.inl e);omega) (fun e=>by have h1:=hl6 b e;have h2:=g1.labB;omega) (fun k e e'=>by have h1:=hl6 k e';have h2:=g1.labD k (.inl e);omega) hfb (by omega) (by omega)
  clear hS;have hS:(fun W:World=>W.cell? ⟨b,4,none⟩=some (.int .u64 1)) ((w1.alloc (.cells #[.int .u64 0,.int .u64 0] 114)).drewN 1):=g1a.data.ub.blk.cell g1a.comp;refine ⟨hS,?_⟩;refine PosG.eff (k:=9) rfl (by kernel_rfl) ?_;go_wp2_with (go_at_call 50;refine (hwb2 _).mono ?_;rintro e w2 ⟨rfl,hw2⟩)
  have hbB:base≤b:=g1.low b (by rw [g1.labB];decide);have hbl1:=g1.data.ub.blk.lt;have hb01:Below base w1 (w1.alloc (.cells #[.int .u64 0,.int .u64 0] 114)):=⟨rfl,rfl,rfl,by simp,fun k hk=>Below.heap_alloc w1 _ k (by omega)⟩;have hpw:Blk w2 w1.heap.size #[.int .u64 0,.int .u64 0] 114:=by
   obtain ⟨_,_,_,_,_,_,_,_,hfw,_⟩:=hw2;refine Blk.fr (w:=(w1.alloc (.cells #[.int .u64 0,.int .u64 0] 114)).drewN 1) hpn hfw ?_;rintro (e | e | e | e)
   ·omega
   ·have:=(g1.data.lt (k:=w1.heap.size) (.inl e));omega
   ·have h1:bb < w1.heap.size:=by obtain ⟨lr,hx⟩:=hv6.blk;exact hx.lt
    omega
   ·have:=own_lt hv6.own e;omega
  have hx3:=g1a.sealData (hv6.keep (Below.heap_alloc w1 _ _ (by obtain ⟨lr,hx⟩:=hv6.blk;exact hx.lt)) (fun k hk=>Below.heap_alloc w1 _ _ (own_lt hv6.own hk))) (fun k hk=>(if_neg (by have:=own_lt hv6.own hk;omega)).trans (hl6 k hk)) hw2.undrew;obtain ⟨⟨lab2,C2,OD2,OI2,OF2,g2,hlab2⟩,hb3⟩:=hx3;have hq42:=g2.data.ub.blk.cell g2.comp;have hp:w1.heap.size≠b:=by omega
  have hlp:lab2 w1.heap.size=0:=(hlab2 w1.heap.size (by simp)).trans (if_pos rfl);have HPW:=hid hpw;clear hS hwb hwb2 hw2;have hS:(fun W:World=>W.cell? ⟨b,4,none⟩=some (.int .u64 1)) w2:=hq42;refine ⟨hS,?_⟩;generalize hLB:s.data.finish.buf.length=LB at *;have HLB:=hid hLB;clear hLB;refine' PosG.takeK (k:=10) hS rfl (by kernel_rfl) (fun _ _ _ h=>h) (by rfl) ?_ ?_;rotate_left
  ·intro W hW;obtain s1:=hW;go_simp;try with_reducible rfl
  intro K hK;go_simp;refine hK _ ?_;clear hK K;refine' PosG.takeK (k:=11) hS rfl (by kernel_rfl) (fun _ _ _ h=>h) (by rfl) ?_ ?_;rotate_left
  ·intro W hW;obtain s1:=hW;go_simp;try with_reducible rfl
  intro K hK;go_simp;refine hK _ ?_;clear hK K;refine' PosG.takeK (k:=12) hS rfl (by kernel_rfl) (fun _ _ _ h=>h) (by rfl) ?_ ?_;rotate_left
  ·intro W hW;obtain s1:=hW;go_simp;try with_reducible rfl
  intro K hK;go_simp;refine hK _ ?_;clear hK K;have hp0:=hpw.cell (k:=0) rfl;have hp1:=hpw.cell (k:=1) rfl;have hpf0:=hpw.free 0;have hpf1:=hpw.free 1;refine PosG.eff (k:=14) rfl (by kernel_rfl) ?_;go_wp2
  clear hp0 hp1 hpf0 hpf1;obtain ⟨W3,hW3⟩:∃ W3,W3=(w2.setCell ⟨w1.heap.size,0,none⟩ (.int .u64 s.file.length)).setCell ⟨w1.heap.size,1,none⟩ (.int .u64 LB):=⟨_,rfl⟩;have hP3:Blk W3 w1.heap.size #[.int .u64 s.file.length,.int .u64 LB] 114:=by
   rw [hW3];have h:=(HPW.out.set 0 (.int .u64 s.file.length)).set 1 (.int .u64 LB);simpa using h
  have hst3:∀ k,k≠w1.heap.size→W3.heap[k]?=w2.heap[k]?:=fun k hk=>by
   rw [hW3];exact (Below.heap_setCell _ _ _ k (by simpa using hk)).trans (Below.heap_setCell _ _ _ k (by simpa using hk))
  have g3:WW base W3 b bb bs n lab2 C2 OD2 OI2 OF2 _:=g2.ext0 (w':=W3) (fun k hk=>hst3 k (fun e=>hk (e ▸ hlp)));have hb23:Below base w2 W3:=by
   have h2:=g2.data.ub.blk.lt;exact ⟨by rw [hW3];rfl,by rw [hW3];rfl,by rw [hW3];rfl,by rw [hW3];simp,fun k hk=>hst3 k (by omega)⟩
  have HB23:=hid hb23;rw [← hW3];clear hb23 hW3 hst3;have hS:(fun W:World=>W.cell? ⟨b,4,none⟩=some (.int .u64 1)) W3:=g3.data.ub.blk.cell g3.comp;refine ⟨hS,?_⟩;have hq0:=hP3.cell (k:=0) rfl;have hq1:=hP3.cell (k:=1) rfl;have hz217:=g3.data.ub.blk.cell g3.po;have hz218:=g3.data.ub.blk.cell g3.pl;have hf217:=g3.data.ub.blk.free 217;have hf218:=g3.data.ub.blk.free 218;refine PosG.tail rfl (by kernel_rfl) (by kernel_rfl) (by decide) ?_
  simp only [List.drop_succ_cons,List.drop_zero];have hsz3:=g3.size;have g4:=g3.setNum 217 (.int .u64 s.file.length) (.inl rfl) s.file.length s.pl s.ent (Array.getElem?_setIfInBounds_self_of_lt (by omega)) ((Array.getElem?_setIfInBounds_ne (by omega)).trans g3.pl) ((Array.getElem?_setIfInBounds_ne (by omega)).trans g3.ent);have hsz4:=g4.1.size;have g5:=g4.1.setNum 218 (.int .u64 LB) (.inr (.inl rfl)) s.file.length LB s.ent ((Array.getElem?_setIfInBounds_ne (by omega)).trans g4.1.po) (Array.getElem?_setIfInBounds_self_of_lt (by omega)) ((Array.getElem?_setIfInBounds_ne (by omega)).trans g4.1.ent)
  have hreset:=bwreset_any _ b _ 117 6 241 OD2 _ g5.1.data;have HG5:=hid g5;have HB4:=hid g4.2;clear g4 g5 g3;go_wp2_with (go_at_call 92;refine hreset.mono ?_;rintro e w6 ⟨rfl,hx6⟩)
  obtain ⟨⟨lab6,C6,OD6,OI6,OF6,g6,_⟩,hb6⟩:=HG5.out.1.dataTo hx6;have hz219:=g6.data.ub.blk.cell g6.off;have hfl:=fun k=>fflush_ww (g6.ext (w':=w6.drewN k) (fun _ _=>rfl)) (by exact hft) (s.file++sealB s.data.finish.buf).length (by rw [List.length_append,sealB_length,HLB.out];omega)
  have HFN:Hid (∀ k w7,(∃ ft',WIn base w7 b bb bs n { s with data:={ s.data.finish with buf:=[],n:=0,rs:=[] },file:=s.file++sealB s.data.finish.buf,po:=s.file.length,pl:=LB,filt:=ft' }∧FtTo n ((s.file++sealB s.data.finish.buf).length / 2048) s.filt ft'∧Below base (w6.drewN k) w7)→FinB base b bb bs n s w w7):=hid (fun k w7 ⟨ft',q1,q2,q3⟩=>⟨ft',by rw [HLB.out];exact q1,q2,hb2.trans (hb01.trans (hb3.trans (HB23.out.trans (HB4.out.trans (HG5.out.2.trans (hb6.trans ⟨q3.os,q3.tape,q3.output,q3.size,q3.block⟩))))))⟩)
  clear hreset hx6;generalize (s.file++sealB s.data.finish.buf).length=FL at *;go_wp2_with fail
  refine wp_tail 7 (by kernel_rfl) ?_;simp only [List.take_succ_cons,List.take_zero,List.drop_succ_cons,List.drop_zero];repeat still_step
  refine wpStill_nil ?_;go_wp2_with (go_at_call 40;refine (hfl _).mono ?_;rintro e w7 ⟨rfl,hx7⟩;have HX7:=hid hx7;clear hx7 hfl)
  go_ret
  exact ⟨rfl,HFN.out _ _ HX7.out⟩
end
section
open Go Go.RowKit Go.Shelf
theorem WW.scrTo {base:Nat} {w:World} {b bb bs n:Nat} {lab:Nat→Nat} {C:Array Value} {OD OI:Own} {OF:FOwn} {s:WS} (h:WW base w b bb bs n lab C OD OI OF s) {C2:Array Value} (hs:C2.size=C.size) (hC:∀ k,¬ (221≤k∧k < 241)→C2[k]?=C[k]?) :
  WW base (w.setRow b C2) b bb bs n lab C2 OD OI OF s∧Below base w (w.setRow b C2):=by
 have hB:=h.data.ub.blk.setRow C2;have hk:∀ k,lab k≠7→(w.setRow b C2).heap[k]?=w.heap[k]?:=fun k hk=>setRow_other w b k C2 (fun e=>hk (e ▸ h.labB))
 obtain ⟨v4,m4,cs4,hv4,ho4,hl4⟩:=h.cscr;obtain ⟨v6,hB6,hp6,hl6⟩:=h.bf;have hbase:base≤b:=h.low b (by rw [h.labB];decide);refine ⟨⟨h.data.keep hB hs (fun k h1 h2=>hC k (by omega)) (fun k hk'=>hk k (by rw [h.labD k hk'];decide)),h.index.keep hB hs (fun k h1 h2=>hC k (by omega)) (fun k hk'=>hk k (by rw [h.labI k hk'];decide)),
  h.filt.keep hB hs (fun k h1 h2=>hC k (by omega)) (hC 3 (by omega)) (fun k hk'=>hk k (by rw [h.labL k hk'];decide)),hs.trans h.size,(hC _ (by omega)).trans h.wr,(hC _ (by omega)).trans h.err,(hC _ (by omega)).trans h.cmp,(hC _ (by omega)).trans h.comp,(hC _ (by omega)).trans h.bsz,
  (hC _ (by omega)).trans h.po,(hC _ (by omega)).trans h.pl,(hC _ (by omega)).trans h.off,(hC _ (by omega)).trans h.ent,⟨v4,m4,cs4,(hC _ (by omega)).trans hv4,own_keep ho4 (fun k hk'=>hk k (by rw [hl4 k hk'];decide)),hl4⟩,
  ⟨v6,hB6.keep (hk bb (by rw [h.labF];decide)) (fun k hk'=>hk k (by rw [hl6 k hk'];decide)),hp6,hl6⟩,h.labB,h.labF,h.labD,h.labI,h.labL,h.low⟩,?_⟩
 exact ⟨rfl,rfl,rfl,by simp,fun k hk'=>setRow_other w b k C2 (by omega)⟩
theorem WW.prevNil {base:Nat} {w:World} {b bb bs n:Nat} {lab:Nat→Nat} {C:Array Value} {OD OI:Own} {OF:FOwn} {s:WS} (h:WW base w b bb bs n lab C OD OI OF s) {a:Option Addr} {m c:Nat} (hv:C[74]?=some (.slice a m c)) :
  WOut base w (w.setCell ⟨b,74,none⟩ (.slice a 0 c)) b bb bs n lab { s with data:={ s.data with prev:=[] } }:=by
 obtain ⟨v,hv',ho,hp⟩:=h.data.prev;obtain rfl:v=.slice a m c:=Option.some.inj (hv'.symm.trans hv);obtain ⟨a',c',he,hcut,hcb⟩:=own_cut ho;simp only [Value.slice.injEq] at he;obtain ⟨rfl,_,rfl⟩:=he;exact h.dataTo (h.data.prevTo (w1:=w) hv (key:=[]) hcut (World.grownBy.refl _ _) (.inl hcb))
end
section
open Go Go.RowKit Go.Shelf
open Go.Lib (compareBytes)
def SepFor (prev key sep:List UInt8):Prop:=(sep=prev∨(compareBytes prev sep=-1∧(key≠[]→compareBytes sep key=-1)))∧sep.length≤prev.length
def FlB (base b bb bs n:Nat) (s:WS) (key:List UInt8) (w w':World):Prop :=
 ∃ sep,SepFor s.data.prev key sep∧WIn base w' b bb bs n { s with index:=s.index.append sep (hdl s.po s.pl),data:={ s.data with prev:=[] },po:=0,pl:=0 }∧Below base w w'
theorem flp_none (w:World) (base b bb bs n:Nat) (s:WS) (h:WIn base w b bb bs n s) (hpl:s.pl=0) (x:Value) :
  Calls Tryz.prog 43 #[.pointer (some ⟨b,0,none⟩),x] w fun e w'=>e=.returned (.tuple #[])∧w'=w:=by
 obtain ⟨lab,C,OD,OI,OF,h⟩:=h;have h0:=h.data.ub.blk.cell h.pl;rw [hpl] at h0;clear h;go_enter Tryz.func43,Tryz.ntmps43
 go_wp2
 go_returns
 exact ⟨rfl,rfl⟩
theorem run_s115 (b o n:Nat) (hn:n≤50) (w:World):(Instr.sliceAt 115 (.pointer (some ⟨b,o,none⟩)) none (some (.int .i64 (n:Int))) none).run Tryz.prog w=.ok (.slice (some ⟨b,o,none⟩) n 50) w:=by
 have ha:Tryz.prog.arrayLen 115=50:=by kernel_rfl
 have he:Tryz.prog.elem 115=5:=by kernel_rfl
 obtain ⟨i,hi,hsz⟩:=Option.map_eq_some_iff.1 sz5;rw [run_sliceAt_array_h (P:=Tryz.prog) w 115 ⟨b,o,none⟩ (by kernel_rfl) .i64 (n:Int) (by omega) (by rw [ha];omega),ha,he];simp [sizeOf,typeInfo,hi,hsz,slicedAt,Addr.add]
structure FMid (base b bb bs n:Nat) (s:WS) (key:List UInt8) (w w5:World) (sa:Option Addr) (sn sc:Nat) (lab:Nat→Nat) (C:Array Value) (OD OI:Own) (OF:FOwn) (sep:List UInt8):Prop where
 ww:WW base w5 b bb bs n lab C OD OI OF s
 bel:Below base w w5
 sl:Sl w5 sa sn sc sep
 aw:∀ g p,sa=some ⟨g,p,none⟩→0 < sn→lab g=1∨lab g=4
 sep:SepFor s.data.prev key sep
theorem FMid.enc {base b bb bs n:Nat} {s:WS} {key:List UInt8} {w w5:World} {sa:Option Addr} {sn sc:Nat} {lab:Nat→Nat} {C:Array Value} {OD OI:Own} {OF:FOwn} {sep:List UInt8} (h:FMid base b bb bs n s key w w5 sa sn sc lab C OD OI OF sep)
  (hpo:s.po < 34359738368) (hpl2:s.pl < 34359738368) :
  ∃ w6 C6,w6=(w5.alloc (.cells #[.int .u64 s.po,.int .u64 s.pl] 114)).setRow b (splice C 221 (bv (hdl s.po s.pl)))∧C6=splice C 221 (bv (hdl s.po s.pl))∧FMid base b bb bs n s key w w6 sa sn sc lab C6 OD OI OF sep∧Sl w6 (some ⟨b,221,none⟩) (hdl s.po s.pl).length 50 (hdl s.po s.pl):=by
 have hlen:(hdl s.po s.pl).length≤20:=by
  have h1:=uvarint_len5 hpo;have h2:=uvarint_len5 hpl2;unfold hdl;rw [List.length_append];omega
 have hsz:=h.ww.size;have g1:WW base (w5.alloc (.cells #[.int .u64 s.po,.int .u64 s.pl] 114)) b bb bs n lab C OD OI OF s:=h.ww.ext (fun k hk=>Below.heap_alloc w5 _ k hk);have hb1:Below base w5 (w5.alloc (.cells #[.int .u64 s.po,.int .u64 s.pl] 114)):=by
  have h1:=h.ww.low b (by rw [h.ww.labB];decide);have h2:=h.ww.data.ub.blk.lt;exact ⟨rfl,rfl,rfl,by simp,fun k hk=>Below.heap_alloc w5 _ k (by omega)⟩
 have hfit:221+(bv (hdl s.po s.pl)).length≤C.size:=by rw [bv_length];omega
 obtain ⟨g2,hb2⟩:=g1.scrTo (C2:=splice C 221 (bv (hdl s.po s.pl))) (splice_size hfit) (fun k hk=>splice_out hfit (by rw [bv_length];omega));refine ⟨_,_,rfl,rfl,⟨g2,(h.bel.trans hb1).trans hb2,?_,h.aw,h.sep⟩,?_⟩
 ·exact h.sl.fr' fun g p ha j hj=>by
   subst ha;have hlab:=h.aw g p rfl (by omega);have hgb:g≠b:=fun e=>by subst e;rw [h.ww.labB] at hlab;omega
   have hlt:=h.sl.lt (by omega);exact (cell?_setRow_ne _ _ _ _ _ hgb).trans (World.cell?_of_block (Below.heap_alloc w5 _ g hlt))
 ·have hB:=g2.data.ub.blk;refine ⟨rfl,by omega,by decide,fun h=>by simp at h,fun j hj=>⟨b,221,rfl,?_⟩⟩;rw [hB.cell',splice_in hfit (by rw [bv_length];omega)];simp [bv,Lib.byteCells,hj]
theorem FMid.rest {base b bb bs n:Nat} {s:WS} {key:List UInt8} {w w5:World} {sa:Option Addr} {sn sc:Nat} {lab:Nat→Nat} {C:Array Value} {OD OI:Own} {OF:FOwn} {sep:List UInt8} (h:FMid base b bb bs n s key w w5 sa sn sc lab C OD OI OF sep)
  (hpr:s.data.prev.length≤134217728) (hl:(hdl s.po s.pl).length≤10) (hb:Sl w5 (some ⟨b,221,none⟩) (hdl s.po s.pl).length 50 (hdl s.po s.pl))
  (hib:s.index.buf.length≤134217728) (hin:s.index.n≤134217728) (hir:s.index.rs.length≤134217728) (hip:s.index.prev.length≤134217728) (hri:s.index.ri=1) (k:Nat) :
  Calls Tryz.prog 44 #[.pointer (some ⟨b,77,none⟩),.slice sa sn sc,.slice (some ⟨b,221,none⟩) (hdl s.po s.pl).length 50] (w5.drewN k) fun e w'=>e=.returned (.tuple #[]) ∧
   ∃ lab' C' OD' OI' OF',WW base w' b bb bs n lab' C' OD' OI' OF' { s with index:=s.index.append sep (hdl s.po s.pl) }∧Below base w w':=by
 have g:WW base (w5.drewN k) b bb bs n lab C OD OI OF s:=h.ww.ext (fun _ _=>rfl);have hsep:=h.sep.2;have hlen:=h.sl.len;refine (append_any (w5.drewN k) b C 117 77 241 OI s.index g.index sa sn sc sep (h.sl.drewN k) ?_ (some ⟨b,221,none⟩) _ 50 (hdl s.po s.pl) (hb.drewN k) ?_ (by omega) (by omega) (by omega) (by omega) (by omega) (by omega)).mono ?_
 ·intro g' p ha h0;have hlab:=h.aw g' p ha h0;exact ⟨fun hk=>by have:=h.ww.labI g' hk;omega,fun e=>by subst e;have:=h.ww.labB;omega⟩
 ·intro g' p ha h0;simp only [Option.some.injEq,Addr.mk.injEq] at ha;obtain ⟨rfl,rfl,_⟩:=ha;exact ⟨fun hk=>by have:=h.ww.labI b hk;have:=h.ww.labB;omega,fun _=>by omega⟩
 ·rintro e w' ⟨rfl,hx⟩;obtain ⟨⟨lab',C',OD',OI',OF',hw,_⟩,hbl⟩:=g.indexTo hx;have hd:Below base w5 (w5.drewN k):=⟨rfl,rfl,rfl,Nat.le_refl _,fun _ _=>rfl⟩;exact ⟨rfl,lab',C',OD',OI',OF',hw,(h.bel.trans hd).trans hbl⟩
theorem flp_end {base b bb bs n:Nat} {s:WS} {w w8:World} {lab:Nat→Nat} {C:Array Value} {OD OI:Own} {OF:FOwn} (h:WW base w8 b bb bs n lab C OD OI OF s) (hb:Below base w w8) {a:Option Addr} {m c:Nat} (hv:C[74]?=some (.slice a m c)) :
  WIn base (((w8.setCell ⟨b,74,none⟩ (.slice a 0 c)).setCell ⟨b,217,none⟩ (.int .u64 0)).setCell ⟨b,218,none⟩ (.int .u64 0)) b bb bs n { s with data:={ s.data with prev:=[] },po:=0,pl:=0 } ∧
   Below base w (((w8.setCell ⟨b,74,none⟩ (.slice a 0 c)).setCell ⟨b,217,none⟩ (.int .u64 0)).setCell ⟨b,218,none⟩ (.int .u64 0)):=by
 obtain ⟨⟨lab',C',OD',OI',OF',g,_⟩,hb1⟩:=h.prevNil hv;have hsz:=g.size;obtain ⟨g1,hb2⟩:=g.setNum 217 (.int .u64 0) (.inl rfl) 0 s.pl s.ent (Array.getElem?_setIfInBounds_self_of_lt (by omega)) ((Array.getElem?_setIfInBounds_ne (by omega)).trans g.pl) ((Array.getElem?_setIfInBounds_ne (by omega)).trans g.ent);have hsz1:=g1.size;obtain ⟨g2,hb3⟩:=g1.setNum 218 (.int .u64 0) (.inr (.inl rfl)) 0 0 s.ent ((Array.getElem?_setIfInBounds_ne (by omega)).trans g1.po) (Array.getElem?_setIfInBounds_self_of_lt (by omega)) ((Array.getElem?_setIfInBounds_ne (by omega)).trans g1.ent)
 exact ⟨⟨lab',_,OD',OI',OF',g2⟩,((hb.trans hb1).trans hb2).trans hb3⟩
def FAns (s:WS) (key:List UInt8) (v0:Value) (w:World) (v:Value) (wx:World):Prop :=
 (v=.slice none 0 0∧Fr (fun _=>False) w wx)∨∃ a c sp,v=.slice a sp.length c∧sp≠[]∧wx.ownsRow 0 5 1 (.slice a sp.length c) sp.length (bv sp)∧(∀ k,(Value.slice a sp.length c).ownBlock=some k→v0.ownBlock=some k∨w.heap.size≤k) ∧
  Fr (fun k=>v0.ownBlock=some k) w wx∧SepFor s.data.prev key sp
theorem FAns.of {P:List UInt8→Prop} {s:WS} {key:List UInt8} {v0:Value} {w:World} {k:Nat} {e:Ending} {wx:World} (h:SRes v0 P (w.drewN k) e wx) (hP:∀ sp,P sp→SepFor s.data.prev key sp):∃ v,e=.returned v∧FAns s key v0 w v wx:=by
 rcases h with ⟨rfl,hf⟩ | ⟨a,c,sp,rfl,h1,h2,h3,h4,h5⟩
 ·exact ⟨_,rfl,.inl ⟨rfl,hf.undrew⟩⟩
 ·exact ⟨_,rfl,.inr ⟨a,c,sp,rfl,h1,h2,h3,h4.undrew,hP _ h5⟩⟩
def FAns2 (s:WS) (key:List UInt8) (v0:Value) (w:World) (v t:Value) (wx:World):Prop :=
 (t=.bool true∧v=.slice none 0 0∧Fr (fun _=>False) w wx)∨∃ a c sp,t=.bool false∧v=.slice a sp.length c∧sp≠[]∧wx.ownsRow 0 5 1 (.slice a sp.length c) sp.length (bv sp)∧(∀ k,(Value.slice a sp.length c).ownBlock=some k→v0.ownBlock=some k∨w.heap.size≤k) ∧
  Fr (fun k=>v0.ownBlock=some k) w wx∧SepFor s.data.prev key sp
set_option maxHeartbeats 4000000 in
theorem flp_some (w:World) (base b bb bs n:Nat) (s:WS) (h:WIn base w b bb bs n s) (hpl:0 < s.pl) (hpo:s.po < 34359738368) (hpl2:s.pl < 34359738368) (ka:Option Addr) (kn kc:Nat) (key:List UInt8) (hk:Sl w ka kn kc key) (hkn:kn≤4294967295) (hpr:s.data.prev.length≤134217728)
  (hib:s.index.buf.length≤134217728) (hin:s.index.n≤134217728) (hir:s.index.rs.length≤134217728) (hip:s.index.prev.length≤134217728) (hri:s.index.ri=1) :
  Calls Tryz.prog 43 #[.pointer (some ⟨b,0,none⟩),.slice ka kn kc] w fun e w'=>e=.returned (.tuple #[])∧FlB base b bb bs n s key w w':=by
 obtain ⟨lab,C,OD,OI,OF,h⟩:=h;have hz218:=h.data.ub.blk.cell h.pl;have hz2:=h.data.ub.blk.cell h.cmp;obtain ⟨v4,m4,cs4,hv4,ho4,hl4⟩:=h.cscr;obtain ⟨a4,c4,rfl,hcut4,hcb4⟩:=own_cut ho4;have hz271:=h.data.ub.blk.cell hv4;obtain ⟨vp,hvp,hop,hpp⟩:=h.data.prev;obtain ⟨ap,cp,rfl,hpc,hpm,hpn⟩:=own_form hop;have hz74:=h.data.ub.blk.cell hvp;have hslp:=own_sl hop;have hsl4:∀ w',(Instr.slice 29 (.slice a4 m4 c4) none (some (.int .i64 0)) none).run Tryz.prog w'=.ok (.slice a4 0 c4) w':=fun w'=>run_slice_hi (P:=Tryz.prog) 29 5 un29 sz5 .i64 a4 m4 c4 0 (by omega) w'
 have hpld:((s.pl:Int) == 0)=false:=by rw [beq_eq_false_iff_ne];omega
 have hnil:=fun (w:World) a n c=>Lib.run_eql_slice_nil (P:=Tryz.prog) w 29 5 a n c 0 0 un29
 have hawp:∀ g p,ap=some ⟨g,p,none⟩→0 < s.data.prev.length→lab g=1∨lab g=4:=by
  intro g p ha _;subst ha;exact .inl (h.labD g (.inr (.inl hpp.symm)))
 have hkl:=hk.len;have HH:=hid h;clear h hpn;go_enter Tryz.func43,Tryz.ntmps43
 go_upto_if 14 with fail
 go_cut [4] (fun v wx=>FAns s key (.slice a4 0 c4) w v wx)
 case first =>
  by_cases hk0:kn=0
  ·have hkd:((kn:Int) == 0)=true:=by simp [hk0]
   have hsu:=fun k=>succ_any (w.drewN k) a4 c4 hcut4 ap s.data.prev.length cp s.data.prev (hslp.fr (S:=fun _=>False) ((Fr.refl _ w).drewN k) (fun _ _ h=>h)) (by omega)
   have hFA:∀ k e wx,SRes (.slice a4 0 c4) (fun sp=>compareBytes s.data.prev sp=-1∧sp.length≤s.data.prev.length) (w.drewN k) e wx→∃ v,e=.returned v∧FAns s key (.slice a4 0 c4) w v wx:=fun k e wx h=>FAns.of h (fun sp hp=>⟨.inr ⟨hp.1,fun hn=>absurd (List.length_eq_zero_iff.1 (by omega)) hn⟩,hp.2⟩)
   have HK0:=hid hk0;clear hk0;go_wp2_with fail
   refine wp_tail 16 (by kernel_rfl) ?_;simp only [List.take_succ_cons,List.take_zero,List.drop_succ_cons,List.drop_zero];repeat still_step
   refine wpStill_nil ?_;go_wp2_with (go_at_call 180;refine (hsu _).mono ?_;rintro e w1 hres;obtain ⟨v,rfl,hfa⟩:=hFA _ _ _ hres;clear hres)
   go_meet
   case rel=>exact hfa
  ·have hkd:((kn:Int) == 0)=false:=by rw [beq_eq_false_iff_ne];omega
   have hsu:=fun k=>sep_any (w.drewN k) a4 c4 hcut4 ap ka s.data.prev.length cp kn kc s.data.prev key (hslp.fr (S:=fun _=>False) ((Fr.refl _ w).drewN k) (fun _ _ h=>h)) (hk.drewN k) (by omega) (by omega) (by omega)
   have hFA:∀ k e wx,SRes (.slice a4 0 c4) (IsSep s.data.prev key) (w.drewN k) e wx→∃ v,e=.returned v∧FAns s key (.slice a4 0 c4) w v wx:=fun k e wx h=>FAns.of h (fun sp hp=>⟨.inr ⟨hp.1,fun _=>hp.2.1⟩,hp.2.2⟩)
   go_wp2_with fail
   refine wp_tail 17 (by kernel_rfl) ?_;simp only [List.take_succ_cons,List.take_zero,List.drop_succ_cons,List.drop_zero];repeat still_step
   refine wpStill_nil ?_;go_wp2_with (go_at_call 179;refine (hsu _).mono ?_;rintro e w1 hres;obtain ⟨v,rfl,hfa⟩:=hFA _ _ _ hres;clear hres)
   go_meet
   case rel=>exact hfa
 case rest =>
  go_upto_region 5 with fail
  go_cut [4,51] (fun v t wx=>FAns2 s key (.slice a4 0 c4) w v t wx)
  case first =>
   rcases hcut with ⟨rfl,hf1⟩ | ⟨a5,c5,sp,rfl,hne,ho5,hn5,hf5,hP⟩
   ·go_wp2_with fail
    go_meet
    case rel=>exact .inl ⟨rfl,rfl,hf1⟩
   ·have h5n:a5.isNone=false:=by
     obtain ⟨_,ho⟩:=ho5;rcases ho with ⟨e,hx⟩ | ⟨g,cap,cur,e,_⟩
     ·exact absurd (by simpa [bv,Lib.byteCells] using hx) hne
     ·simp only [Value.slice.injEq] at e;rw [e.1];rfl
    go_wp2_with fail
    go_meet
    case rel=>exact .inr ⟨a5,c5,sp,rfl,rfl,hne,ho5,hn5,hf5,hP⟩
  case rest =>
   go_upto_if 51 with fail
   have h:=HH.out;go_cut [4] (fun v wx=>∃ lab5 C5 OD5 OI5 OF5 sa sc sep,v=.slice sa sep.length sc∧FMid base b bb bs n s key w wx sa sep.length sc lab5 C5 OD5 OI5 OF5 sep)
   case first =>
    rcases hcut with ⟨rfl,rfl,hf1⟩ | ⟨a5,c5,sp,rfl,rfl,hne,ho5,hn5,hf5,hP⟩
    ·have g1:WW base wc b bb bs n lab C OD OI OF s:=h.ext (fun k hk=>hf1.block k hk (fun h=>h));have hb1:Below base w wc:=by
      have h1:=h.low b (by rw [h.labB];decide);have h2:=h.data.ub.blk.lt;exact ⟨hf1.os,hf1.tape,hf1.output,hf1.size,fun k hk=>hf1.block k (by omega) (fun h=>h)⟩
     have hm:FMid base b bb bs n s key w wc ap s.data.prev.length cp lab C OD OI OF s.data.prev:=⟨g1,hb1,hslp.fr (S:=fun _=>False) hf1 (fun _ _ h=>h),hawp,⟨.inl rfl,Nat.le_refl _⟩⟩;have hz74':=g1.data.ub.blk.cell hvp;go_wp2_with fail
     go_meet
     case rel=>exact ⟨_,_,_,_,_,_,_,_,rfl,hm⟩
    ·have hfb:Blk wc b C 117:=h.data.ub.blk.fr hf5 (fun e=>by have:=hl4 b (hcb4 ▸ e);rw [h.labB] at this;cases this);have hz271':=hfb.cell hv4;have hfr271:=hfb.free 271;have hso:=h.setScr hv4 (hf5.mono (fun k _ e=>hcb4 ▸ e)) ho5 (fun k e=>(hn5 k e).imp (fun e=>hcb4 ▸ e) id);obtain ⟨⟨lab5,C5,OD5,OI5,OF5,g5,hlab5⟩,hb5⟩:=hso;have hm:FMid base b bb bs n s key w (wc.setCell ⟨b,271,none⟩ (.slice a5 sp.length c5)) a5 sp.length c5 lab5 C5 OD5 OI5 OF5 sp:=by
      obtain ⟨v',m',cs',hv',ho',hl'⟩:=g5.cscr;have hB5:C5[271]?=some (.slice a5 sp.length c5):=by
       have hsz:=h.size;have h1:=g5.data.ub.blk;have h2:=hfb.set 271 (.slice a5 sp.length c5);unfold Blk at h1 h2;rw [h2] at h1;simp only [Option.some.injEq,Obj.cells.injEq] at h1;rw [← h1.1];exact Array.getElem?_setIfInBounds_self_of_lt (by omega)
      obtain rfl:=Option.some.inj (hB5.symm.trans hv');have hkeep:(wc.setCell ⟨b,271,none⟩ (.slice a5 sp.length c5)).ownsRow 0 5 1 (.slice a5 sp.length c5) sp.length (bv sp):=own_keep ho5 (fun k hk'=>Below.heap_setCell _ _ _ k (by
       simp;intro e;have:=hl' k hk';rw [e,g5.labB] at this;cases this))
      exact ⟨g5,hb5,own_sl hkeep,fun g p ha _=>by subst ha;exact .inr (hl' g rfl),hP⟩
     go_wp2_with fail
     go_meet
     case rel=>exact ⟨_,_,_,_,_,_,_,_,rfl,hm⟩
   case rest =>
    obtain ⟨lab5,C5,OD5,OI5,OF5,sa,sc,sep,rfl,hm⟩:=hcut;clear hz218 hz2 hz271 hz74 hsl4 h;obtain ⟨w5,hw5⟩:∃ w5,w5=wc:=⟨_,rfl⟩;rw [← hw5] at hm ⊢;clear hw5;obtain ⟨w6,C6,hw6,hC6,hm6,hs6⟩:=hm.enc hpo hpl2;have g5:=hm.ww;have hq217:=g5.data.ub.blk.cell g5.po;have hq218:=g5.data.ub.blk.cell g5.pl;have hsz5:=g5.size;have henc:∀ k,Calls Tryz.prog 51 #[.slice (some ⟨b,221,none⟩) 20 50,.agg #[.int .u64 s.po,.int .u64 s.pl]] (w5.drewN k) fun e w'=>e=.returned (.int .i64 (hdl s.po s.pl).length)∧∃ j,w'=w6.drewN j:=fun k =>
     (encodeBH_any b 221 20 50 s.po s.pl hpo hpl2 (w5.drewN k) C5 117 (g5.data.ub.blk.drewN k) (by omega) (by omega) (by omega)).mono (by
      rintro e w' ⟨he,j,rfl⟩;exact ⟨he,k+j,by rw [hw6];simp [go_sem]⟩)
    have hl10:(hdl s.po s.pl).length≤10:=by
     have h1:=uvarint_len5 hpo;have h2:=uvarint_len5 hpl2;unfold hdl;rw [List.length_append];omega
    have happ:=hm6.rest hpr hl10 hs6 hib hin hir hip hri;have HL:=hid hl10;have HS:=hid hm.sep;clear g5 hm hm6 hs6 hw6 hC6 hl10;go_wp2_with fail
    refine wp_tail 8 (by kernel_rfl) ?_;simp only [List.take_succ_cons,List.take_zero,List.drop_succ_cons,List.drop_zero];repeat still_step
    refine wpStill_nil ?_;go_wp2_with (go_at_call 51;refine (henc _).mono ?_;rintro e w7 ⟨rfl,j7,rfl⟩)
    have hl10:=HL.out;generalize hLH:(hdl s.po s.pl).length=LH at *;have hsl115:=fun w'=>run_s115 b 221 LH (by omega) w'
    go_wp2_with fail
    refine wp_tail 9 (by kernel_rfl) ?_;simp only [List.take_succ_cons,List.take_zero,List.drop_succ_cons,List.drop_zero];repeat still_step
    refine wpStill_nil ?_;go_wp2_with fail
    refine (happ _).mono ?_;rintro e w8 ⟨rfl,lab8,C8,OD8,OI8,OF8,g8,hb8⟩;obtain ⟨vp8,hvp8,hop8,hpp8⟩:=g8.data.prev;obtain ⟨ap8,cp8,rfl,_,hpm8,_⟩:=own_form hop8;have hz8:w8.cell? ⟨b,74,none⟩=some (.slice ap8 s.data.prev.length cp8):=g8.data.ub.blk.cell hvp8;have hff74:=g8.data.ub.blk.free 74;have hff217:=g8.data.ub.blk.free 217;have hff218:=g8.data.ub.blk.free 218;have hq8p:=g8.data.ub.blk.cell g8.po
    have hq8l:=g8.data.ub.blk.cell g8.pl;have hend:=flp_end g8 hb8 hvp8;have hsl8:∀ w',(Instr.slice 29 (.slice ap8 s.data.prev.length cp8) none (some (.int .i64 0)) none).run Tryz.prog w'=.ok (.slice ap8 0 cp8) w':=fun w'=>run_slice_hi (P:=Tryz.prog) 29 5 un29 sz5 .i64 ap8 s.data.prev.length cp8 0 (by omega) w'
    have HE:=hid hend;clear hend happ henc;dsimp only;go_wp2
    go_end0
    exact ⟨rfl,_,HS.out,HE.out⟩
def FlTo (s:WS) (key:List UInt8) (s1:WS):Prop :=
 (s.pl=0∧s1=s)∨(0 < s.pl∧∃ sep,SepFor s.data.prev key sep∧s1={ s with index:=s.index.append sep (hdl s.po s.pl),data:={ s.data with prev:=[] },po:=0,pl:=0 })
theorem flp_any (w:World) (base b bb bs n:Nat) (s:WS) (h:WIn base w b bb bs n s) (hpo:s.po < 34359738368) (hpl2:s.pl < 34359738368) (ka:Option Addr) (kn kc:Nat) (key:List UInt8) (hk:Sl w ka kn kc key) (hkn:kn≤4294967295) (hpr:s.data.prev.length≤134217728)
  (hib:s.index.buf.length≤134217728) (hin:s.index.n≤134217728) (hir:s.index.rs.length≤134217728) (hip:s.index.prev.length≤134217728) (hri:s.index.ri=1) :
  Calls Tryz.prog 43 #[.pointer (some ⟨b,0,none⟩),.slice ka kn kc] w fun e w'=>e=.returned (.tuple #[])∧∃ s1,FlTo s key s1∧WIn base w' b bb bs n s1∧Below base w w':=by
 rcases Nat.eq_zero_or_pos s.pl with h0 | h0
 ·refine (flp_none w base b bb bs n s h h0 _).mono ?_;rintro e w' ⟨rfl,rfl⟩;exact ⟨rfl,s,.inl ⟨h0,rfl⟩,h,Below.refl _ _⟩
 ·refine (flp_some w base b bb bs n s h h0 hpo hpl2 ka kn kc key hk hkn hpr hib hin hir hip hri).mono ?_;rintro e w' ⟨rfl,sep,hs,hw,hb⟩;exact ⟨rfl,_,.inr ⟨h0,sep,hs,rfl⟩,hw,hb⟩
end
end Go.Proofs.YtmkdpjicgjhhjaaGreatDoor
