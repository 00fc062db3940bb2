/- Part 46 of the proof of FnTableComesBack: contracts and lemmas, each under the conditions that it states. Texts: NRd. -/
import Derived.Test.YtmkdpjicgjhhjaaGreatDoorC45
import Derived.Test.YtmkdpjicgjhhjaaGreatDoorC19
import Derived.Test.YtmkdpjicgjhhjaaGreatDoorC35
import Derived.Deep.CutBlock
import Derived.Handy
namespace Go.Proofs.YtmkdpjicgjhhjaaGreatDoor
open Go.Lib (hid)
set_option maxRecDepth 100000
set_option linter.all false
section
open Go Go.RowKit Go.Shelf
def nrC (rd o:Nat) (fv:Value) (de mo ml io il fo fl:Nat) (ix fb:Value):Array Value:=#[.int .i64 0,.int .i64 0,.iface 64 (.pointer (some ⟨rd,0,none⟩)),.nilIface,.pointer none,.pointer (some ⟨o,0,none⟩),.iface 192 (.agg #[]),fv,.bool true,.int .i64 de,.int .u64 mo,.int .u64 ml,.int .u64 io,.int .u64 il,.int .u64 fo,.int .u64 fl,ix,fb]
structure NrS (w:World) (r:Nat) (C:Array Value) (w':World):Prop where
 blk:Blk w' r C 144
 bl:Below w.heap.size w w'
 lr:w.heap.size≤r
section
variable {w w' w'':World} {r:Nat} {C:Array Value}
theorem NrS.below (h:NrS w r C w') (hb:Below w'.heap.size w' w''):NrS w r C w'':=⟨(hb.block r h.blk.lt).trans h.blk,h.bl.trans (hb.mono h.bl.size),h.lr⟩
theorem NrS.fr (h:NrS w r C w') {S:Nat→Prop} (hf:Fr S w' w'') (hr:¬ S r) (hs:∀ k,S k→w.heap.size≤k):NrS w r C w'':=⟨h.blk.fr hf hr,h.bl.trans (hf.below h.bl.size (fun k hk e=>by have:=hs k e;omega)),h.lr⟩
theorem NrS.set (h:NrS w r C w') (j:Nat) (v:Value):NrS w r (C.setIfInBounds j v) (w'.setCell ⟨r,j,none⟩ v):=⟨h.blk.set j v,h.bl.setCell (p:=⟨r,j,none⟩) h.lr v,h.lr⟩
theorem NrS.file (h:NrS w r C w') {rd fc:Nat} {fa:Option Addr} {F:Bs} (hf:FR' w rd fa fc F):FR' w' rd fa fc F:=hf.fr (S:=fun _=>False) (Fr.of_below h.bl) (fun h=>h) (fun _ _ h=>h)
end
def NrM (w:World) (r rd o:Nat) (T:TI) (MO ML IO IL g mp:Nat) (wx:World):Prop :=
 ∃ fv de fo fl X c d st cur,NrS w r (nrC rd o fv de MO ML IO IL fo fl (.pointer none) (.pointer none)) wx∧BC wx g X c d 0 d.es.length st cur∧c.p=mp∧c.x2=.nilIface∧(∀ k,X k∨k=mp→w.heap.size≤k∧k≠r) ∧
  ((T.n=0∧fv=.nilIface)∨(0 < T.n∧fv=.iface 194 (.int .i64 T.n)∧fo=(dbytes T.ri T.B).length∧fl=T.fd.length))
theorem nr_done {w wx:World} {r rd fc o:Nat} {fa:Option Addr} {T:TI} {fv fb:Value} {de MO ML IO IL fo fl ixp ixq:Nat} (hN:NrS w r (nrC rd o fv de MO ML IO IL fo fl (.pointer (some ⟨ixp,0,none⟩)) fb) wx) (hF:FR' w rd fa fc T.F) (ho:OptAt w o T.bs T.ri T.n) (hok:T.ok)
  (hIO:(dfile T.n T.ri T.B T.fd++sealB (metaB T.n T.ri T.B T.fd)).length=IO) (hIL:(indexB T.ri T.B T.sp).length=IL) (hix:BE wx ixp ixq IO IL 1 [] (ients T.ri T.B T.sp))
  (hfil:(T.n=0∧fv=.nilIface)∨(0 < T.n∧fv=.iface 194 (.int .i64 T.n)∧∃ f q fs,fb=.pointer (some ⟨f,0,none⟩)∧FBk wx f q T.fd fs∧f < wx.heap.size∧q < wx.heap.size∧FOk T fs)):∃ C,RD wx.heap.size wx r C T:=by
 have hs:=hN.bl.size;have h1:=hF.blk.lt;have h2:=lt_of_heap ho;exact ⟨⟨rd,fa,fc,o,fv,de,MO,ML,IO,IL,fo,fl,ixp,ixq,fb⟩,hN.blk,hN.file hF,hix,hIO.symm,hIL.symm,ho.keep (hN.bl.block o h2),hfil,hN.blk.lt,by show rd < _;omega,by show o < _;omega,hix.rb.blk.lt,hix.rb.qlt,fun p hp=>by
  have hf:T.F.length≠0:=by
   have:=hok.tab.foot.1;have h3:T.F.length=(dfile T.n T.ri T.B T.fd++sealB (metaB T.n T.ri T.B T.fd)++sealB (indexB T.ri T.B T.sp)).length+48:=by show (tabFile T.n T.ri T.B T.sp T.fd).length=_;rw [tab_eq,List.length_append,this]
   omega
  obtain ⟨b,o',e,hc⟩:=hF.sl.cell 0 (by omega);have hp':fa=some p:=hp;rw [e] at hp';cases hp'
  have:=lt_of_cell hc;show b < _
  omega,hok,Nat.le_refl _⟩
theorem tabFoot_eq (n ri:Nat) (B:List DB) (sp:List Bs) (fd:Bs):∃ r,tabFoot n ri B sp fd=hdl (dfile n ri B fd).length (metaB n ri B fd).length++(hdl (dfile n ri B fd++sealB (metaB n ri B fd)).length (indexB ri B sp).length++r) :=
 ⟨_,by unfold tabFoot footer;simp only [List.append_assoc];rfl⟩
theorem footer_magic {mo ml io il:Nat} (h:(footer mo ml io il).length=48):(footer mo ml io il).drop 40=magic:=by
 have hm:magic.length=8:=rfl;unfold footer at *;rw [List.length_append,hm] at h;exact List.drop_left' (by omega)
set_option maxHeartbeats 16000000 in
theorem newReader_any (w:World) (rd fc o:Nat) (fa:Option Addr) (T:TI) (hok:T.ok) (h:FR' w rd fa fc T.F) (ho:OptAt w o T.bs T.ri T.n) :
  Calls Tryz.prog 23 #[.iface 64 (.pointer (some ⟨rd,0,none⟩)),.int .i64 (T.F.length:Int),.agg #[.int .i64 0,.int .i64 0],.pointer none,.pointer (some ⟨o,0,none⟩)] w fun e w' =>
   ∃ r,e=.returned (.tuple #[.pointer (some ⟨r,0,none⟩),.nilIface])∧(∃ C,RD w'.heap.size w' r C T)∧Below w.heap.size w w':=by
 obtain ⟨hf48,hb1,hb2,hb3,hb4,hFL⟩:=hok.tab.foot;have hft:=hok.tab.footAt;have hmax:=hok.tab.len;have hFl:T.F.length=(tabFile T.n T.ri T.B T.sp T.fd).length:=rfl;have h48:48≤T.F.length∧T.F.length≤268435456:=by
  have h1:(tabFile T.n T.ri T.B T.sp T.fd).length=(dfile T.n T.ri T.B T.fd++sealB (metaB T.n T.ri T.B T.fd)++sealB (indexB T.ri T.B T.sp)).length+48:=by rw [tab_eq,List.length_append,hf48]
  rw [hFl];omega
 have hol:=lt_of_heap ho;have hrdl:=h.blk.lt;have HO:=hid ho;have HF:=hid h;have HOK:=hid hok;have HFT:=hid (show T.F.drop (T.F.length - 48)=tabFoot T.n T.ri T.B T.sp T.fd∧(tabFoot T.n T.ri T.B T.sp T.fd).length=48 from ⟨hft,hf48⟩);have HBD:=hid (show (dfile T.n T.ri T.B T.fd).length < 34359738368∧(metaB T.n T.ri T.B T.fd).length < 34359738368∧(dfile T.n T.ri T.B T.fd++sealB (metaB T.n T.ri T.B T.fd)).length < 34359738368∧(indexB T.ri T.B T.sp).length < 34359738368 from ⟨hb1,hb2,hb3,hb4⟩)
 clear hf48 hb1 hb2 hb3 hb4 hft hmax hFl hFL hok;generalize hFLn:T.F.length=FL at *;have HFL:=hid hFLn;clear hFLn;have hlt48:((FL:Int) < 48)=False:=by simp;omega
 have hw13:IntKind.i64.wrap ((FL:Int) - 48)=((FL - 48:Nat):Int):=by rw [show (FL:Int) - 48=((FL - 48:Nat):Int) by omega];exact IntWalk.i64_in _ (by omega)
 go_enter Tryz.func23,Tryz.ntmps23
 go_upto_region 3 with fail
 obtain ⟨w1,hw1⟩:∃ w1,w1=w.alloc (Obj.cells #[Value.int IntKind.i64 0,Value.int IntKind.i64 0] 68):=⟨_,rfl⟩;have hbx:Blk w1 w.heap.size #[Value.int IntKind.i64 0,Value.int IntKind.i64 0] 68:=by rw [hw1];exact Blk.new _ _ _
 have hs1:w1.heap.size=w.heap.size+1:=by rw [hw1];simp
 have hb1:Below w.heap.size w w1:=by rw [hw1];exact (Below.refl _ _).alloc (Nat.le_refl _) _
 have ho1:OptAt w1 o T.bs T.ri T.n:=HO.out.keep (hb1.block o hol);rw [← hw1];clear hw1 ho h;refine Pos.start (fun W:World=>OptAt W o T.bs T.ri T.n∧W.cell? ⟨w.heap.size,0,none⟩=some (.int .i64 0)∧W.cell? ⟨w.heap.size,1,none⟩=some (.int .i64 0)) 10 (by kernel_rfl) ?_;have hS:(fun W:World=>OptAt W o T.bs T.ri T.n∧W.cell? ⟨w.heap.size,0,none⟩=some (.int .i64 0)∧W.cell? ⟨w.heap.size,1,none⟩=some (.int .i64 0)) (w1.drewN 1):=⟨ho1,hbx.cell (k:=0) rfl,hbx.cell (k:=1) rfl⟩
 refine Pos.toG 11 #[false,false,false,false,false,false,false,false,false,false,false] rfl (by kernel_rfl) ?_;refine' PosG.takeK (k:=0) hS rfl (by kernel_rfl) (fun _ _ _ h=>h) (by rfl) ?_ ?_;rotate_left
 ·intro W hW;obtain ⟨s1,s2,s3⟩:=hW;go_simp;try with_reducible rfl
 intro K hK;go_simp;refine hK _ ?_;clear hK K;refine' PosG.takeK (k:=1) hS rfl (by kernel_rfl) (fun _ _ _ h=>h) (by rfl) ?_ ?_;rotate_left
 ·intro W hW;obtain ⟨s1,s2,s3⟩:=hW;go_simp;try with_reducible rfl
 intro K hK;go_simp;refine hK _ ?_;clear hK K;refine' PosG.takeK (k:=2) hS rfl (by kernel_rfl) (fun _ _ _ h=>h) (by rfl) ?_ ?_;rotate_left
 ·intro W hW;obtain ⟨s1,s2,s3⟩:=hW;go_simp;try with_reducible rfl
 intro K hK;go_simp;refine hK _ ?_;clear hK K;refine' PosG.takeK (k:=3) hS rfl (by kernel_rfl) (fun _ _ _ h=>h) (by rfl) ?_ ?_;rotate_left
 ·intro W hW;obtain ⟨s1,s2,s3⟩:=hW;go_simp;try with_reducible rfl
 intro K hK;go_simp;refine hK _ ?_;clear hK K;refine' PosG.takeK (k:=4) hS rfl (by kernel_rfl) (fun _ _ _ h=>h) (by rfl) ?_ ?_;rotate_left
 ·intro W hW;obtain ⟨s1,s2,s3⟩:=hW;go_simp;try with_reducible rfl
 intro K hK;go_simp;refine hK _ ?_;clear hK K;refine' PosG.takeK (k:=6) hS rfl (by kernel_rfl) (fun _ _ _ h=>h) (by rfl) ?_ ?_;rotate_left
 ·intro W hW;obtain ⟨s1,s2,s3⟩:=hW;go_simp;try with_reducible rfl
 intro K hK;go_simp;refine hK _ ?_;clear hK K;refine' PosG.call (k:=5) 35 #[.pointer (some ⟨o,0,none⟩)] hS rfl (by kernel_rfl) (fun _ _ _ h=>h) (by rfl) ?_ (fun W hW=>getComparer_any hW.1) ?_
 ·intro W hW;obtain ⟨s1,s2,s3⟩:=hW;go_simp;try with_reducible rfl
 intro K hK;go_simp;refine hK _ ?_;clear hK K;refine' PosG.call (k:=7) 54 #[.pointer (some ⟨o,0,none⟩),.int .u64 8] hS rfl (by kernel_rfl) (fun _ _ _ h=>h) (by rfl) ?_ (fun W hW=>getStrict8_any hW.1) ?_
 ·intro W hW;obtain ⟨s1,s2,s3⟩:=hW;go_simp;try with_reducible rfl
 intro K hK;go_simp;refine hK _ ?_;clear hK K;refine' PosG.takeK (k:=8) hS rfl (by kernel_rfl) (fun _ _ _ h=>h) (by rfl) ?_ ?_;rotate_left
 ·intro W hW;obtain ⟨s1,s2,s3⟩:=hW;go_simp;try with_reducible rfl
 intro K hK;go_simp;refine hK _ ?_;clear hK K;refine PosG.eff (k:=9) rfl (by kernel_rfl) ?_;go_wp2_with fail
 have hS2:(fun W:World=>OptAt W o T.bs T.ri T.n∧W.cell? ⟨w.heap.size,0,none⟩=some (.int .i64 0)∧W.cell? ⟨w.heap.size,1,none⟩=some (.int .i64 0)) ((w1.alloc (Obj.cells #[Value.int IntKind.i64 0,Value.int IntKind.i64 0,Value.iface 64 (Value.pointer (some ⟨rd,0,none⟩)),Value.nilIface,Value.pointer none,Value.pointer (some ⟨o,0,none⟩),Value.iface 192 (Value.agg #[]),Value.nilIface,Value.bool true,Value.int IntKind.i64 0,Value.int IntKind.u64 0,Value.int IntKind.u64 0,Value.int IntKind.u64 0,Value.int IntKind.u64 0,Value.int IntKind.u64 0,Value.int IntKind.u64 0,Value.pointer none,Value.pointer none] 144)).drewN 1):=⟨ho1.keep (Below.heap_alloc _ _ _ (lt_of_heap ho1)),(World.cell?_of_block (a:=⟨w.heap.size,0,none⟩) (Below.heap_alloc _ _ _ hbx.lt)).trans (hbx.cell (k:=0) rfl),(World.cell?_of_block (a:=⟨w.heap.size,1,none⟩) (Below.heap_alloc _ _ _ hbx.lt)).trans (hbx.cell (k:=1) rfl)⟩
 refine ⟨hS2,?_⟩;clear hS hS2 ho1;refine PosG.tail rfl (by kernel_rfl) (by kernel_rfl) (by decide) ?_;simp only [List.drop_succ_cons,List.drop_zero];go_upto_region 9 with fail
 generalize hW:World.drewN _ 1=w2;have hs2:w2.heap.size=w.heap.size+3:=by rw [← hW];simp [hs1]
 have hb2:Below w.heap.size w w2:=by rw [← hW];exact (((hb1.alloc (by omega) _).alloc (by simp;omega) _).trans (Below.drewN' _ _ _))
 have hB2:Blk w2 (w.heap.size+1) (nrC rd o .nilIface 0 0 0 0 0 0 0 (.pointer none) (.pointer none)) 144:=by
  rw [← hW,← hs1];exact ((Blk.new w1 _ _).alloc _).drewN 1
 have hG2:Blk w2 (w.heap.size+2) (bv (List.replicate 48 0)).toArray 146:=by
  rw [← hW];have:=(Blk.new (w1.alloc (.cells (nrC rd o .nilIface 0 0 0 0 0 0 0 (.pointer none) (.pointer none)) 144)) (bv (List.replicate 48 0)).toArray 146).drewN 1;rw [show (w1.alloc (.cells (nrC rd o .nilIface 0 0 0 0 0 0 0 (.pointer none) (.pointer none)) 144)).heap.size=w.heap.size+2 by simp [hs1]] at this;exact this
 have hF2:FR' w2 rd fa fc T.F:=HF.out.fr (S:=fun _=>False) (Fr.of_below hb2) (fun h=>h) (fun _ _ h=>h);have hr2:w2.cell? ⟨w.heap.size+1,2,none⟩=some (.iface 64 (.pointer (some ⟨rd,0,none⟩))):=hB2.cell (k:=2) rfl;have hra:=fun k=>readAt_any (w2.drewN k) rd fa fc T.F (hF2.fr (S:=fun _=>False) ((Fr.refl _ _).drewN k) (fun h=>h) (fun _ _ h=>h)) (by rw [HFL.out];omega) (w.heap.size+2) 0 48 48 (FL - 48) _ 146 (hG2.drewN k) (by simp [bv_length]) (by rw [HFL.out];omega) (by omega)
 have HB2:=hid (show Below w.heap.size w w2∧Blk w2 (w.heap.size+1) (nrC rd o .nilIface 0 0 0 0 0 0 0 (.pointer none) (.pointer none)) 144∧Blk w2 (w.heap.size+2) (bv (List.replicate 48 0)).toArray 146 from ⟨hb2,hB2,hG2⟩);clear hW hs1 hb1 hbx hb2 hB2 hG2 hF2;refine Pos.start (fun W:World=>W.cell? ⟨w.heap.size+1,2,none⟩=some (.iface 64 (.pointer (some ⟨rd,0,none⟩)))) 13 (by kernel_rfl) ?_;have hS:(fun W:World=>W.cell? ⟨w.heap.size+1,2,none⟩=some (.iface 64 (.pointer (some ⟨rd,0,none⟩)))) (w2.drewN 1):=hr2
 iterate 8
  refine' Pos.takeK hS rfl (by kernel_rfl) (fun _ _ _ h=>h) (by rfl) ?_ ?_;rotate_left
  ·intro W hW;obtain s1:=hW;go_simp;try with_reducible rfl
  intro K hK;go_simp;refine hK _ ?_;clear hK K
 refine Pos.eff rfl (by kernel_rfl) ?_;go_wp2_with fail
 refine (hra _).mono ?_;rintro e w3 ⟨rfl,hw3⟩;clear hra hS;have hrow:Blk (w2.drewN 1) (w.heap.size+2) (bv (List.replicate 48 0)).toArray 146:=HB2.out.2.2.drewN 1;have hsp:splice (bv (List.replicate 48 0)).toArray 0 (bv ((T.F.drop (FL - 48)).take 48))=(bv (tabFoot T.n T.ri T.B T.sp T.fd)).toArray:=by
  have hft:=HFT.out;have hb:(bv (tabFoot T.n T.ri T.B T.sp T.fd)).length=48:=by rw [bv_length];exact hft.2
  rw [hft.1,List.take_of_length_le (by rw [hft.2];omega)];unfold splice;rw [hb];simp [bv,Lib.byteCells]
 rw [hsp] at hw3;have hb3:Below w.heap.size w w3:=by
  rw [hw3];exact ((Fr.of_below (S:=fun k=>k=w.heap.size+2) (HB2.out.1.trans (Below.drewN' _ w2 1))).setRow (fun _=>rfl) _).below (Nat.le_refl _) (fun k hk=>by omega)
 have hG3:Blk w3 (w.heap.size+2) (bv (tabFoot T.n T.ri T.B T.sp T.fd)).toArray 146:=by rw [hw3];exact hrow.setRow _
 have hB3:Blk w3 (w.heap.size+1) (nrC rd o .nilIface 0 0 0 0 0 0 0 (.pointer none) (.pointer none)) 144:=by
  rw [hw3];exact (setRow_other (w2.drewN 1) _ _ _ (by omega)).trans (HB2.out.2.1.drewN 1)
 have hs3:w3.heap.size=w.heap.size+3:=by rw [hw3];simpa using hs2
 clear hw3 hrow hsp hr2 hs2 HB2;have hr3:w3.cell? ⟨w.heap.size+1,2,none⟩=some (.iface 64 (.pointer (some ⟨rd,0,none⟩))):=hB3.cell (k:=2) rfl;have HB3:=hid hb3;have HG3:=hid hG3;have HR3:=hid hB3;clear hb3 hG3 hB3;try dsimp only
 go_wp2_with fail
 refine ⟨hr3,?_⟩;have hS:(fun W:World=>W.cell? ⟨w.heap.size+1,2,none⟩=some (.iface 64 (.pointer (some ⟨rd,0,none⟩)))) w3:=hr3;iterate 4
  refine' Pos.takeK hS rfl (by kernel_rfl) (fun _ _ _ h=>h) (by rfl) ?_ ?_;rotate_left
  ·intro W hW;obtain s1:=hW;go_simp;try with_reducible rfl
  intro K hK;go_simp;refine hK _ ?_;clear hK K
 refine Pos.tail (by kernel_rfl) (by decide) ?_;simp only [List.drop_succ_cons,List.drop_zero];have hge:w.heap.size≤w.heap.size+1∧w.heap.size+1+1≠w.heap.size+1∧w.heap.size+1+1 < w3.heap.size:=by omega
 have hG3':=HG3.out;rw [show w.heap.size+2=w.heap.size+1+1 from rfl] at hG3';have HG:=hid hG3';clear hG3' HG3 hS hr3 hs3;generalize w.heap.size+1+1=ft at *;generalize w.heap.size+1=r at *;have HGE:=hid hge;have HN:=hid (NrS.mk HR3.out HB3.out hge.1);clear hge HR3 HB3;have hsl3:=sl_row HG.out (by rw [HFT.out.2];unfold maxLen;omega);rw [HFT.out.2] at hsl3;have hmg:Sl w3 (some ⟨ft,40,none⟩) 8 8 magic:=by
  have h1:=hsl3.cut (lo:=40) (by omega);rw [cutA_some (by omega)] at h1;have h2:(tabFoot T.n T.ri T.B T.sp T.fd).drop 40=magic:=footer_magic HFT.out.2;rw [h2] at h1;exact h1
 have hcv:(convert 29 9 (.slice (some ⟨ft,40,none⟩) 8 8)).run Tryz.prog w3=.ok (.string ⟨#[87,251,128,139,36,117,71,219]⟩) w3:=conv_sl hmg;clear hmg;obtain ⟨fr0,hfe⟩:=tabFoot_eq T.n T.ri T.B T.sp T.fd;have hds:=HBD.out;have hml:=hdl_len hds.1 hds.2.1;have hpos1:=hdl_pos (dfile T.n T.ri T.B T.fd).length (metaB T.n T.ri T.B T.fd).length;have hpos2:=hdl_pos (dfile T.n T.ri T.B T.fd++sealB (metaB T.n T.ri T.B T.fd)).length (indexB T.ri T.B T.sp).length
 rw [hfe] at hsl3;have hd1:=decodeBH_any _ _ _ _ _ _ w3 hsl3 hds.1 hds.2.1;have hslc:=(hsl3.cut (lo:=(hdl (dfile T.n T.ri T.B T.fd).length (metaB T.n T.ri T.B T.fd).length).length) (by omega)).of_eq (by rw [List.drop_left]);rw [cutA_some (by omega),Nat.zero_add] at hslc;have hftr:=HGE.out.2.1;have hd2:=fun (w4:World) (hf:Fr (fun k=>k=r) w3 w4)=>decodeBH_any _ _ _ _ _ _ w4 (hslc.fr hf (fun p e h=>by cases e;exact hftr h)) hds.2.2.1 hds.2.2.2
 clear hslc;generalize hMO:(dfile T.n T.ri T.B T.fd).length=MO at *;generalize hML:(metaB T.n T.ri T.B T.fd).length=ML at *;generalize hIO:(dfile T.n T.ri T.B T.fd++sealB (metaB T.n T.ri T.B T.fd)).length=IO at *;generalize hIL:(indexB T.ri T.B T.sp).length=IL at *;generalize (hdl MO ML).length=n1 at *;generalize (hdl IO IL).length=n2 at *;have HE:=hid (show (dfile T.n T.ri T.B T.fd).length=MO∧(metaB T.n T.ri T.B T.fd).length=ML∧(dfile T.n T.ri T.B T.fd++sealB (metaB T.n T.ri T.B T.fd)).length=IO∧(indexB T.ri T.B T.sp).length=IL from ⟨hMO,hML,hIO,hIL⟩)
 have HD2:=hid hd2;have hn1:((n1:Int) == 0)=false:=by rw [beq_eq_false_iff_ne];omega
 have hn2:((n2:Int) == 0)=false:=by rw [beq_eq_false_iff_ne];omega
 have hn3:(n1:Int)≤48:=by omega
 have hn4:¬ 48=n1:=by omega
 clear hsl3 hd2 hMO hML hIO hIL hds hml hpos1 hpos2 HG hfe;go_wp2_with fail
 refine hd1.mono ?_;rintro e w4 ⟨rfl,hb4⟩;have hN4:=HN.out.below hb4;have r10:w4.cell? ⟨r,10,none⟩=some (.int .u64 0):=hN4.blk.cell (k:=10) rfl;have r11:w4.cell? ⟨r,11,none⟩=some (.int .u64 0):=hN4.blk.cell (k:=11) rfl;have f10:=hN4.blk.free 10;have f11:=hN4.blk.free 11;have HN4:=hid hN4;have HB4:=hid hb4;clear hd1 hb4 hN4 HN;try dsimp only
 go_upto_region 20 with fail
 obtain ⟨w5,hw5⟩:∃ w5,w5=(w4.setCell ⟨r,10,none⟩ (.int .u64 MO)).setCell ⟨r,11,none⟩ (.int .u64 ML):=⟨_,rfl⟩;have hN5:NrS w r (nrC rd o .nilIface 0 MO ML 0 0 0 0 (.pointer none) (.pointer none)) w5:=by
  have h1:=(HN4.out.set 10 (.int .u64 MO)).set 11 (.int .u64 ML);rw [hw5];simpa [nrC] using h1
 have hd:=HD2.out w5 (by rw [hw5];exact Fr.setC (S:=fun k=>k=r) (Fr.setC (S:=fun k=>k=r) (Fr.of_below HB4.out) r 10 _ rfl) r 11 _ rfl);have HN5:=hid hN5;rw [← hw5];clear hw5 hN5 HN4 HB4 HD2 r10 r11 f10 f11;go_wp2_with fail
 refine hd.mono ?_;rintro e w6 ⟨rfl,hb6⟩;have hN6:=HN5.out.below hb6;have r12:w6.cell? ⟨r,12,none⟩=some (.int .u64 0):=hN6.blk.cell (k:=12) rfl;have r13:w6.cell? ⟨r,13,none⟩=some (.int .u64 0):=hN6.blk.cell (k:=13) rfl;have f12:=hN6.blk.free 12;have f13:=hN6.blk.free 13;have HN6:=hid hN6;clear hd hb6 hN6 HN5;try dsimp only
 go_upto_region 24 with fail
 obtain ⟨w7,hw7⟩:∃ w7,w7=(w6.setCell ⟨r,12,none⟩ (.int .u64 IO)).setCell ⟨r,13,none⟩ (.int .u64 IL):=⟨_,rfl⟩;have hN7:NrS w r (nrC rd o .nilIface 0 MO ML IO IL 0 0 (.pointer none) (.pointer none)) w7:=by
  have h1:=(HN6.out.set 12 (.int .u64 IO)).set 13 (.int .u64 IL);rw [hw7];simpa [nrC] using h1
 rw [← hw7];clear hw7 HN6 r12 r13 f12 f13;have r10:w7.cell? ⟨r,10,none⟩=some (.int .u64 MO):=hN7.blk.cell (k:=10) rfl;have r11:w7.cell? ⟨r,11,none⟩=some (.int .u64 ML):=hN7.blk.cell (k:=11) rfl;have hmk:∀ e∈metaEs T.n (ffo T.n T.ri T.B) (ffl T.n T.fd),e.1.length≤1073741824:=fun e he=>by
  unfold metaEs at he;split at he
  ·cases he
  ·rw [List.mem_singleton] at he;subst he;simp [fkey]
 have hmb:=readBlock_any w7 r rd fc MO fa T.F (hN7.file HF.out) (by rw [HFL.out];omega) (hN7.blk.cell (k:=2) rfl) (hN7.blk.cell (k:=4) rfl) T.ri [] (metaEs T.n (ffo T.n T.ri T.B) (ffl T.n T.fd)) (by have:=tab_sealedMeta (n:=T.n) (ri:=T.ri) (B:=T.B) (sp:=T.sp) (fd:=T.fd);rw [HE.out.1] at this;exact this) (by have:=HOK.out.ri;omega) hmk;rw [show (bdata T.ri [] (metaEs T.n (ffo T.n T.ri T.B) (ffl T.n T.fd))).length=ML from HE.out.2.1] at hmb
 have HN7:=hid hN7;clear hN7 hmk;go_wp2_with fail
 refine hmb.mono ?_;rintro e w8 ⟨mp,mq,rfl,hmE,hmp,hmq,hmpq,hb8⟩;have hN8:=HN7.out.below hb8;have r9:w8.cell? ⟨r,9,none⟩=some (.int .i64 0):=hN8.blk.cell (k:=9) rfl;have r10:w8.cell? ⟨r,10,none⟩=some (.int .u64 MO):=hN8.blk.cell (k:=10) rfl;have f9:=hN8.blk.free 9;obtain ⟨w9,hw9⟩:∃ w9,w9=w8.setCell ⟨r,9,none⟩ (.int .i64 MO):=⟨_,rfl⟩;have hN9:NrS w r (nrC rd o .nilIface MO MO ML IO IL 0 0 (.pointer none) (.pointer none)) w9:=by
  have h1:=hN8.set 9 (.int .i64 MO);rw [hw9];simpa [nrC] using h1
 have hr7:=HN7.out.blk.lt;have hs78:=hb8.size;have hE9:BE w9 mp mq MO ML T.ri [] (metaEs T.n (ffo T.n T.ri T.B) (ffl T.n T.fd)):=by
  rw [hw9];exact hmE.keep (Below.heap_setCell _ _ _ _ (by show mp≠r;omega)) (Below.heap_setCell _ _ _ _ (by show mq≠r;omega))
 have hni:=newBI_to w9 r mp .nilIface true ⟨mq,MO,ML,T.ri,[],metaEs T.n (ffo T.n T.ri T.B) (ffl T.n T.fd),true⟩ hE9 (.inl rfl) (by have:=HOK.out.ri;show T.ri≤1000;omega);have HN9:=hid hN9;have hmb0:=HN7.out.bl.size;have HMP:=hid (show w.heap.size≤mp∧mp≠r∧mp < w9.heap.size∧r < w9.heap.size∧mq≠r from ⟨by omega,by omega,hE9.rb.blk.lt,hN9.blk.lt,by omega⟩);have hwMO:=IntWalk.wrap64_in (MO:Int) (by have:=HBD.out;omega)
 have HW9:=hid hw9;clear hmb hmE hmp hmq hmpq hb8 hN8 hN9 hE9 hr7 hs78 HN7 hw9 r11 hmb0;try dsimp only
 go_wp2_with fail
 rw [← HW9.out];clear hwMO r9 r10 f9;refine hni.mono ?_;rintro e w10 ⟨g,c,st,rfl,hbc,_,hcp,hcx,hb10,_⟩;have hN10:=HN9.out.below hb10;have HBC:=hid (show BC w10 g (fun k=>w9.heap.size≤k∧k < w10.heap.size) c ⟨mq,MO,ML,T.ri,[],metaEs T.n (ffo T.n T.ri T.B) (ffl T.n T.fd),true⟩ 0 (metaEs T.n (ffo T.n T.ri T.B) (ffl T.n T.fd)).length st 0∧c.p=mp∧c.x2=.nilIface from ⟨hbc,hcp,hcx⟩);have HN10:=hid hN10;clear hni hbc hcp hcx hb10 hN10 HN9 HW9
 try dsimp only
 go_upto_block 0 with fail
 go_cut [] (fun wx=>NrM w r rd o T MO ML IO IL g mp wx)
 case first =>
  go_wp2_with fail
  go_loopw [] (fun wr=>wr=w10) (fun _=>0)
  case atStart=>rfl
  case round =>
   rw [hrel];clear hrel;by_cases hn0:T.n=0
   ·have hm0:metaEs T.n (ffo T.n T.ri T.B) (ffl T.n T.fd)=[]:=by unfold metaEs;rw [if_pos hn0]
    have hnx:=HBC.out.1.next;rw [hm0] at hnx;have HX:=hid (show NrS w r (nrC rd o .nilIface MO MO ML IO IL 0 0 (.pointer none) (.pointer none)) w10∧r < w9.heap.size∧w.heap.size≤mp∧mp≠r∧w.heap.size≤r from ⟨HN10.out,HMP.out.2.2.2.1,HMP.out.1,HMP.out.2.1,HN10.out.lr⟩);rw [show nxt 0 ([]:List KV).length 0=1 from rfl,decide_eq_false (by simp)] at hnx;go_wp2_with fail
    refine hnx.mono ?_;rintro e w11 ⟨rfl,hbc,hf⟩;have HR:Hid (NrM w r rd o T MO ML IO IL g mp w11):=hid (by
     obtain ⟨x1,x2,x3,x4,x5⟩:=HX.out;have hs9:=HN10.out.bl.size;have hw9:w.heap.size≤w9.heap.size:=by omega
     refine ⟨_,_,_,_,_,_,_,_,_,x1.fr hf (fun e=>by omega) (fun k hk=>by omega),hbc,HBC.out.2.1,HBC.out.2.2,fun k hk=>?_,.inl ⟨hn0,rfl⟩⟩;rcases hk with (hk | hk) | hk
     ·exact ⟨by omega,by omega⟩
     ·exact ⟨by omega,by have:=x1.blk.lt;omega⟩
     ·rw [hk];exact ⟨x3,x4⟩)
    clear hnx hbc hf;try dsimp only
    go_wp2_with fail
    go_meet
    case rel=>exact HR.out
   ·have hn1':0 < T.n:=by omega
    have hff:ffo T.n T.ri T.B=(dbytes T.ri T.B).length:=by unfold ffo;rw [if_neg hn0]
    have hffl:ffl T.n T.fd=T.fd.length:=by unfold ffl;rw [if_neg hn0]
    have hm1:metaEs T.n (ffo T.n T.ri T.B) (ffl T.n T.fd)=[(fkey,hdl (dbytes T.ri T.B).length T.fd.length)]:=by rw [hff,hffl];unfold metaEs;rw [if_neg hn0]
    have hsf:(dbytes T.ri T.B).length+T.fd.length≤268435456:=by
     have h1:=(tab_sealedFilt (n:=T.n) (ri:=T.ri) (B:=T.B) (sp:=T.sp) (fd:=T.fd) hn0).len;have h2:=HOK.out.tab.len;omega
    have hnx:=HBC.out.1.next;have hL:(metaEs T.n (ffo T.n T.ri T.B) (ffl T.n T.fd)).length=1:=by rw [hm1];rfl
    rw [hL,show nxt 0 1 0=1 from rfl,decide_eq_true (Nat.le_refl 1)] at hnx;clear hff hffl hn0;go_wp2_with fail
    refine hnx.mono ?_;rintro e w11 ⟨rfl,hbc,hf⟩;clear hnx;have hX9:∀ k,w9.heap.size≤k∧k < w10.heap.size→w.heap.size≤k∧k≠r:=fun k hk=>by
     have h1:=HMP.out;have h2:=HN10.out.lr;omega
    have hN11:=HN10.out.fr hf (fun e=>(hX9 r e).2 rfl) (fun k hk=>(hX9 k hk).1);have hgr:∀ k,grow (fun k=>w9.heap.size≤k∧k < w10.heap.size) w10 w11 k→w.heap.size≤k∧k≠r:=fun k hk=>by
     rcases hk with hk | hk
     ·exact hX9 k hk
     ·have h1:=HN10.out.blk.lt;have h2:=HN10.out.lr;omega
    obtain ⟨ek,v,n,c',hek,hsk,_,hk⟩:=hbc.key (k:=0) rfl (by omega);have hek':ek=(fkey,hdl (dbytes T.ri T.B).length T.fd.length):=by
     rw [show (⟨mq,MO,ML,T.ri,[],metaEs T.n (ffo T.n T.ri T.B) (ffl T.n T.fd),true⟩:DBk).es=metaEs T.n (ffo T.n T.ri T.B) (ffl T.n T.fd) from rfl,hm1] at hek;exact (Option.some.inj hek).symm
    subst hek';have hcv:=conv_sl hsk;rw [show (⟨(fkey,hdl (dbytes T.ri T.B).length T.fd.length).1.toArray⟩:ByteArray)=fkeyS from rfl] at hcv;have hpx:=hasPrefix_any w11;have hks:fkeyS.size=33:=by decide
    have hke:fkeyS.extract 7 33=⟨#[108,101,118,101,108,100,98,46,66,117,105,108,116,105,110,66,108,111,111,109,70,105,108,116,101,114]⟩:=by decide
    generalize fkeyS=KS at *;have hgf:=getFilter_any (HO.out.keep (hN11.bl.block o hol):OptAt w11 o T.bs T.ri T.n);rw [show filtV T.n=.iface 194 (.int .i64 T.n) by unfold filtV;rw [if_neg (by omega)]] at hgf;have hnm:=name_any w11 (.int .i64 T.n);have r7:w11.cell? ⟨r,7,none⟩=some .nilIface:=hN11.blk.cell (k:=7) rfl;have f7:=hN11.blk.free 7;obtain ⟨w12,hw12⟩:∃ w12,w12=w11.setCell ⟨r,7,none⟩ (.iface 194 (.int .i64 T.n)):=⟨_,rfl⟩
    have hN12:NrS w r (nrC rd o (.iface 194 (.int .i64 T.n)) MO MO ML IO IL 0 0 (.pointer none) (.pointer none)) w12:=by
     have h1:=hN11.set 7 (.iface 194 (.int .i64 T.n));rw [hw12];simpa [nrC] using h1
    have hq:mq≠r∧c.p≠r:=⟨HMP.out.2.2.2.2,by rw [HBC.out.2.1];exact HMP.out.2.1⟩;have hbc12:BC w12 g _ c ⟨mq,MO,ML,T.ri,[],metaEs T.n (ffo T.n T.ri T.B) (ffl T.n T.fd),true⟩ 0 1 st 1:=hbc.keep (w':=w12) (fun k _ hk=>by
     rw [hw12];refine Below.heap_setCell _ _ _ _ ?_;show k≠r
     rcases hk with hk | hk | hk
     ·exact (hgr k hk).2
     ·rw [hk];exact hq.2
     ·rw [hk];exact hq.1)
    obtain ⟨ev,o',c'',hev,hsv,hvl⟩:=hbc12.value (k:=0) rfl (by omega);have hev':ev=(fkey,hdl (dbytes T.ri T.B).length T.fd.length):=by
     rw [show (⟨mq,MO,ML,T.ri,[],metaEs T.n (ffo T.n T.ri T.B) (ffl T.n T.fd),true⟩:DBk).es=metaEs T.n (ffo T.n T.ri T.B) (ffl T.n T.fd) from rfl,hm1] at hev;exact (Option.some.inj hev).symm
    subst hev';have hdc:=decodeBH_any _ _ _ (dbytes T.ri T.B).length T.fd.length [] w12 (by rw [List.append_nil];exact hsv) (by omega) (by omega);have hps:=hdl_pos (dbytes T.ri T.B).length T.fd.length;have HBC12:=hid hbc12;have HN12:=hid hN12;have HGR:=hid hgr;have HW12:=hid hw12;clear hbc hf hbc12 hN11 hN12 hgr hX9 hw12 hsk hsv hek hev hm1;generalize hFO:(dbytes T.ri T.B).length=FO at *;generalize hFLn:T.fd.length=FLn at *
    have HFO:=hid (show (dbytes T.ri T.B).length=FO∧T.fd.length=FLn from ⟨hFO,hFLn⟩);clear hFO hFLn;generalize (hdl FO FLn).length=hn at *;have hnz:((hn:Int) == 0)=false:=by rw [beq_eq_false_iff_ne];omega
    try dsimp only
    go_wp2_with fail
    refine hk.mono ?_;rintro e w' ⟨rfl,hw'⟩;rw [hw'];clear hk hw' w';try dsimp only
    go_wp2_with fail
    refine hpx.mono ?_;rintro e w' ⟨rfl,hw'⟩;rw [hw'];clear hpx hw' w';try dsimp only
    go_wp2_with fail
    refine hgf.mono ?_;rintro e w' ⟨rfl,hw'⟩;rw [hw'];clear hgf hw' w';try dsimp only
    go_wp2_with fail
    refine hnm.mono ?_;rintro e w' ⟨rfl,hw'⟩;rw [hw'];clear hnm hw' w';try dsimp only
    go_wp2_with fail
    rw [← HW12.out];refine hvl.mono ?_;rintro e w' ⟨rfl,hw'⟩;rw [hw'];clear hvl hw' w' r7 f7 hcv;try dsimp only
    go_wp2_with fail
    refine hdc.mono ?_;rintro e w13 ⟨rfl,hb13⟩;have hN13:=HN12.out.below hb13;have hlt:=hN13.blk.lt;have r9:w13.cell? ⟨r,9,none⟩=some (.int .i64 MO):=hN13.blk.cell (k:=9) rfl;have r14:w13.cell? ⟨r,14,none⟩=some (.int .u64 0):=hN13.blk.cell (k:=14) rfl;have r15:w13.cell? ⟨r,15,none⟩=some (.int .u64 0):=hN13.blk.cell (k:=15) rfl;have f9:=hN13.blk.free 9;have f14:=hN13.blk.free 14;have f15:=hN13.blk.free 15
    have HR:Hid (NrM w r rd o T MO ML IO IL g mp ((((w13.setCell ⟨r,14,none⟩ (.int .u64 FO)).setCell ⟨r,15,none⟩ (.int .u64 FLn)).setCell ⟨r,9,none⟩ (.int .i64 FO)).alloc (.cells #[.int .u64 FO,.int .u64 FLn] 114))):=hid (by
     have h1:=((hN13.set 14 (.int .u64 FO)).set 15 (.int .u64 FLn)).set 9 (.int .i64 FO);have h2:=h1.below ((Below.refl _ _).alloc (Nat.le_refl _) (.cells #[.int .u64 FO,.int .u64 FLn] 114));have hfr:Fr (fun k=>k=r) w12 ((((w13.setCell ⟨r,14,none⟩ (.int .u64 FO)).setCell ⟨r,15,none⟩ (.int .u64 FLn)).setCell ⟨r,9,none⟩ (.int .i64 FO)).alloc (.cells #[.int .u64 FO,.int .u64 FLn] 114)):=(Fr.setC (S:=fun k=>k=r) (Fr.setC (S:=fun k=>k=r) (Fr.setC (S:=fun k=>k=r) (Fr.of_below hb13) r 14 _ rfl) r 15 _ rfl) r 9 _ rfl).alloc _
     have hno:∀ k,grow (fun k=>w9.heap.size≤k∧k < w10.heap.size) w10 w11 k∨k=c.p∨k=mq→k≠r:=fun k hk'=>by
      rcases hk' with hk' | hk' | hk'
      ·exact (HGR.out k hk').2
      ·rw [hk'];exact hq.2
      ·rw [hk'];exact hq.1
     refine ⟨.iface 194 (.int .i64 T.n),FO,FO,FLn,_,c,⟨mq,MO,ML,T.ri,[],metaEs T.n (ffo T.n T.ri T.B) (ffl T.n T.fd),true⟩,st,1,by simpa [nrC] using h2,(by rw [hL];exact HBC12.out.keep (fun k hk hk'=>hfr.block k hk (fun e=>hno k hk' e))),HBC.out.2.1,HBC.out.2.2,fun k hk=>?_,.inr ⟨hn1',rfl,HFO.out.1.symm,HFO.out.2.symm⟩⟩;rcases hk with hk | hk
     ·exact HGR.out k hk
     ·rw [hk];exact ⟨HMP.out.1,HMP.out.2.1⟩)
    have hwFO:=IntWalk.wrap64_in (FO:Int) (by omega);clear hdc hb13 hN13 hsf hps hL hks hke hn3 hn4 h48 hn1' hq hw13;try dsimp only
    go_wp2_with fail
    go_meet
    case rel=>exact HR.out
 case rest =>
  obtain ⟨fv,de,fo,fl,X,c1,d1,st1,cur1,hN,hbc,hcp1,hcx1,hX,hfv⟩:=hcut;clear HBC HN10 HMP;have hpr:mp≠r∧w.heap.size≤mp:=⟨(hX mp (.inr rfl)).2,(hX mp (.inr rfl)).1⟩;obtain ⟨s1,O1,key1,nodes1,pk1,hBI,hBE,hap,hcov,_⟩:=id hbc;have hgX:=hX g (.inl (hcov g (.inl rfl)));have hrl:=hbc.release' (.inl hcx1);rw [hcp1] at hBE hap;have HN0:=hid hN;have HBE:=hid hBE;have HG:=hid (show mp≠g∧mp≠r∧w.heap.size≤mp∧g≠r∧w.heap.size≤g∧d1.q≠g from ⟨hap.1,hpr.1,hpr.2,hgX.2,hgX.1,hap.2.1⟩)
  have HFV:=hid hfv;clear hN hbc hcp1 hX hfv hBI hBE hap hcov hpr hgX hn1 hn2 hn3 hn4;go_wp2_with fail
  refine hrl.mono ?_;rintro e wa ⟨rfl,hfa,_⟩;have hfa':Fr (fun k=>k=g) wc wa:=hfa.mono (fun k _ h=>h.elim id (fun h=>by rw [hcx1] at h;cases h.2));have hNa:=HN0.out.fr hfa' (fun e=>HG.out.2.2.2.1 e.symm) (fun k hk=>by rw [hk];exact HG.out.2.2.2.2.1);have hrb:Rb wa mp d1.q d1.off d1.len _ _ _:=HBE.out.rb.keep ((hfa'.block _ HBE.out.rb.blk.lt HG.out.1)) (hfa'.block _ HBE.out.rb.qlt HG.out.2.2.2.2.2)
  have hbr:=blkRel_any wa mp _ _ _ _ _ _ hrb;have HNa:=hid hNa;clear hrl hfa hfa' hNa hrb HN0 hcx1;try dsimp only
  go_wp2_with fail
  refine hbr.mono ?_;rintro e wb ⟨rfl,hfb⟩;have hNb:=HNa.out.fr hfb (fun e=>HG.out.2.1 e.symm) (fun k hk=>by rw [hk];exact HG.out.2.2.1);have r12:wb.cell? ⟨r,12,none⟩=some (.int .u64 IO):=hNb.blk.cell (k:=12) rfl;have r13:wb.cell? ⟨r,13,none⟩=some (.int .u64 IL):=hNb.blk.cell (k:=13) rfl;have hib:=readBlock_any wb r rd fc IO fa T.F (hNb.file HF.out) (by rw [HFL.out];omega) (hNb.blk.cell (k:=2) rfl) (hNb.blk.cell (k:=4) rfl) 1 [] (ients T.ri T.B T.sp) (by have:=tab_sealedIndex (n:=T.n) (ri:=T.ri) (B:=T.B) (sp:=T.sp) (fd:=T.fd);rw [HE.out.2.2.1] at this;exact this) (by omega) HOK.out.tab.ikeys
  rw [show (bdata 1 [] (ients T.ri T.B T.sp)).length=IL from HE.out.2.2.2] at hib;have HNb:=hid hNb;clear hbr hfb hNb HNa HBE HG;try dsimp only
  go_wp2_with fail
  refine hib.mono ?_;rintro e wd ⟨ixp,ixq,rfl,hiE,hixp,hixq,_,hbd⟩;have hNd:=HNb.out.below hbd;have r16:wd.cell? ⟨r,16,none⟩=some (.pointer none):=hNd.blk.cell (k:=16) rfl;have f16:=hNd.blk.free 16;obtain ⟨we,hwe⟩:∃ we,we=wd.setCell ⟨r,16,none⟩ (.pointer (some ⟨ixp,0,none⟩)):=⟨_,rfl⟩;have hNe:NrS w r (nrC rd o fv de MO ML IO IL fo fl (.pointer (some ⟨ixp,0,none⟩)) (.pointer none)) we:=by
   have h1:=hNd.set 16 (.pointer (some ⟨ixp,0,none⟩));rw [hwe];simpa [nrC] using h1
  have hrb:=HNb.out.blk.lt;have hiE':BE we ixp ixq IO IL 1 [] (ients T.ri T.B T.sp):=by
   rw [hwe];exact hiE.keep (Below.heap_setCell _ _ _ _ (by show ixp≠r;omega)) (Below.heap_setCell _ _ _ _ (by show ixq≠r;omega))
  have hrd:wd.cell? ⟨r,7,none⟩=some fv:=hNd.blk.cell (k:=7) rfl;have r14:wd.cell? ⟨r,14,none⟩=some (.int .u64 fo):=hNd.blk.cell (k:=14) rfl;have r15:wd.cell? ⟨r,15,none⟩=some (.int .u64 fl):=hNd.blk.cell (k:=15) rfl;have HXR:=hid (show ixp≠r∧ixq≠r from ⟨by omega,by omega⟩);have HNe:=hid hNe;have HIE:=hid hiE';have HWE:=hid hwe;clear hib hiE hixp hixq hbd hNd hNe hiE' hwe hrb HNb r12 r13;rcases HFV.out with ⟨hn0,hfv⟩ | ⟨hn0,hfv,hfo,hfl⟩
  ·subst hfv;have HFIN:Hid (∃ C,RD we.heap.size we r C T):=hid (nr_done HNe.out HF.out HO.out HOK.out HE.out.2.2.1 HE.out.2.2.2 HIE.out (.inl ⟨hn0,rfl⟩));clear hn0;try dsimp only
   go_wp2_with fail
   rw [← HWE.out];go_returns
   exact ⟨r,rfl,HFIN.out,HNe.out.bl⟩
  ·subst hfv;obtain ⟨fs,hfs1,hfs2,hfs3⟩:=HOK.out.tab.filt hn0;have hfr:=readFilter_any we r rd fc fo fa T.F T.fd fs (HNe.out.file HF.out) (by rw [HFL.out];omega) (HNe.out.blk.cell (k:=2) rfl) (HNe.out.blk.cell (k:=4) rfl) (by have:=tab_sealedFilt (n:=T.n) (ri:=T.ri) (B:=T.B) (sp:=T.sp) (fd:=T.fd) (by omega);rw [← hfo] at this;exact this) hfs2;rw [← hfl] at hfr;have HFS:=hid (show FOk T fs∧0 < T.n∧r < we.heap.size from ⟨⟨hfs1,hfs2,hfs3⟩,hn0,HNe.out.blk.lt⟩)
   clear hfs1 hfs2 hfs3 hfo hfl hn0;try dsimp only
   go_wp2_with fail
   rw [← HWE.out];refine hfr.mono ?_;rintro e wf ⟨f,q,rfl,hfb,hf1,hf2,hq1,hq2,hbf⟩;have hNf:=HNe.out.below hbf;have r17:wf.cell? ⟨r,17,none⟩=some (.pointer none):=hNf.blk.cell (k:=17) rfl;have f17:=hNf.blk.free 17;have HFIN:Hid ((∃ C,RD (wf.setCell ⟨r,17,none⟩ (.pointer (some ⟨f,0,none⟩))).heap.size (wf.setCell ⟨r,17,none⟩ (.pointer (some ⟨f,0,none⟩))) r C T)∧Below w.heap.size w (wf.setCell ⟨r,17,none⟩ (.pointer (some ⟨f,0,none⟩)))):=hid (by
    have h1:=hNf.set 17 (.pointer (some ⟨f,0,none⟩));have hs:=HFS.out.2.2;have hfrr:Fr (fun k=>k=r) we (wf.setCell ⟨r,17,none⟩ (.pointer (some ⟨f,0,none⟩))):=Fr.setC (S:=fun k=>k=r) (Fr.of_below hbf) r 17 _ rfl;have hfs2:Fr (fun k=>k=r) wf (wf.setCell ⟨r,17,none⟩ (.pointer (some ⟨f,0,none⟩))):=Fr.setC (S:=fun k=>k=r) (Fr.refl _ wf) r 17 _ rfl;have hxr:ixp≠r∧ixq≠r:=HXR.out;refine ⟨nr_done (fb:=.pointer (some ⟨f,0,none⟩)) (ixp:=ixp) (ixq:=ixq) (by simpa [nrC] using h1) HF.out HO.out HOK.out HE.out.2.2.1 HE.out.2.2.2 (HIE.out.keep (hfrr.block _ HIE.out.rb.blk.lt hxr.1) (hfrr.block _ HIE.out.rb.qlt hxr.2)) (.inr ⟨HFS.out.2.1,rfl,f,q,fs,rfl,⟨hfb.blk.fr hfs2 (by omega),hfb.sl.fr hfs2 (fun p e=>by cases e;show q≠r;omega)⟩,Nat.lt_of_lt_of_le hf2 hfs2.size,Nat.lt_of_lt_of_le hq2 hfs2.size,HFS.out.1⟩),h1.bl⟩)
   clear hfr hfb hf1 hf2 hq1 hq2 hbf hNf r14 r15;try dsimp only
   go_wp2_with fail
   go_returns
   exact ⟨r,rfl,HFIN.out⟩
end
end Go.Proofs.YtmkdpjicgjhhjaaGreatDoor
