/- Part 25 of the proof of FnTableComesBack: contracts and lemmas, each under the conditions that it states. Texts: RRaw2, PTab2. -/
import Derived.Test.YtmkdpjicgjhhjaaGreatDoorC24
import Derived.Handy
namespace Go.Proofs.YtmkdpjicgjhhjaaGreatDoor
open Go.Lib (hid)
set_option maxRecDepth 100000
set_option linter.all false
section
open Go Go.RowKit Go.Shelf
theorem bpget_any (w:World) (n:Nat) (hn:n≤140737488355328):Calls Tryz.prog 121 #[.pointer none,.int .i64 n] w fun e w'=>e=.returned (.slice (some ⟨w.heap.size,0,none⟩) n n)∧w'=w.alloc (.cells (madeCells #[.int .u8 0] n) 5):=by
 have hmk:=fun w=>run_make_row' (P:=Tryz.prog) 29 5 (.int .u8 0) 1 un29 info5 rfl .i64 .i64 n (by omega) (by omega) w
 go_enter Tryz.func121,Tryz.ntmps121
 go_wp2
 go_ret
 exact ⟨rfl,rfl⟩
def Sealed (F:Bs) (off:Nat) (D:Bs):Prop:=∃ post,F.drop off=sealB D++post
theorem Sealed.len {F:Bs} {off:Nat} {D:Bs} (h:Sealed F off D):off+D.length+5≤F.length:=by
 obtain ⟨post,h⟩:=h;have h1:=congrArg List.length h;rw [List.length_drop,List.length_append,sealB_length] at h1;omega
theorem Sealed.take {F:Bs} {off:Nat} {D:Bs} (h:Sealed F off D):(F.drop off).take (D.length+5)=sealB D:=by
 obtain ⟨post,h⟩:=h;rw [h,List.take_left' (sealB_length D)]
theorem splice_all {n:Nat} {l:Bs} (hl:l.length=n):splice (madeCells #[Value.int .u8 0] n) 0 (bv l)=(bv l).toArray:=by
 unfold splice;have h1:(madeCells #[Value.int .u8 0] n).toList.drop (0+(bv l).length)=[]:=List.drop_eq_nil_of_le (by rw [bv_length,hl,Array.length_toList,size_madeCells];omega);rw [h1];simp
theorem sl_row {w:World} {g:Nat} {l:Bs} {T:Nat} (h:Blk w g (bv l).toArray T) (hm:l.length≤maxLen):Sl w (some ⟨g,0,none⟩) l.length l.length l :=
 Sl.mk' rfl (Nat.le_refl _) hm (fun j hj=>by
  rw [Nat.zero_add];refine h.cell ?_;rw [List.getElem?_toArray,bv_get,List.getElem?_eq_getElem hj];rfl)
set_option maxHeartbeats 4000000 in
theorem raw_any (w:World) (r rd fc off:Nat) (fa:Option Addr) (F D:Bs) (h:FR' w rd fa fc F) (hF:F.length≤2147483647) (h2:w.cell? ⟨r,2,none⟩=some (.iface 64 (.pointer (some ⟨rd,0,none⟩)))) (h4:w.cell? ⟨r,4,none⟩=some (.pointer none)) (hs:Sealed F off D) :
  Calls Tryz.prog 100 #[.pointer (some ⟨r,0,none⟩),.agg #[.int .u64 off,.int .u64 D.length],.bool true] w fun e w'=>e=.returned (.tuple #[.slice (some ⟨w.heap.size+1,0,none⟩) D.length (D.length+5),.nilIface]) ∧
   Sl w' (some ⟨w.heap.size+1,0,none⟩) D.length (D.length+5) D∧Below w.heap.size w w':=by
 have hlen:=hs.len;have htk:=hs.take;have hrl:=lt_of_cell h2;have hrdl:=h.blk.lt;obtain ⟨w1,hw1⟩:∃ w1,w1=w.alloc (.cells #[.int .u64 off,.int .u64 D.length] 114):=⟨_,rfl⟩;have hs1:w1.heap.size=w.heap.size+1:=by rw [hw1];simp
 have hb1:Below w.heap.size w w1:=by rw [hw1];exact (Below.refl _ _).alloc (Nat.le_refl _) _
 have hbox:Blk w1 w.heap.size #[.int .u64 off,.int .u64 D.length] 114:=by rw [hw1];exact Blk.new w _ _
 obtain ⟨w2,hw2⟩:∃ w2,w2=w1.alloc (.cells (madeCells #[.int .u8 0] (D.length+5)) 5):=⟨_,rfl⟩;have hb2:Below w.heap.size w w2:=by rw [hw2];exact hb1.alloc (by omega) _
 have hrow:Blk w2 (w.heap.size+1) (madeCells #[.int .u8 0] (D.length+5)) 5:=by rw [hw2,← hs1];exact Blk.new w1 _ _
 have hbox2:Blk w2 w.heap.size #[.int .u64 off,.int .u64 D.length] 114:=by rw [hw2];exact hbox.alloc _
 have hget:∀ k,Calls Tryz.prog 121 #[.pointer none,.int .i64 ((D.length+5:Nat):Int)] (w1.drewN k) fun e w'=>e=.returned (.slice (some ⟨w.heap.size+1,0,none⟩) (D.length+5) (D.length+5))∧w'=w2.drewN k:=fun k=>(bpget_any (w1.drewN k) (D.length+5) (by omega)).mono (fun e w' ⟨q1,q2⟩=>⟨by rw [q1];show Ending.returned (.slice (some ⟨w1.heap.size,0,none⟩) _ _)=_;rw [hs1],by rw [q2,hw2];rfl⟩)
 obtain ⟨w3,hw3⟩:∃ w3,w3=w2.setRow (w.heap.size+1) (bv (sealB D)).toArray:=⟨_,rfl⟩;have hrow3:Blk w3 (w.heap.size+1) (bv (sealB D)).toArray 5:=by rw [hw3];exact hrow.setRow _
 have hbox3:Blk w3 w.heap.size #[.int .u64 off,.int .u64 D.length] 114:=by rw [hw3];exact (setRow_other w2 _ _ _ (by omega)).trans hbox2
 have hb3:Below w.heap.size w w3:=by
  rw [hw3];exact ((Fr.of_below (S:=fun k=>k=w.heap.size+1) hb2).setRow (fun _=>rfl) _).below (Nat.le_refl _) (fun k hk=>by omega)
 have hsl3:=sl_row hrow3 (by rw [sealB_length];unfold maxLen;omega);rw [sealB_length] at hsl3;have hra:∀ k,Calls Tryz.prog 164 #[.pointer (some ⟨rd,0,none⟩),.slice (some ⟨w.heap.size+1,0,none⟩) (D.length+5) (D.length+5),.int .i64 off] (w2.drewN k) fun e w'=>e=.returned (.tuple #[.int .i64 ((D.length+5:Nat):Int),.nilIface])∧w'=w3.drewN k:=fun k=>(readAt_any (w2.drewN k) rd fa fc F (h.fr (S:=fun _=>False) ((Fr.of_below hb2).drewN k) (fun h=>h) (fun _ _ h=>h)) hF (w.heap.size+1) 0 (D.length+5) (D.length+5) off _ 5 (hrow.drewN k) (by rw [size_madeCells];omega) (by omega) (by omega)).mono (fun e w' ⟨q1,q2⟩=>⟨q1,by rw [q2,htk,splice_all (sealB_length D),hw3];rfl⟩)
 have hcl:=crcOf_lt (D++[0]);have hsz:(sealB D).length=D.length+5:=sealB_length D;have hcutn:=hsl3.cut (lo:=D.length+1) (by omega);rw [cutA_some (by omega),show D.length+5 - (D.length+1)=4 by omega,Nat.zero_add] at hcutn;have hdn:(sealB D).drop (D.length+1)=Lib.leBytes 4 (crcOf (D++[0])):=by
  unfold sealB;rw [List.drop_left' (by simp)]
 rw [hdn] at hcutn;have hu:=fun k=>uint32_any _ _ _ _ (w3.drewN k) (hcutn.drewN k) (Nat.le_refl _)
 have hle:Lib.leNat ((Lib.leBytes 4 (crcOf (D++[0]))).take 4)=crcOf (D++[0]):=by
  rw [List.take_of_length_le (by rw [leBytes_length];omega),leNat_leBytes 4 _ (by simpa using hcl)]
 rw [hle] at hu;have htake:=hsl3.take (hi:=D.length+1) (by omega);have htn:(sealB D).take (D.length+1)=D++[0]:=by
  unfold sealB;rw [List.take_left' (by simp)]
 rw [htn] at htake;have htakeD:=hsl3.take (hi:=D.length) (by omega);have htd:(sealB D).take D.length=D:=by
  unfold sealB;rw [List.append_assoc,List.take_left' rfl]
 rw [htd] at htakeD;have hcell:w3.cell? ⟨w.heap.size+1,D.length,none⟩=some (.int .u8 0):=by
  refine hrow3.cell ?_;rw [List.getElem?_toArray,bv_get];unfold sealB;rw [List.append_assoc,List.getElem?_append_right (Nat.le_refl _)];simp
 have hsl1:∀ w',(Instr.slice 29 (.slice (some ⟨w.heap.size+1,0,none⟩) (D.length+5) (D.length+5)) (some (.int .u64 ((D.length:Int)+1))) none none).run Tryz.prog w'=.ok (.slice (some ⟨w.heap.size+1,D.length+1,none⟩) 4 4) w':=fun w'=>by
  have:=run_slice_lo (P:=Tryz.prog) 29 5 un29 sz5 .u64 (some ⟨w.heap.size+1,0,none⟩) (D.length+5) (D.length+5) (D.length+1) (by omega) w';rwa [cutA_some (by omega),show D.length+5 - (D.length+1)=4 by omega,Nat.zero_add] at this
 have hsl2:∀ w',(Instr.slice 29 (.slice (some ⟨w.heap.size+1,0,none⟩) (D.length+5) (D.length+5)) none (some (.int .u64 ((D.length:Int)+1))) none).run Tryz.prog w'=.ok (.slice (some ⟨w.heap.size+1,0,none⟩) (D.length+1) (D.length+5)) w':=fun w' =>
  run_slice_hi (P:=Tryz.prog) 29 5 un29 sz5 .u64 (some ⟨w.heap.size+1,0,none⟩) (D.length+5) (D.length+5) (D.length+1) (by omega) w'
 have hsl4:∀ w',(Instr.slice 29 (.slice (some ⟨w.heap.size+1,0,none⟩) (D.length+5) (D.length+5)) none (some (.int .u64 (D.length:Int))) none).run Tryz.prog w'=.ok (.slice (some ⟨w.heap.size+1,0,none⟩) D.length (D.length+5)) w':=fun w' =>
  run_slice_hi (P:=Tryz.prog) 29 5 un29 sz5 .u64 (some ⟨w.heap.size+1,0,none⟩) (D.length+5) (D.length+5) D.length (by omega) w'
 have hwi:IntKind.i64.wrap ((D.length:Int)+5)=((D.length+5:Nat):Int):=IntWalk.i64_in _ (by omega);have hwo:IntKind.i64.wrap (off:Int)=(off:Int):=IntWalk.i64_in _ (by omega);have hwn:IntKind.u64.wrap ((D.length:Int)+1)=(D.length:Int)+1:=by rw [show (D.length:Int)+1=((D.length+1:Nat):Int) by omega];exact IntWalk.u64_in _ (by omega)
 have hz0:=hbox.cell (k:=0) rfl;have hz1:=hbox.cell (k:=1) rfl;have h21:w1.cell? ⟨r,2,none⟩=some (.iface 64 (.pointer (some ⟨rd,0,none⟩))):=(World.cell?_of_block (a:=⟨r,2,none⟩) (hb1.block r hrl)).trans h2;have h41:w1.cell? ⟨r,4,none⟩=some (.pointer none):=(World.cell?_of_block (a:=⟨r,4,none⟩) (hb1.block r hrl)).trans h4;have h22:w2.cell? ⟨r,2,none⟩=some (.iface 64 (.pointer (some ⟨rd,0,none⟩))):=(World.cell?_of_block (a:=⟨r,2,none⟩) (hb2.block r hrl)).trans h2
 have h23:w3.cell? ⟨r,2,none⟩=some (.iface 64 (.pointer (some ⟨rd,0,none⟩))):=(World.cell?_of_block (a:=⟨r,2,none⟩) (hb3.block r hrl)).trans h2;have hz20:=hbox2.cell (k:=0) rfl;have hz30:=hbox3.cell (k:=0) rfl;have hz31:=hbox3.cell (k:=1) rfl;have hmask:∀ w',Calls Tryz.prog 98 #[.int .u32 (crcRaw (D++[0]))] w' fun e w''=>e=.returned (.int .u32 (crcOf (D++[0]):Nat))∧w'=w'':=fun w'=>mask_any (crcRaw (D++[0])) w'
 have HTK:=hid htake;have HTD:=hid htakeD;have HB3:=hid hb3;have HBX:=hid hbox3;have HR3:=hid hrow3;have HC:=hid hcell;clear h hs htk hrdl hb1 hbox hb2 hrow hbox2 hrow3 hbox3 hb3 hsl3 hcutn hdn hle htake htn htakeD htd hcell hw3 hw2 hsz;go_enter Tryz.func100,Tryz.ntmps100
 go_wp2_with fail
 rw [← hw1];clear hw1;refine wp_tail 8 (by kernel_rfl) ?_;simp only [List.take_succ_cons,List.take_zero,List.drop_succ_cons,List.drop_zero];repeat still_step
 refine wpStill_nil ?_;go_wp2_with fail
 refine (hget _).mono ?_;rintro e wa ⟨rfl,rfl⟩;clear hget hwi;dsimp only;go_upto_region 2 with fail
 refine Pos.start (fun W:World=>W.cell? ⟨r,2,none⟩=some (.iface 64 (.pointer (some ⟨rd,0,none⟩)))∧W.cell? ⟨w.heap.size,0,none⟩=some (.int .u64 off)) 13 (by kernel_rfl) ?_;iterate 8
  refine' Pos.takeK (by exact ⟨h22,hz20⟩) rfl (by kernel_rfl) (fun _ _ _ h=>h) (by rfl) ?_ ?_;rotate_left
  ·intro W hW;obtain ⟨s1,s2⟩:=hW;go_simp;try with_reducible rfl
  intro K hK;go_simp;refine hK _ ?_;clear hK K
 refine Pos.eff rfl (by kernel_rfl) ?_;go_wp2_with fail
 refine (hra _).mono ?_;rintro e wa ⟨rfl,rfl⟩;clear hra hwo;dsimp only;go_wp2_with fail
 refine ⟨⟨h23,hz30⟩,?_⟩;iterate 4
  refine' Pos.takeK (by exact ⟨h23,hz30⟩) rfl (by kernel_rfl) (fun _ _ _ h=>h) (by rfl) ?_ ?_;rotate_left
  ·intro W hW;obtain ⟨s1,s2⟩:=hW;go_simp;try with_reducible rfl
  intro K hK;go_simp;refine hK _ ?_;clear hK K
 refine Pos.tail (by kernel_rfl) (by decide) ?_;simp only [List.drop_succ_cons,List.drop_zero];go_wp2_with fail
 refine wp_tail 4 (by kernel_rfl) ?_;simp only [List.take_succ_cons,List.take_zero,List.drop_succ_cons,List.drop_zero];repeat still_step
 refine wpStill_nil ?_;go_wp2_with fail
 refine (hu _).mono ?_;rintro e w4 ⟨rfl,hb4⟩;clear hu;have hw1:w3.heap.size≤w4.heap.size:=hb4.size;have hb4':Below w3.heap.size w3 w4:=⟨hb4.os,hb4.tape,hb4.output,hb4.size,fun k hk=>hb4.block k hk⟩;have HB4:=hid hb4';have hs3:w.heap.size+2≤w3.heap.size:=by have:=HR3.out.lt;omega
 have hbx4:Blk w4 w.heap.size #[.int .u64 off,.int .u64 D.length] 114:=(hb4'.block _ HBX.out.lt).trans HBX.out;have hz41:=hbx4.cell (k:=1) rfl;have htk4:Sl w4 (some ⟨w.heap.size+1,0,none⟩) (D.length+1) (D.length+5) (D++[0]):=HTK.out.fr (S:=fun _=>False) (Fr.of_below hb4') (fun _ _ h=>h);have hcr:=newcrc_any _ _ _ _ w4 htk4 (by omega);clear hb4 hb4' hbx4 htk4 hz30 hz31 h22 h23 h21 h41 hz20 hz0 hz1;dsimp only
 go_wp2_with fail
 refine hcr.mono ?_;rintro e w5 ⟨rfl,hf5⟩;clear hcr;dsimp only;go_wp2_with fail
 refine (hmask _).mono ?_;rintro e w6 ⟨rfl,rfl⟩;have hb5:Below w3.heap.size w3 w5:=HB4.out.trans (hf5.below hw1 (fun _ _ h=>h));have hbx5:Blk w5 w.heap.size #[.int .u64 off,.int .u64 D.length] 114:=(hb5.block _ HBX.out.lt).trans HBX.out;have hz51:=hbx5.cell (k:=1) rfl;have hc5:w5.cell? ⟨w.heap.size+1,D.length,none⟩=some (.int .u8 0):=(World.cell?_of_block (a:=⟨w.heap.size+1,D.length,none⟩) (hb5.block _ HR3.out.lt)).trans HC.out
 have HFIN:Hid (Sl w5 (some ⟨w.heap.size+1,0,none⟩) D.length (D.length+5) D∧Below w.heap.size w w5):=hid ⟨HTD.out.fr (S:=fun _=>False) (Fr.of_below hb5) (fun _ _ h=>h),HB3.out.trans (hb5.mono (by omega))⟩;have hlt5:D.length < D.length+5:=by omega
 clear hmask hf5 hb5 hbx5 hz41;dsimp only;go_wp2_with fail
 go_returns
 exact ⟨rfl,HFIN.out⟩
end
section
open Go Go.RowKit Go.Shelf
section
variable {n ri:Nat} {l:List KV} {B:List DB} {sp:List Bs} {fd:Bs}
theorem Tab.sealed (h:Tab n ri l B sp fd) {i:Nat} {b:DB} (hb:B[i]?=some b):Sealed (tabFile n ri B sp fd) b.off (b.bytes ri):=by
 have hlt:=lt_of_some hb;have e1:B=B.take i++([b]++B.drop (i+1)):=by
  have h1:=List.drop_eq_getElem_cons hlt;have h2:B[i]=b:=Option.some.inj ((List.getElem?_eq_getElem hlt).symm.trans hb);rw [h2] at h1;rw [List.singleton_append,← h1,List.take_append_drop]
 have e2:dbytes ri B=dbytes ri (B.take i)++(sealB (b.bytes ri)++dbytes ri (B.drop (i+1))):=by
  have:dbytes ri B=dbytes ri (B.take i++([b]++B.drop (i+1))):=congrArg (dbytes ri) e1;rw [this,dbytes_append,dbytes_append];simp [dbytes]
 rw [h.placed i b hb];unfold Sealed tabFile dfile;rw [e2];simp only [List.append_assoc,List.drop_left];exact ⟨_,rfl⟩
theorem tab_sealedMeta:Sealed (tabFile n ri B sp fd) (dfile n ri B fd).length (metaB n ri B fd):=by
 unfold Sealed tabFile;simp only [List.append_assoc,List.drop_left];exact ⟨_,rfl⟩
theorem tab_sealedIndex:Sealed (tabFile n ri B sp fd) (dfile n ri B fd++sealB (metaB n ri B fd)).length (indexB ri B sp):=by
 unfold Sealed tabFile;generalize dfile n ri B fd++sealB (metaB n ri B fd)=X;simp only [List.append_assoc,List.drop_left];exact ⟨_,rfl⟩
theorem tab_sealedFilt (hn:n≠0):Sealed (tabFile n ri B sp fd) (dbytes ri B).length fd:=by
 unfold Sealed tabFile dfile;simp only [if_neg hn,List.append_assoc,List.drop_left];exact ⟨_,rfl⟩
def tabFoot (n ri:Nat) (B:List DB) (sp:List Bs) (fd:Bs):Bs:=footer (dfile n ri B fd).length (metaB n ri B fd).length (dfile n ri B fd++sealB (metaB n ri B fd)).length (indexB ri B sp).length
theorem tab_eq:tabFile n ri B sp fd=dfile n ri B fd++sealB (metaB n ri B fd)++sealB (indexB ri B sp)++tabFoot n ri B sp fd:=rfl
theorem hdl_len {x y:Nat} (hx:x < 34359738368) (hy:y < 34359738368):(hdl x y).length≤10:=by
 have h1:=uvarint_len5 hx;have h2:=uvarint_len5 hy;unfold hdl;rw [List.length_append];omega
theorem Tab.foot (h:Tab n ri l B sp fd):(tabFoot n ri B sp fd).length=48∧(dfile n ri B fd).length < 34359738368∧(metaB n ri B fd).length < 34359738368∧(dfile n ri B fd++sealB (metaB n ri B fd)).length < 34359738368∧(indexB ri B sp).length < 34359738368∧(tabFile n ri B sp fd).length=(dfile n ri B fd).length+(metaB n ri B fd).length+(indexB ri B sp).length+58:=by
 have hl:=h.len;rw [tab_eq] at hl;simp only [List.length_append,sealB_length] at hl;have h1:(dfile n ri B fd).length < 34359738368:=by omega
 have h2:(metaB n ri B fd).length < 34359738368:=by omega
 have h3:(dfile n ri B fd++sealB (metaB n ri B fd)).length < 34359738368:=by simp only [List.length_append,sealB_length];omega
 have h4:(indexB ri B sp).length < 34359738368:=by omega
 have h5:=hdl_len h1 h2;have h6:=hdl_len h3 h4;have h7:(tabFoot n ri B sp fd).length=48:=by
  unfold tabFoot footer;simp only [List.length_append,List.length_replicate,sealB_length] at *;have:magic.length=8:=rfl;omega
 refine ⟨h7,h1,h2,h3,h4,?_⟩;rw [tab_eq];simp only [List.length_append,sealB_length,h7];omega
theorem Tab.footAt (h:Tab n ri l B sp fd):(tabFile n ri B sp fd).drop ((tabFile n ri B sp fd).length - 48)=tabFoot n ri B sp fd:=by
 have h1:=h.foot.1;rw [tab_eq];generalize dfile n ri B fd++sealB (metaB n ri B fd)++sealB (indexB ri B sp)=X;rw [List.length_append,h1,Nat.add_sub_cancel,List.drop_left]
theorem Tab.ilen (h:Tab n ri l B sp fd):(ients ri B sp).length=B.length:=by
 unfold ients;rw [List.length_zipWith,h.spl];omega
theorem Tab.iat (h:Tab n ri l B sp fd) {i:Nat} {e:KV} (he:(ients ri B sp)[i]?=some e):∃ b,B[i]?=some b∧sp[i]?=some e.1∧e.2=hdl b.off (b.bytes ri).length:=by
 unfold ients at he;rw [List.getElem?_zipWith] at he;cases hb:B[i]? with
 | none=>rw [hb] at he;cases he
 | some b =>
  cases hs:sp[i]? with
  | none=>rw [hb,hs] at he;cases he
  | some s =>
   rw [hb,hs] at he;have:=Option.some.inj he;subst this;exact ⟨b,rfl,rfl,rfl⟩
theorem Tab.irising (h:Tab n ri l B sp fd):Rising (ients ri B sp):=fun i j a b hij ha hb=>by
 obtain ⟨_,_,hsa,_⟩:=h.iat ha;obtain ⟨bj,hbj,hsb,_⟩:=h.iat hb;obtain ⟨e,he⟩:=get_of_mem_ne (h.nz j bj (by omega) hbj);exact cmp_lt_le (h.seps.below i j bj _ e hij hbj hsa he) (h.seps.above j bj _ e hbj hsb he)
theorem bkey_le {ri:Nat} {p0:Bs} {es:List KV} {i:Nat} {e:KV} (h:es[i]?=some e) (hi:i % ri=0):e.1.length≤(bdata ri p0 es).length:=by
 have h1:=eoff_succ (ri:=ri) (p:=p0) h;have h2:=entry_length (esh ri p0 es i) e.1 e.2;have h3:=esh_zero (ri:=ri) (p:=p0) (Nat.le_of_lt (lt_of_some h)) hi;have h4:=eoff_mono (ri:=ri) (p:=p0) (es:=es) (show i+1≤es.length from lt_of_some h);rw [bdata_length];omega
theorem Tab.ikeys (h:Tab n ri l B sp fd):∀ e∈ients ri B sp,e.1.length≤1073741824:=fun e he=>by
 obtain ⟨i,hi⟩:=List.mem_iff_getElem?.1 he;have h1:=bkey_le (ri:=1) (p0:=[]) hi (Nat.mod_one i);have h2:=h.foot.2.2.2.2.2;have h3:=h.len;have h4:(indexB ri B sp).length=(bdata 1 [] (ients ri B sp)).length:=rfl;omega
theorem tot_mem {l:List KV} {e:KV} (he:e∈l):kvs e≤tot l:=by
 obtain ⟨i,hi⟩:=List.mem_iff_getElem?.1 he;have hlt:=lt_of_some hi;have h1:=tot_append (l.take (i+1)) (l.drop (i+1));have h2:l.take (i+1)=l.take i++[e]:=by rw [List.take_add_one,hi];rfl
 rw [List.take_append_drop,h2,tot_append,tot_one] at h1;omega
theorem Tab.dkeys (h:Tab n ri l B sp fd) (hT:tot l≤1048576) {b:DB} (hb:b∈B):∀ e∈b.es,e.1.length≤1073741824:=fun e he=>by
 have:=tot_mem (l:=l) (e:=e) (by rw [← h.flat];exact mem_dents hb he);have h1:kvs e=e.1.length+e.2.length+1:=rfl;omega
end
def sidx (es:List KV) (t:Bs):Nat:=(es.takeWhile fun e=>decide (Lib.compareBytes e.1 t=-1)).length
theorem sidx_le (es:List KV) (t:Bs):sidx es t≤es.length:=by
 unfold sidx;exact List.Sublist.length_le (List.takeWhile_sublist _)
theorem sidx_cons (e:KV) (es:List KV) (t:Bs):sidx (e :: es) t=if Lib.compareBytes e.1 t=-1 then sidx es t+1 else 0:=by
 unfold sidx;rw [List.takeWhile_cons];by_cases h:Lib.compareBytes e.1 t=-1
 ·simp [h]
 ·simp [h]
theorem sidx_lt:∀ {es:List KV} {t:Bs} {i:Nat} {e:KV},i < sidx es t→es[i]?=some e→Lib.compareBytes e.1 t=-1
 | [],_,_,_,h,_=>by simp [sidx] at h
 | x :: es,t,i,e,h,he=>by
  rw [sidx_cons] at h;by_cases hx:Lib.compareBytes x.1 t=-1
  ·rw [if_pos hx] at h;cases i with
   | zero=>simp at he;subst he;exact hx
   | succ i=>exact sidx_lt (es:=es) (t:=t) (i:=i) (by omega) (by simpa using he)
  ·rw [if_neg hx] at h;omega
theorem sidx_ge:∀ {es:List KV} {t:Bs} {e:KV},es[sidx es t]?=some e→0≤Lib.compareBytes e.1 t
 | [],_,_,h=>by simp at h
 | x :: es,t,e,h=>by
  rw [sidx_cons] at h;by_cases hx:Lib.compareBytes x.1 t=-1
  ·rw [if_pos hx] at h;exact sidx_ge (es:=es) (by simpa using h)
  ·rw [if_neg hx] at h;simp at h;subst h;rcases cmp_range x.1 t with h | h | h
   ·exact absurd h hx
   ·omega
   ·omega
theorem sidx_append (a b:List KV) (t:Bs) (h:∀ e∈a,Lib.compareBytes e.1 t=-1):sidx (a++b) t=a.length+sidx b t:=by
 induction a with
 | nil=>simp
 | cons x a ih =>
  rw [List.cons_append,sidx_cons,if_pos (h x (by simp)),ih (fun e he=>h e (by simp [he])),List.length_cons];omega
theorem sidx_head (a b:List KV) (t:Bs) (h:sidx a t < a.length):sidx (a++b) t=sidx a t:=by
 induction a with
 | nil=>simp at h
 | cons x a ih =>
  rw [List.cons_append,sidx_cons,sidx_cons];by_cases hx:Lib.compareBytes x.1 t=-1
  ·rw [if_pos hx,if_pos hx,ih (by rw [sidx_cons,if_pos hx] at h;simpa using h)]
  ·rw [if_neg hx,if_neg hx]
theorem sidx_all {a:List KV} {t:Bs} (h:sidx a t=a.length):∀ e∈a,Lib.compareBytes e.1 t=-1:=fun e he=>by
 obtain ⟨i,hi⟩:=List.mem_iff_getElem?.1 he;exact sidx_lt (by rw [h];exact lt_of_some hi) hi
theorem sidx_none {b:List KV} {t:Bs} (h:∀ e∈b,0≤Lib.compareBytes e.1 t):sidx b t=0:=by
 cases b with
 | nil=>rfl
 | cons x b =>
  rw [sidx_cons,if_neg (by have:=h x (by simp);omega)]
section
variable {n ri:Nat} {l:List KV} {B:List DB} {sp:List Bs} {fd:Bs}
def before (B:List DB) (i:Nat):Nat:=(dents (B.take i)).length
theorem before_succ {B:List DB} {i:Nat} {b:DB} (hb:B[i]?=some b):before B (i+1)=before B i+b.es.length:=by
 unfold before;rw [List.take_add_one,hb,dents_append,List.length_append];simp [dents]
theorem before_all (B:List DB):before B B.length=(dents B).length:=by unfold before;rw [List.take_length]
theorem dents_cut {B:List DB} {i:Nat} {b:DB} (hb:B[i]?=some b):dents B=dents (B.take i)++(b.es++dents (B.drop (i+1))):=by
 have hlt:=lt_of_some hb;have h1:=List.drop_eq_getElem_cons hlt;have h2:B[i]=b:=Option.some.inj ((List.getElem?_eq_getElem hlt).symm.trans hb);rw [h2] at h1;have e1:dents B=dents (B.take i++B.drop i):=by rw [List.take_append_drop]
 rw [e1,dents_append,h1];simp [dents]
theorem Tab.pair (h:Tab n ri l B sp fd) {i j:Nat} {b:DB} (hb:B[i]?=some b) (hj:j < b.es.length):l[before B i+j]?=b.es[j]?:=by
 rw [← h.flat,dents_cut hb];unfold before;rw [List.getElem?_append_right (by omega),Nat.add_sub_cancel_left,List.getElem?_append_left hj]
theorem Tab.low (h:Tab n ri l B sp fd) (t:Bs) {i:Nat} (hi:i≤sidx (ients ri B sp) t):∀ e∈dents (B.take i),Lib.compareBytes e.1 t=-1:=fun e he=>by
 unfold dents at he;obtain ⟨es,h1,h2⟩:=List.mem_flatten.1 he;obtain ⟨b,h3,rfl⟩:=List.mem_map.1 h1;obtain ⟨k,hk⟩:=List.mem_iff_getElem?.1 h3;have hkl:=lt_of_some hk;rw [List.length_take] at hkl;rw [List.getElem?_take_of_lt (by omega)] at hk;have hkB:=lt_of_some hk;have hik:k < (ients ri B sp).length:=by rw [h.ilen];exact hkB
 have hie:(ients ri B sp)[k]?=some (ients ri B sp)[k]:=List.getElem?_eq_getElem hik;obtain ⟨_,_,hs,_⟩:=h.iat hie;exact cmp_le_lt (h.seps.above k b _ e hk hs h2) (sidx_lt (by omega) hie)
theorem Tab.high (h:Tab n ri l B sp fd) (t:Bs) {i:Nat} (hi:i < B.length) (hs:sidx (ients ri B sp) t≤i):∀ e∈dents (B.drop (i+1)),Lib.compareBytes e.1 t=1:=fun e he=>by
 unfold dents at he;obtain ⟨es,h1,h2⟩:=List.mem_flatten.1 he;obtain ⟨b,h3,rfl⟩:=List.mem_map.1 h1;obtain ⟨k,hk⟩:=List.mem_iff_getElem?.1 h3;rw [List.getElem?_drop] at hk;have hil:i < (ients ri B sp).length:=by rw [h.ilen];exact hi
 have hie:(ients ri B sp)[i]?=some (ients ri B sp)[i]:=List.getElem?_eq_getElem hil;have hsl:sidx (ients ri B sp) t < (ients ri B sp).length:=by omega
 have hse:(ients ri B sp)[sidx (ients ri B sp) t]?=some (ients ri B sp)[sidx (ients ri B sp) t]:=List.getElem?_eq_getElem hsl;have h4:=sidx_ge hse;obtain ⟨_,_,hs1,_⟩:=h.iat hie;have h5:Lib.compareBytes (ients ri B sp)[i].1 e.1=-1:=h.seps.below i (i+1+k) b _ e (by omega) hk hs1 h2;have h6:¬ Lib.compareBytes t (ients ri B sp)[i].1=1:=by
  rcases Nat.eq_or_lt_of_le hs with e | e
  ·subst e;rw [cmp_neg];omega
  ·have h7:=h.irising _ _ _ _ e hse hie;rw [cmp_neg] at h4;have h8:¬ Lib.compareBytes t (ients ri B sp)[sidx (ients ri B sp) t].1=1:=by omega
   have:=cmp_le_lt h8 h7;omega
 have h7:=cmp_le_lt h6 h5;rw [cmp_neg];omega
theorem Tab.seek_none (h:Tab n ri l B sp fd) (t:Bs) (hs:sidx (ients ri B sp) t=B.length):sidx l t=l.length:=by
 have h1:=h.low t (i:=B.length) (by omega);rw [List.take_length,h.flat] at h1;have:=sidx_append l [] t h1;simpa [sidx] using this
theorem Tab.seek_in (h:Tab n ri l B sp fd) (t:Bs) {b:DB} (hb:B[sidx (ients ri B sp) t]?=some b):sidx l t=before B (sidx (ients ri B sp) t)+sidx b.es t:=by
 have h1:=h.low t (Nat.le_refl _);have h2:=h.high t (lt_of_some hb) (Nat.le_refl _);rw [← h.flat,dents_cut hb,sidx_append _ _ t h1];unfold before;congr 1
 by_cases hj:sidx b.es t < b.es.length
 ·exact sidx_head _ _ t hj
 ·have:=sidx_le b.es t;have he:sidx b.es t=b.es.length:=by omega
  rw [sidx_append _ _ t (sidx_all he),sidx_none (fun e he'=>by rw [h2 e he'];decide),he];omega
end
end
end Go.Proofs.YtmkdpjicgjhhjaaGreatDoor
