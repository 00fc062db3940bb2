/- Part 7 of the proof of FnTableComesBack: contracts and lemmas, each under the conditions that it states. Texts: BwApp. -/
import Derived.Test.YtmkdpjicgjhhjaaGreatDoorC06
namespace Go.Proofs.YtmkdpjicgjhhjaaGreatDoor
open Go.Lib (hid)
set_option maxRecDepth 100000
set_option linter.all false
section
open Go Go.RowKit Go.Shelf
theorem bw_form {w:World} {b:Nat} {C:Array Value} {T o so:Nat} {O:Own} {s:BWS} (h:BW w b C T o so O s) :
  (∃ a c,w.cell? ⟨b,o+1,none⟩=some (.slice a s.buf.length c))∧w.cell? ⟨b,o+2,none⟩=some (.int .i64 0)∧w.cell? ⟨b,o,none⟩=some (.int .i64 s.ri)∧w.cell? ⟨b,o+67,none⟩=some (.int .i64 s.n) ∧
  w.cell? ⟨b,o+70,none⟩=some (.slice (some ⟨b,so,none⟩) 30 30):=by
 obtain ⟨v,hv,hb⟩:=h.ub.buf;obtain ⟨a,c,rfl,_⟩:=hb.form;exact ⟨⟨a,c,h.ub.blk.cell hv⟩,h.ub.blk.cell h.ub.off,h.ub.blk.cell h.ri,h.ub.blk.cell h.n,h.ub.blk.cell h.scr⟩
def nums (sh kl vl:Nat):List UInt8:=Lib.uvarint sh++Lib.uvarint (kl - sh)++Lib.uvarint vl
theorem nums_len {sh kl vl:Nat} (h1:sh < 4294967296) (h2:kl < 4294967296) (h3:vl < 4294967296):(nums sh kl vl).length≤15:=by
 have a:=uvarint_len5 (x:=sh) (by omega);have b:=uvarint_len5 (x:=kl - sh) (by omega);have c:=uvarint_len5 (x:=vl) (by omega);simp [nums];omega
theorem nums_parts (sh kl vl:Nat):(nums sh kl vl).length=(Lib.uvarint sh).length+(Lib.uvarint (kl - sh)).length+(Lib.uvarint vl).length:=by simp [nums];omega
theorem nums_spliced {C:Array Value} {so sh kl vl:Nat} (h1:sh < 4294967296) (h2:kl < 4294967296) (h3:vl < 4294967296) (hs:so+30≤C.size) :
  splice (splice (splice C so (bv (Lib.uvarint sh))) (so+(Lib.uvarint sh).length) (bv (Lib.uvarint (kl - sh)))) (so+((Lib.uvarint sh).length+(Lib.uvarint (kl - sh)).length)) (bv (Lib.uvarint vl))=splice C so (bv (nums sh kl vl)):=by
 have a:=uvarint_len5 (x:=sh) (by omega);have b:=uvarint_len5 (x:=kl - sh) (by omega);have c:=uvarint_len5 (x:=vl) (by omega);have e1:=splice_two (Z:=C) (o:=so) (c1:=bv (Lib.uvarint sh)) (c2:=bv (Lib.uvarint (kl - sh))) (by simp only [bv_length];omega);rw [bv_length] at e1;rw [e1,← bv_append];have e2:=splice_two (Z:=C) (o:=so) (c1:=bv (Lib.uvarint sh++Lib.uvarint (kl - sh))) (c2:=bv (Lib.uvarint vl)) (by simp only [bv_length,List.length_append];omega)
 rw [bv_length,List.length_append] at e2;rw [e2,← bv_append];rfl
theorem spliced_sl {w:World} {b so:Nat} {C:Array Value} {T:Nat} {x:List UInt8} (hB:Blk w b (splice C so (bv x)) T) (hf:so+x.length≤C.size) (hx:x.length≤30):Sl w (some ⟨b,so,none⟩) x.length 30 x :=
 Sl.mk' rfl hx (by unfold maxLen;omega) (fun j hj=>by
  rw [hB.cell',splice_in (by rw [bv_length];exact hf) (by rw [bv_length];exact hj),bv_get,List.getElem?_eq_getElem hj];rfl)
set_option maxHeartbeats 4000000 in
theorem append_restart (w:World) (b:Nat) (C:Array Value) (T o so:Nat) (O:Own) (s:BWS) (h:BW w b C T o so O s) (ka:Option Addr) (kn kc:Nat) (key:List UInt8) (hk:Sl w ka kn kc key) (hka:Away b o so O ka kn)
  (va:Option Addr) (vn vc:Nat) (val:List UInt8) (hv:Sl w va vn vc val) (hva:∀ g p,va=some ⟨g,p,none⟩→0 < vn→¬ O.has g∧(g=b→(p+vn≤o∨o+71≤p)∧(p+vn≤so∨so+30≤p)))
  (hbuf:s.buf.length+kn+vn+40≤4294967295) (hn:s.n≤4294967295) (hr:s.rs.length≤4294967295) (hri:1≤s.ri) (hri2:s.ri≤4294967295) (hm:s.n % s.ri=0) :
  Calls Tryz.prog 44 #[.pointer (some ⟨b,o,none⟩),.slice ka kn kc,.slice va vn vc] w fun e w'=>e=.returned (.tuple #[])∧BWTo b C T o so O (s.append key val) w w':=by
 obtain ⟨⟨a,c,h0⟩,h1,hric,hnc,hsc⟩:=bw_form h;obtain ⟨v,hvr,hown,hro⟩:=h.rs;obtain ⟨pv,hpv,hpown,hpo⟩:=h.prev;have hrs:=h.ub.blk.cell hvr;have hpc:=h.ub.blk.cell hpv;have hlt:=h.ub.blk.lt;have hkl:=hk.len;have hvl:=hv.len;have ht:Int.tmod (s.n:Int) (s.ri:Int)=((s.n % s.ri:Nat):Int):=by rw [Int.tmod_eq_emod_of_nonneg (by omega)];omega
 have hz:((s.ri:Int) == 0)=false:=by simp;omega
 rw [hm] at ht;have hw0:IntKind.i64.wrap ((0:Nat):Int)=0:=by decide
 have hw00:IntKind.i64.wrap (0:Int)=0:=by decide
 have hwm:IntKind.u32.wrap (s.buf.length:Int)=s.buf.length:=IntWalk.u32_in _ (by omega);have hshs:s.sh key=0:=by unfold BWS.sh;rw [if_pos hm]
 have hend1:∀ (w0 w1:World) (v1:Value),Fr (fun _=>False) w w0→w1.ownsRow 0 201 1 v1 (s.rs.length+1) (rv s.rs++[.int .u32 s.buf.length])→w0.grownBy w1 v.ownBlock→Lies w0 v v1→BWTo b C T o so O { s with rs:=s.rs++[s.buf.length] } w (w1.setCell ⟨b,o+69,none⟩ v1):=by
  intro w0 w1 v1 hf ho hg hl;refine h.rsTo hf hvr ?_ hg hl;rw [rv_append,List.length_append];exact ho
 have happ:s.append key val={ ({ s with rs:=s.rs++[s.buf.length] }:BWS) with buf:=s.buf++entry 0 key val,prev:=key,n:=s.n+1 }:=by unfold BWS.append;rw [hshs,if_pos hm]
 rw [happ];have HB:=hid h;have HK:=hid hk;have HV:=hid hv;have HE1:=hid hend1;have HNB:=hid (show v.ownBlock≠some b from fun e=>h.dis.rb b (hro.symm.trans e) rfl);have HOW:=hid hown;have HFT:=hid hm;clear hpc hpv hpown hpo hvr hown hro hend1 happ hshs hm h hk hv hkl hvl;generalize hmm:s.n % s.ri=md at *;go_enter Tryz.func44,Tryz.ntmps44
 go_wp2
 go_quiet (fail)
 go_wp2
 refine Pos.start (fun W=>W.cell? ⟨b,o+1,none⟩=some (.slice a s.buf.length c)∧W.cell? ⟨b,o+2,none⟩=some (.int .i64 0)∧W.cell? ⟨b,o+69,none⟩=some v) 12 (by kernel_rfl) ?_;have hS:(fun W:World=>W.cell? ⟨b,o+1,none⟩=some (.slice a s.buf.length c)∧W.cell? ⟨b,o+2,none⟩=some (.int .i64 0)∧W.cell? ⟨b,o+69,none⟩=some v) ((w.drewN nq).drewN 1):=⟨h0,h1,hrs⟩;iterate 8
  refine' Pos.takeK hS rfl (by kernel_rfl) (fun _ _ _ h=>h) (by rfl) ?_ ?_;rotate_left
  ·intro W hW;obtain ⟨s1,s2,s3⟩:=hW;go_simp;try with_reducible rfl
  intro K hK;go_simp;refine hK _ ?_;clear hK K
 refine Pos.eff rfl (by kernel_rfl) ?_;go_wp2_with (go_at_call 49;refine (len_cells _ _ _ _ _ _ (by exact h0) (by exact h1) (by omega)).mono ?_;rintro e w1 ⟨rfl,k,rfl⟩)
 refine ⟨hS,?_⟩;clear hS;have hS:(fun W:World=>W.cell? ⟨b,o+1,none⟩=some (.slice a s.buf.length c)∧W.cell? ⟨b,o+2,none⟩=some (.int .i64 0)∧W.cell? ⟨b,o+69,none⟩=some v) ((w.drewN (nq+1)).drewN k):=⟨h0,h1,hrs⟩;iterate 1
  refine' Pos.takeK hS rfl (by kernel_rfl) (fun _ _ _ h=>h) (by rfl) ?_ ?_;rotate_left
  ·intro W hW;obtain ⟨s1,s2,s3⟩:=hW;go_simp;try with_reducible rfl
  intro K hK;go_simp;refine hK _ ?_;clear hK K
 refine Pos.eff rfl (by kernel_rfl) ?_;go_wp2
 clear hS;have hS:(fun W:World=>W.cell? ⟨b,o+1,none⟩=some (.slice a s.buf.length c)∧W.cell? ⟨b,o+2,none⟩=some (.int .i64 0)∧W.cell? ⟨b,o+69,none⟩=some v) ((w.alloc (Obj.cells #[Value.int IntKind.u32 ↑s.buf.length] 201)).drewN (nq+1+k)) :=
  ⟨by go_simp,by go_simp,by go_simp⟩
 refine ⟨hS,?_⟩;refine Pos.eff rfl (by kernel_rfl) ?_;refine wpList_app rfl _ _ 105 rfl 201 (.int .u32 0) 1 4 un105 info201 rfl (by omega) v s.rs.length (rv s.rs) rfl (by exact HOW.out.alloc _) (some ⟨w.heap.size,0,none⟩) 1 1 [.int .u32 s.buf.length] rfl rfl (by simp) (by exact news_new [.int .u32 s.buf.length] _ (Blk.new w _ _)) (by simp [Value.oneCell']) (by unfold maxLen;omega) (by omega) ?_;intro v2 w2 hown2 hgrow hlies
 have HF:=hid (HE1.out _ w2 v2 (((Fr.refl (fun _=>False) w).alloc _).drewN _) hown2 hgrow hlies);have HL:=hid hlies;have HG:=hid hgrow;obtain ⟨a2,c2,rfl,hc2⟩:=own_form hown2;have hS2:w2.cell? ⟨b,o+1,none⟩=some (.slice a s.buf.length c)∧w2.cell? ⟨b,o+2,none⟩=some (.int .i64 0)∧w2.cell? ⟨b,o+69,none⟩=some v:=by
  have hne:=HNB.out;have e:∀ k,w2.cell? ⟨b,k,none⟩=w.cell? ⟨b,k,none⟩:=fun k=>by
   rw [hgrow.cell_far ⟨b,k,none⟩ (by simp;omega) (Ne.symm hne)];go_simp
  rw [e,e,e];exact ⟨h0,h1,hrs⟩
 have hsc2:w2.cell? ⟨b,o+70,none⟩=some (.slice (some ⟨b,so,none⟩) 30 30):=by
  rw [hgrow.cell_far ⟨b,o+70,none⟩ (by simp;omega) (Ne.symm HNB.out)];go_simp
 have hf2:w2.frozen? ⟨b,o+69,none⟩=false:=by
  rw [hgrow.frozen_far ⟨b,o+69,none⟩ (by simp;omega) (Ne.symm HNB.out)];exact (HB.out.ub.blk.alloc _).free _
 refine ⟨hS2,?_⟩;refine Pos.tail (by kernel_rfl) (by decide) ?_;simp only [List.drop_succ_cons,List.drop_zero];go_wp2_with fail
 clear hS hS2 hsc2 hf2;generalize hW:w2.setCell ⟨b,o+69,none⟩ (.slice a2 (s.rs.length+1) c2)=W at *;have hFT:=HFT.out;clear hW hown2 hgrow hlies HL HG HE1 HOW HNB;obtain ⟨C1,O1,hb1,hs1,hC1,hf1,hO1⟩:=HF.out;have hk1:=BWTo.sl HB.out HF.out hka HK.out;have hv1:=BWTo.sl HB.out HF.out hva HV.out;have hka1:=hka.new HK.out hO1;have hva1:=Away.new hva HV.out hO1;have hsc1:=(bw_form hb1).2.2.2.2;have hscs:=hb1.scrs
 have l1:=uvarint_len5 (x:=0) (by omega);have l2:=uvarint_len5 (x:=kn) (by omega);have l3:=uvarint_len5 (x:=vn) (by omega);have p1:=putUvarint_any b so 30 30 (0) (by omega) W C1 T hb1.ub.blk (by omega) (by omega);have hblk2:=hb1.ub.blk.setRow (splice C1 so (bv (Lib.uvarint (0))));have z2:(splice C1 so (bv (Lib.uvarint (0)))).size=C1.size:=splice_size (by rw [bv_length];omega);have p2:=putUvarint_any b (so+(Lib.uvarint (0)).length) (30 - (Lib.uvarint (0)).length) (30 - (Lib.uvarint (0)).length) (kn) (by omega) _ _ T hblk2 (by omega) (by omega)
 have hblk3:=hblk2.setRow (splice (splice C1 so (bv (Lib.uvarint (0)))) (so+(Lib.uvarint (0)).length) (bv (Lib.uvarint (kn))));have z3:(splice (splice C1 so (bv (Lib.uvarint (0)))) (so+(Lib.uvarint (0)).length) (bv (Lib.uvarint (kn)))).size=C1.size:=by rw [splice_size (by rw [bv_length,z2];omega),z2]
 have p3:=putUvarint_any b (so+((Lib.uvarint (0)).length+(Lib.uvarint (kn)).length)) (30 - ((Lib.uvarint (0)).length+(Lib.uvarint (kn)).length)) (30 - ((Lib.uvarint (0)).length+(Lib.uvarint (kn)).length)) vn (by omega) _ _ T hblk3 (by omega) (by omega);have hscra:=hb1.scra;have hq2:(W.setRow b (splice C1 so (bv (Lib.uvarint (0))))).cell? ⟨b,o+70,none⟩=some (.slice (some ⟨b,so,none⟩) 30 30):=by
  rw [hblk2.cell',splice_out (by rw [bv_length];omega) (by rw [bv_length];omega)];exact hb1.scr
 have hq3:((W.setRow b (splice C1 so (bv (Lib.uvarint (0))))).setRow b (splice (splice C1 so (bv (Lib.uvarint (0)))) (so+(Lib.uvarint (0)).length) (bv (Lib.uvarint (kn))))).cell? ⟨b,o+70,none⟩=some (.slice (some ⟨b,so,none⟩) 30 30):=by
  rw [hblk3.cell',splice_out (by rw [bv_length,z2];omega) (by rw [bv_length];omega),splice_out (by rw [bv_length];omega) (by rw [bv_length];omega)];exact hb1.scr
 have hW4:∀ w4,(((W.setRow b (splice C1 so (bv (Lib.uvarint (0))))).setRow b (splice (splice C1 so (bv (Lib.uvarint (0)))) (so+(Lib.uvarint (0)).length) (bv (Lib.uvarint (kn))))).setRow b
   (splice (splice (splice C1 so (bv (Lib.uvarint (0)))) (so+(Lib.uvarint (0)).length) (bv (Lib.uvarint (kn)))) (so+((Lib.uvarint (0)).length+(Lib.uvarint (kn)).length)) (bv (Lib.uvarint vn))))=w4→W.setRow b (splice C1 so (bv (nums (0) kn vn)))=w4:=by
  intro w4 e;rw [← e,setRow_setRow,setRow_setRow];have:=nums_spliced (C:=C1) (so:=so) (sh:=0) (kl:=kn) (vl:=vn) (by omega) (by omega) (by omega) hscs;rw [Nat.sub_zero] at this;rw [this]
 have nlen:(nums (0) kn vn).length=(Lib.uvarint (0)).length+(Lib.uvarint (kn)).length+(Lib.uvarint vn).length:=by simpa using nums_parts 0 kn vn
 have HW4:=hid hW4;have hsl1:∀ w,(Instr.slice 29 (.slice (some ⟨b,so,none⟩) 30 30) (some (.int .i64 (Lib.uvarint (0)).length)) none none).run Tryz.prog w=.ok (.slice (some ⟨b,so+(Lib.uvarint (0)).length,none⟩) (30 - (Lib.uvarint (0)).length) (30 - (Lib.uvarint (0)).length)) w:=fun w=>by
  have:=run_slice_lo (P:=Tryz.prog) 29 5 un29 sz5 .i64 (some ⟨b,so,none⟩) 30 30 (Lib.uvarint (0)).length (by omega) w;rwa [cutA_some (by omega)] at this
 have hsl0:∀ w',(Instr.slice 29 (.slice (some ⟨b,so,none⟩) 30 30) (some (.int .i64 0)) none none).run Tryz.prog w'=.ok (.slice (some ⟨b,so,none⟩) 30 30) w':=fun w'=>run_slice_z (P:=Tryz.prog) 29 5 un29 sz5 .i64 _ 30 30 w'
 have hsl2:∀ w,(Instr.slice 29 (.slice (some ⟨b,so,none⟩) 30 30) (some (.int .i64 ((Lib.uvarint (0)).length+(Lib.uvarint (kn)).length))) none none).run Tryz.prog w=.ok (.slice (some ⟨b,so+((Lib.uvarint (0)).length+(Lib.uvarint (kn)).length),none⟩) (30 - ((Lib.uvarint (0)).length+(Lib.uvarint (kn)).length)) (30 - ((Lib.uvarint (0)).length+(Lib.uvarint (kn)).length))) w:=fun w=>by
  have:=run_slice_lo (P:=Tryz.prog) 29 5 un29 sz5 .i64 (some ⟨b,so,none⟩) 30 30 ((Lib.uvarint (0)).length+(Lib.uvarint (kn)).length) (by omega) w;rwa [cutA_some (by omega)] at this
 have hsl3:∀ w,(Instr.slice 29 (.slice (some ⟨b,so,none⟩) 30 30) none (some (.int .i64 ((Lib.uvarint (0)).length+(Lib.uvarint (kn)).length+(Lib.uvarint vn).length))) none).run Tryz.prog w=.ok (.slice (some ⟨b,so,none⟩) ((Lib.uvarint (0)).length+(Lib.uvarint (kn)).length+(Lib.uvarint vn).length) 30) w:=fun w=>by
  exact run_slice_hi (P:=Tryz.prog) 29 5 un29 sz5 .i64 (some ⟨b,so,none⟩) 30 30 ((Lib.uvarint (0)).length+(Lib.uvarint (kn)).length+(Lib.uvarint vn).length) (by omega) w
 have HNL:=hid nlen;have HS1:=hid hs1;have HC1:=hid hC1;have HF1:=hid hf1;have HO1:=hid hO1;have HB1:=hid hb1;have HK1:=hid hk1;have HV1:=hid hv1;clear hW4 nlen z2 z3 hblk2 hblk3 hs1 hC1 hf1 hO1 hb1 hk1 hv1 hscs;generalize hu1:(Lib.uvarint (0)).length=u1 at *;generalize hu2:(Lib.uvarint (kn)).length=u2 at *;generalize hu3:(Lib.uvarint vn).length=u3 at *;clear hu1 hu2 hu3;go_wp2_with fail
 refine p1.mono ?_;rintro e w3 ⟨rfl,rfl⟩;go_wp2_with fail
 refine p2.mono ?_;rintro e w3 ⟨rfl,rfl⟩;go_wp2_with fail
 refine p3.mono ?_;rintro e w4 ⟨rfl,hw4⟩;have hw4':=HW4.out w4 hw4;have HW4':=hid hw4';clear hw4 hw4' HW4;have hB4:Blk w4 b (splice C1 so (bv (nums (0) kn vn))) T:=by rw [← HW4'.out];exact HB1.out.ub.blk.setRow _
 have hnl:=nums_len (sh:=0) (kl:=kn) (vl:=vn) (by omega) (by omega) (by omega);have hscs:=HB1.out.scrs;have hsl4:=spliced_sl hB4 (by omega) (by omega);rw [HNL.out] at hsl4;have HT4:BWTo b C1 T o so O1 ({ s with rs:=s.rs++[s.buf.length] }) W w4:=by
  have:=HB1.out.scrTo 0 (bv (nums (0) kn vn)) (by rw [bv_length];omega);rw [Nat.add_zero,HW4'.out] at this;exact this
 have hk4:=BWTo.sl HB1.out HT4 hka1 HK1.out;have hv4:=BWTo.sl HB1.out HT4 hva1 HV1.out;obtain ⟨C4,O4,hb4,hs4,hC4,hf4,hO4⟩:=HT4;have hka4:=hka1.new HK1.out hO4;have hva4:=Away.new hva1 HV1.out hO4;have haw4:AwayB b (o+1) O4.f (some ⟨b,so,none⟩) (u1+u2+u3):=fun g p hp h0=>by
  simp only [Option.some.injEq,Addr.mk.injEq] at hp;obtain ⟨rfl,rfl,_⟩:=hp;have:=hb4.scra;exact ⟨fun e=>hb4.dis.fb _ e rfl,fun _=>by omega⟩
 have hnum:=hnl;rw [HNL.out] at hnum;have hwr:=fun k=>write_any (w4.drewN k) b (o+1) C4 T O4.f s.buf (hb4.ub.drewN k) (some ⟨b,so,none⟩) (u1+u2+u3) 30 (nums (0) kn vn) (hsl4.drewN k) haw4 (by omega)
 have hq4:=(bw_form hb4).2.2.2.2;have HB4:=hid hb4;have HC4:=hid hC4;have HF4:=hid hf4;have HO4:=hid hO4;have HK4:=hid hk4;have HV4:=hid hv4;have HS4:=hid hs4;clear hB4 hsl4 hb4 hC4 hf4 hO4 hk4 hv4 hs4 haw4 p1 p2 p3 hnl;go_wp2
 refine wp_tail 9 (by kernel_rfl) ?_;simp only [List.take_succ_cons,List.take_zero,List.drop_succ_cons,List.drop_zero];repeat still_step
 refine wpStill_nil ?_;go_wp2_with (go_at_call 91;refine (hwr _).mono ?_)
 rintro e w5 ⟨rfl,hbt5⟩;have HT5:=BWTo.drewL (BW.bufTo (HB4.out.drewN _) hbt5);clear hbt5 hwr hq4;have hk5:=BWTo.sl HB4.out HT5 hka4 HK4.out;have hv5:=BWTo.sl HB4.out HT5 hva4 HV4.out;obtain ⟨C5,O5,hb5,hs5,hC5,hf5,hO5⟩:=HT5;have hka5:=hka4.new HK4.out hO5;have hva5:=Away.new hva4 HV4.out hO5;have hbl5:(s.buf++nums (0) kn vn).length=s.buf.length+(u1+u2+u3):=by rw [List.length_append,HNL.out]
 have hwr:=fun k=>write_any (w5.drewN k) b (o+1) C5 T O5.f (s.buf++nums (0) kn vn) (hb5.ub.drewN k) (cutA ka kc (0)) (kn - (0)) (kc - (0)) (key.drop (0)) ((hk5.cut (lo:=0) (by omega)).drewN k) (hka5.cut hk5) (by rw [hbl5];omega)
 have hslk:∀ w',(Instr.slice 29 (.slice ka kn kc) (some (.int .i64 ((0:Nat):Int))) none none).run Tryz.prog w'=.ok (.slice (cutA ka kc (0)) (kn - (0)) (kc - (0))) w':=fun w'=>run_slice_lo (P:=Tryz.prog) 29 5 un29 sz5 .i64 ka kn kc (0) (by omega) w'
 simp only [Int.natCast_zero,Nat.sub_zero] at hslk hwr;have HB5:=hid hb5;have HC5:=hid hC5;have HF5:=hid hf5;have HO5:=hid hO5;have HK5:=hid hk5;have HV5:=hid hv5;have HS5:=hid hs5;have HL5:=hid hbl5;clear hb5 hC5 hf5 hO5 hk5 hv5 hs5 hbl5;go_wp2
 refine wp_tail 6 (by kernel_rfl) ?_;simp only [List.take_succ_cons,List.take_zero,List.drop_succ_cons,List.drop_zero];repeat still_step
 refine wpStill_nil ?_;go_wp2_with (go_at_call 91;refine (hwr _).mono ?_)
 rintro e w6 ⟨rfl,hbt6⟩;have HT6:=BWTo.drewL (BW.bufTo (HB5.out.drewN _) hbt6);clear hbt6 hwr hslk;have hv6:=BWTo.sl HB5.out HT6 hva5 HV5.out;have hk6:=BWTo.sl HB5.out HT6 hka5 HK5.out;obtain ⟨C6,O6,hb6,hs6,hC6,hf6,hO6⟩:=HT6;have hva6:=Away.new hva5 HV5.out hO6;have hka6:=hka5.new HK5.out hO6;have hbl6:((s.buf++nums (0) kn vn)++key.drop (0)).length=s.buf.length+(u1+u2+u3)+(kn - (0)):=by rw [List.length_append,HL5.out,List.length_drop,HK5.out.len]
 have hwr:=write_any w6 b (o+1) C6 T O6.f ((s.buf++nums (0) kn vn)++key.drop (0)) hb6.ub va vn vc val hv6 (Away.b hva6) (by rw [hbl6];omega);have HB6:=hid hb6;have HC6:=hid hC6;have HF6:=hid hf6;have HO6:=hid hO6;have HK6:=hid hk6;have HS6:=hid hs6;clear hb6 hC6 hf6 hO6 hk6 hv6 hs6 hbl6;go_wp2_with (go_at_call 91;refine hwr.mono ?_)
 rintro e w7 ⟨rfl,hbt7⟩;have HT7:=BW.bufTo HB6.out hbt7;clear hbt7 hwr;have hk7:=BWTo.sl HB6.out HT7 hka6 HK6.out;obtain ⟨C7,O7,hb7,hs7,hC7,hf7,hO7⟩:=HT7;obtain ⟨pv7,hpv7,hpown7,hpo7⟩:=hb7.prev;obtain ⟨pa7,pc7,rfl,hpcut7,hpcb7⟩:=own_cut hpown7;have hq7:=hb7.ub.blk.cell hpv7;have hslp:∀ w',(Instr.slice 29 (.slice pa7 s.prev.length pc7) none (some (.int .i64 0)) none).run Tryz.prog w'=.ok (.slice pa7 0 pc7) w':=fun w'=>run_slice_hi (P:=Tryz.prog) 29 5 un29 sz5 .i64 pa7 s.prev.length pc7 0 (by omega) w'
 have hnb7:(Value.slice pa7 0 pc7).ownBlock≠some b:=fun e=>hb7.dis.pb b ((hpcb7.trans hpo7).symm.trans e) rfl
 have hlt7:=hb7.ub.blk.lt;have hend:∀ (w8:World) (v8:Value),w8.ownsRow 0 5 1 v8 (0+kn) ([]++bv key)→w7.grownBy w8 (Value.slice pa7 0 pc7).ownBlock→Lies w7 (Value.slice pa7 0 pc7) v8 →
   BWTo b C7 T o so O7 ({ ({ ({ s with rs:=s.rs++[s.buf.length] }:BWS) with buf:=s.buf++nums (0) kn vn++key.drop (0)++val }:BWS) with prev:=key,n:=s.n+1 }) w7 ((w8.setCell ⟨b,o+68,none⟩ v8).setCell ⟨b,o+67,none⟩ (.int .i64 ((s.n+1:Nat):Int))):=by
  intro w8 v8 ho hg hl;rw [Nat.zero_add,List.nil_append] at ho;obtain ⟨C8,O8,hb8,e8,c8,f8,o8⟩:=hb7.prevTo hpv7 (key:=key) (by rw [HK6.out.len];exact ho) (by rw [← hpcb7];exact hg) (hl.imp (fun h=>h.trans hpcb7) id);exact BWTo.trans e8 c8 f8 o8 (hb8.nTo (s.n+1))
 have hbeq:s.buf++nums (0) kn vn++key.drop (0)++val=s.buf++entry (0) key val:=by simp [entry,nums,HK6.out.len,HV5.out.len,List.append_assoc]
 rw [hbeq] at hend;have hfin:∀ (w8:World) (v8:Value),w8.ownsRow 0 5 1 v8 (0+kn) ([]++bv key)→w7.grownBy w8 (Value.slice pa7 0 pc7).ownBlock→Lies w7 (Value.slice pa7 0 pc7) v8 →
   BWTo b C T o so O ({ ({ s with rs:=s.rs++[s.buf.length] }:BWS) with buf:=s.buf++entry (0) key val,prev:=key,n:=s.n+1 }) w ((w8.setCell ⟨b,o+68,none⟩ v8).setCell ⟨b,o+67,none⟩ (.int .i64 ((s.n:Int)+1))):=by
  intro w8 v8 ho hg hl;exact BWTo.trans HS1.out HC1.out HF1.out HO1.out (BWTo.trans HS4.out HC4.out HF4.out HO4.out (BWTo.trans HS5.out HC5.out HF5.out HO5.out (BWTo.trans HS6.out HC6.out HF6.out HO6.out (BWTo.trans hs7 hC7 hf7 hO7 (hend w8 v8 ho hg hl)))))
 have hn7:=hb7.ub.blk.cell hb7.n;have HFI:=hid hfin;have HB7:=hid hb7;have HPC:=hid hpcut7;have HK7:=hid hk7;have hkm:=hk7.cap;have hkx:=hk7.max;have hk0:=hk7.nil;have HK0:=hid hk0;clear hk0 hk7 hpcut7 hfin hend hbeq hs7 hC7 hf7 hO7 hb7 hpv7 hpown7 hpo7 hpcb7;go_wp2_with (at_builtin;go_must (refine wpList_app rfl _ _ 29 rfl 5 (.int .u8 0) 1 1 un29 info5 rfl (by omega) (.slice pa7 0 pc7) 0 [] rfl HPC.out ka kn kc (bv key) rfl (by rw [bv_length,HK7.out.len];omega) (fun e=>by have:=HK0.out e;omega) HK7.out.news (bv_one key) (by unfold maxLen;omega) (by omega) ?_);go_must (intro v8 w8 hown8 hgrow8 hlies8);go_must (have HX8:=hid (HFI.out w8 v8 hown8 hgrow8 hlies8));go_must (obtain ⟨a8,c8,rfl,hc8⟩:=own_form hown8);go_must (have hz8:w8.cell? ⟨b,o+68,none⟩=some (.slice pa7 s.prev.length pc7):=(hgrow8.cell_far ⟨b,o+68,none⟩ hlt7 (Ne.symm hnb7)).trans hq7);go_must (have hf8:w8.frozen? ⟨b,o+68,none⟩=false:=(hgrow8.frozen_far ⟨b,o+68,none⟩ hlt7 (Ne.symm hnb7)).trans (HB7.out.ub.blk.free _));go_must (have hn8:w8.cell? ⟨b,o+67,none⟩=some (.int .i64 s.n):=(hgrow8.cell_far ⟨b,o+67,none⟩ hlt7 (Ne.symm hnb7)).trans hn7);go_must (have hf9:w8.frozen? ⟨b,o+67,none⟩=false:=(hgrow8.frozen_far ⟨b,o+67,none⟩ hlt7 (Ne.symm hnb7)).trans (HB7.out.ub.blk.free _));clear hown8 hgrow8 hlies8)
 go_end0
 have hx:=HX8.out;rw [Nat.zero_add] at hx;exact ⟨rfl,hx⟩
set_option maxHeartbeats 4000000 in
theorem append_share (w:World) (b:Nat) (C:Array Value) (T o so:Nat) (O:Own) (s:BWS) (h:BW w b C T o so O s) (ka:Option Addr) (kn kc:Nat) (key:List UInt8) (hk:Sl w ka kn kc key) (hka:Away b o so O ka kn)
  (va:Option Addr) (vn vc:Nat) (val:List UInt8) (hv:Sl w va vn vc val) (hva:∀ g p,va=some ⟨g,p,none⟩→0 < vn→¬ O.has g∧(g=b→(p+vn≤o∨o+71≤p)∧(p+vn≤so∨so+30≤p)))
  (hbuf:s.buf.length+kn+vn+40≤4294967295) (hn:s.n≤4294967295) (hp:s.prev.length≤4294967295) (hri:1≤s.ri) (hri2:s.ri≤4294967295) (hm:s.n % s.ri≠0) :
  Calls Tryz.prog 44 #[.pointer (some ⟨b,o,none⟩),.slice ka kn kc,.slice va vn vc] w fun e w'=>e=.returned (.tuple #[])∧BWTo b C T o so O (s.append key val) w w':=by
 obtain ⟨⟨a,c,h0⟩,h1,hric,hnc,hsc⟩:=bw_form h;obtain ⟨v,hvr,hown,hro⟩:=h.rs;obtain ⟨pv,hpv,hpown,hpo⟩:=h.prev;have hrs:=h.ub.blk.cell hvr;have hpc:=h.ub.blk.cell hpv;have hlt:=h.ub.blk.lt;have hkl:=hk.len;have hvl:=hv.len;have ht:Int.tmod (s.n:Int) (s.ri:Int)=((s.n % s.ri:Nat):Int):=by rw [Int.tmod_eq_emod_of_nonneg (by omega)];omega
 have hz:((s.ri:Int) == 0)=false:=by simp;omega
 have hne:(((s.n % s.ri:Nat):Int) == 0)=false:=by simp;omega
 have hwm:IntKind.i64.wrap ((s.n % s.ri:Nat):Int)=((s.n % s.ri:Nat):Int):=IntWalk.i64_in _ (by have:=Nat.mod_lt s.n (show 0 < s.ri by omega);omega);have hshs:s.sh key=cpl s.prev key:=by unfold BWS.sh;rw [if_neg hm]
 obtain ⟨pa,pc,rfl,_⟩:=own_form hpown;have hcall:=fun k=>shared_any pa ka s.prev.length pc kn kc s.prev key (w.drewN k) ((own_sl hpown).drewN k) (hk.drewN k) (by omega) (by omega)
 have happ:s.append key val={ s with buf:=s.buf++entry (s.sh key) key val,prev:=key,n:=s.n+1 }:=by unfold BWS.append;rw [if_neg hm]
 rw [happ];have hsle:=s.sh_le key;rw [← hshs] at hcall;have HB:=hid h;have HK:=hid hk;have HV:=hid hv;have HSH:=hid hshs;have hslN:s.sh key≤kn:=by omega
 have hsub:((kn:Int) - ((s.sh key:Nat):Int))=((kn - s.sh key:Nat):Int):=by omega
 clear hshs happ hpown hpv hpo hvr hown hro h hk hv hkl hvl hsle;generalize s.sh key=N at *;generalize hmm:s.n % s.ri=md at *;go_enter Tryz.func44,Tryz.ntmps44
 go_wp2
 go_quiet (fail)
 go_wp2_with (go_at_call 89;refine (hcall _).mono ?_)
 rintro e w1 ⟨rfl,hw1⟩;have HF:Hid (BWTo b C T o so O s w w1):=hid (by obtain ⟨k,rfl⟩:=hw1;exact ((BWTo.refl HB.out).drewR _).drewR _);clear hw1 hcall;skip
 obtain ⟨C1,O1,hb1,hs1,hC1,hf1,hO1⟩:=HF.out;have hk1:=BWTo.sl HB.out HF.out hka HK.out;have hv1:=BWTo.sl HB.out HF.out hva HV.out;have hka1:=hka.new HK.out hO1;have hva1:=Away.new hva HV.out hO1;have hsc1:=(bw_form hb1).2.2.2.2;have hscs:=hb1.scrs;have l1:=uvarint_len5 (x:=N) (by omega);have l2:=uvarint_len5 (x:=kn - N) (by omega);have l3:=uvarint_len5 (x:=vn) (by omega);have p1:=putUvarint_any b so 30 30 (N) (by omega) w1 C1 T hb1.ub.blk (by omega) (by omega)
 have hblk2:=hb1.ub.blk.setRow (splice C1 so (bv (Lib.uvarint (N))));have z2:(splice C1 so (bv (Lib.uvarint (N)))).size=C1.size:=splice_size (by rw [bv_length];omega);have p2:=putUvarint_any b (so+(Lib.uvarint (N)).length) (30 - (Lib.uvarint (N)).length) (30 - (Lib.uvarint (N)).length) (kn - N) (by omega) _ _ T hblk2 (by omega) (by omega);have hblk3:=hblk2.setRow (splice (splice C1 so (bv (Lib.uvarint (N)))) (so+(Lib.uvarint (N)).length) (bv (Lib.uvarint (kn - N))))
 have z3:(splice (splice C1 so (bv (Lib.uvarint (N)))) (so+(Lib.uvarint (N)).length) (bv (Lib.uvarint (kn - N)))).size=C1.size:=by rw [splice_size (by rw [bv_length,z2];omega),z2]
 have p3:=putUvarint_any b (so+((Lib.uvarint (N)).length+(Lib.uvarint (kn - N)).length)) (30 - ((Lib.uvarint (N)).length+(Lib.uvarint (kn - N)).length)) (30 - ((Lib.uvarint (N)).length+(Lib.uvarint (kn - N)).length)) vn (by omega) _ _ T hblk3 (by omega) (by omega);have hscra:=hb1.scra;have hq2:(w1.setRow b (splice C1 so (bv (Lib.uvarint (N))))).cell? ⟨b,o+70,none⟩=some (.slice (some ⟨b,so,none⟩) 30 30):=by
  rw [hblk2.cell',splice_out (by rw [bv_length];omega) (by rw [bv_length];omega)];exact hb1.scr
 have hq3:((w1.setRow b (splice C1 so (bv (Lib.uvarint (N))))).setRow b (splice (splice C1 so (bv (Lib.uvarint (N)))) (so+(Lib.uvarint (N)).length) (bv (Lib.uvarint (kn - N))))).cell? ⟨b,o+70,none⟩=some (.slice (some ⟨b,so,none⟩) 30 30):=by
  rw [hblk3.cell',splice_out (by rw [bv_length,z2];omega) (by rw [bv_length];omega),splice_out (by rw [bv_length];omega) (by rw [bv_length];omega)];exact hb1.scr
 have hW4:∀ w4,(((w1.setRow b (splice C1 so (bv (Lib.uvarint (N))))).setRow b (splice (splice C1 so (bv (Lib.uvarint (N)))) (so+(Lib.uvarint (N)).length) (bv (Lib.uvarint (kn - N))))).setRow b
   (splice (splice (splice C1 so (bv (Lib.uvarint (N)))) (so+(Lib.uvarint (N)).length) (bv (Lib.uvarint (kn - N)))) (so+((Lib.uvarint (N)).length+(Lib.uvarint (kn - N)).length)) (bv (Lib.uvarint vn))))=w4→w1.setRow b (splice C1 so (bv (nums (N) kn vn)))=w4:=by
  intro w4 e;rw [← e,setRow_setRow,setRow_setRow];have:=nums_spliced (C:=C1) (so:=so) (sh:=N) (kl:=kn) (vl:=vn) (by omega) (by omega) (by omega) hscs;rw [this]
 have nlen:(nums (N) kn vn).length=(Lib.uvarint (N)).length+(Lib.uvarint (kn - N)).length+(Lib.uvarint vn).length:=by exact nums_parts _ _ _
 have HW4:=hid hW4;have hsl1:∀ w,(Instr.slice 29 (.slice (some ⟨b,so,none⟩) 30 30) (some (.int .i64 (Lib.uvarint (N)).length)) none none).run Tryz.prog w=.ok (.slice (some ⟨b,so+(Lib.uvarint (N)).length,none⟩) (30 - (Lib.uvarint (N)).length) (30 - (Lib.uvarint (N)).length)) w:=fun w=>by
  have:=run_slice_lo (P:=Tryz.prog) 29 5 un29 sz5 .i64 (some ⟨b,so,none⟩) 30 30 (Lib.uvarint (N)).length (by omega) w;rwa [cutA_some (by omega)] at this
 have hsl0:∀ w',(Instr.slice 29 (.slice (some ⟨b,so,none⟩) 30 30) (some (.int .i64 0)) none none).run Tryz.prog w'=.ok (.slice (some ⟨b,so,none⟩) 30 30) w':=fun w'=>run_slice_z (P:=Tryz.prog) 29 5 un29 sz5 .i64 _ 30 30 w'
 have hsl2:∀ w,(Instr.slice 29 (.slice (some ⟨b,so,none⟩) 30 30) (some (.int .i64 ((Lib.uvarint (N)).length+(Lib.uvarint (kn - N)).length))) none none).run Tryz.prog w=.ok (.slice (some ⟨b,so+((Lib.uvarint (N)).length+(Lib.uvarint (kn - N)).length),none⟩) (30 - ((Lib.uvarint (N)).length+(Lib.uvarint (kn - N)).length)) (30 - ((Lib.uvarint (N)).length+(Lib.uvarint (kn - N)).length))) w:=fun w=>by
  have:=run_slice_lo (P:=Tryz.prog) 29 5 un29 sz5 .i64 (some ⟨b,so,none⟩) 30 30 ((Lib.uvarint (N)).length+(Lib.uvarint (kn - N)).length) (by omega) w;rwa [cutA_some (by omega)] at this
 have hsl3:∀ w,(Instr.slice 29 (.slice (some ⟨b,so,none⟩) 30 30) none (some (.int .i64 ((Lib.uvarint (N)).length+(Lib.uvarint (kn - N)).length+(Lib.uvarint vn).length))) none).run Tryz.prog w=.ok (.slice (some ⟨b,so,none⟩) ((Lib.uvarint (N)).length+(Lib.uvarint (kn - N)).length+(Lib.uvarint vn).length) 30) w:=fun w=>by
  exact run_slice_hi (P:=Tryz.prog) 29 5 un29 sz5 .i64 (some ⟨b,so,none⟩) 30 30 ((Lib.uvarint (N)).length+(Lib.uvarint (kn - N)).length+(Lib.uvarint vn).length) (by omega) w
 have HNL:=hid nlen;have HS1:=hid hs1;have HC1:=hid hC1;have HF1:=hid hf1;have HO1:=hid hO1;have HB1:=hid hb1;have HK1:=hid hk1;have HV1:=hid hv1;clear hW4 nlen z2 z3 hblk2 hblk3 hs1 hC1 hf1 hO1 hb1 hk1 hv1 hscs;generalize hu1:(Lib.uvarint (N)).length=u1 at *;generalize hu2:(Lib.uvarint (kn - N)).length=u2 at *;generalize hu3:(Lib.uvarint vn).length=u3 at *;clear hu1 hu2 hu3;go_wp2_with fail
 refine p1.mono ?_;rintro e w3 ⟨rfl,rfl⟩;go_wp2_with fail
 refine p2.mono ?_;rintro e w3 ⟨rfl,rfl⟩;go_wp2_with fail
 refine p3.mono ?_;rintro e w4 ⟨rfl,hw4⟩;have hw4':=HW4.out w4 hw4;have HW4':=hid hw4';clear hw4 hw4' HW4;have hB4:Blk w4 b (splice C1 so (bv (nums (N) kn vn))) T:=by rw [← HW4'.out];exact HB1.out.ub.blk.setRow _
 have hnl:=nums_len (sh:=N) (kl:=kn) (vl:=vn) (by omega) (by omega) (by omega);have hscs:=HB1.out.scrs;have hsl4:=spliced_sl hB4 (by omega) (by omega);rw [HNL.out] at hsl4;have HT4:BWTo b C1 T o so O1 (s) w1 w4:=by
  have:=HB1.out.scrTo 0 (bv (nums (N) kn vn)) (by rw [bv_length];omega);rw [Nat.add_zero,HW4'.out] at this;exact this
 have hk4:=BWTo.sl HB1.out HT4 hka1 HK1.out;have hv4:=BWTo.sl HB1.out HT4 hva1 HV1.out;obtain ⟨C4,O4,hb4,hs4,hC4,hf4,hO4⟩:=HT4;have hka4:=hka1.new HK1.out hO4;have hva4:=Away.new hva1 HV1.out hO4;have haw4:AwayB b (o+1) O4.f (some ⟨b,so,none⟩) (u1+u2+u3):=fun g p hp h0=>by
  simp only [Option.some.injEq,Addr.mk.injEq] at hp;obtain ⟨rfl,rfl,_⟩:=hp;have:=hb4.scra;exact ⟨fun e=>hb4.dis.fb _ e rfl,fun _=>by omega⟩
 have hnum:=hnl;rw [HNL.out] at hnum;have hwr:=fun k=>write_any (w4.drewN k) b (o+1) C4 T O4.f s.buf (hb4.ub.drewN k) (some ⟨b,so,none⟩) (u1+u2+u3) 30 (nums (N) kn vn) (hsl4.drewN k) haw4 (by omega)
 have hq4:=(bw_form hb4).2.2.2.2;have HB4:=hid hb4;have HC4:=hid hC4;have HF4:=hid hf4;have HO4:=hid hO4;have HK4:=hid hk4;have HV4:=hid hv4;have HS4:=hid hs4;clear hB4 hsl4 hb4 hC4 hf4 hO4 hk4 hv4 hs4 haw4 p1 p2 p3 hnl;go_wp2
 refine wp_tail 9 (by kernel_rfl) ?_;simp only [List.take_succ_cons,List.take_zero,List.drop_succ_cons,List.drop_zero];repeat still_step
 refine wpStill_nil ?_;go_wp2_with (go_at_call 91;refine (hwr _).mono ?_)
 rintro e w5 ⟨rfl,hbt5⟩;have HT5:=BWTo.drewL (BW.bufTo (HB4.out.drewN _) hbt5);clear hbt5 hwr hq4;have hk5:=BWTo.sl HB4.out HT5 hka4 HK4.out;have hv5:=BWTo.sl HB4.out HT5 hva4 HV4.out;obtain ⟨C5,O5,hb5,hs5,hC5,hf5,hO5⟩:=HT5;have hka5:=hka4.new HK4.out hO5;have hva5:=Away.new hva4 HV4.out hO5;have hbl5:(s.buf++nums (N) kn vn).length=s.buf.length+(u1+u2+u3):=by rw [List.length_append,HNL.out]
 have hwr:=fun k=>write_any (w5.drewN k) b (o+1) C5 T O5.f (s.buf++nums (N) kn vn) (hb5.ub.drewN k) (cutA ka kc (N)) (kn - (N)) (kc - (N)) (key.drop (N)) ((hk5.cut (lo:=N) (by omega)).drewN k) (hka5.cut hk5) (by rw [hbl5];omega)
 have hslk:∀ w',(Instr.slice 29 (.slice ka kn kc) (some (.int .i64 ((N:Nat):Int))) none none).run Tryz.prog w'=.ok (.slice (cutA ka kc (N)) (kn - (N)) (kc - (N))) w':=fun w'=>run_slice_lo (P:=Tryz.prog) 29 5 un29 sz5 .i64 ka kn kc (N) (by omega) w'
 have HB5:=hid hb5;have HC5:=hid hC5;have HF5:=hid hf5;have HO5:=hid hO5;have HK5:=hid hk5;have HV5:=hid hv5;have HS5:=hid hs5;have HL5:=hid hbl5;clear hb5 hC5 hf5 hO5 hk5 hv5 hs5 hbl5;go_wp2
 refine wp_tail 6 (by kernel_rfl) ?_;simp only [List.take_succ_cons,List.take_zero,List.drop_succ_cons,List.drop_zero];repeat still_step
 refine wpStill_nil ?_;go_wp2_with (go_at_call 91;refine (hwr _).mono ?_)
 rintro e w6 ⟨rfl,hbt6⟩;have HT6:=BWTo.drewL (BW.bufTo (HB5.out.drewN _) hbt6);clear hbt6 hwr hslk;have hv6:=BWTo.sl HB5.out HT6 hva5 HV5.out;have hk6:=BWTo.sl HB5.out HT6 hka5 HK5.out;obtain ⟨C6,O6,hb6,hs6,hC6,hf6,hO6⟩:=HT6;have hva6:=Away.new hva5 HV5.out hO6;have hka6:=hka5.new HK5.out hO6;have hbl6:((s.buf++nums (N) kn vn)++key.drop (N)).length=s.buf.length+(u1+u2+u3)+(kn - (N)):=by rw [List.length_append,HL5.out,List.length_drop,HK5.out.len]
 have hwr:=write_any w6 b (o+1) C6 T O6.f ((s.buf++nums (N) kn vn)++key.drop (N)) hb6.ub va vn vc val hv6 (Away.b hva6) (by rw [hbl6];omega);have HB6:=hid hb6;have HC6:=hid hC6;have HF6:=hid hf6;have HO6:=hid hO6;have HK6:=hid hk6;have HS6:=hid hs6;clear hb6 hC6 hf6 hO6 hk6 hv6 hs6 hbl6;go_wp2_with (go_at_call 91;refine hwr.mono ?_)
 rintro e w7 ⟨rfl,hbt7⟩;have HT7:=BW.bufTo HB6.out hbt7;clear hbt7 hwr;have hk7:=BWTo.sl HB6.out HT7 hka6 HK6.out;obtain ⟨C7,O7,hb7,hs7,hC7,hf7,hO7⟩:=HT7;obtain ⟨pv7,hpv7,hpown7,hpo7⟩:=hb7.prev;obtain ⟨pa7,pc7,rfl,hpcut7,hpcb7⟩:=own_cut hpown7;have hq7:=hb7.ub.blk.cell hpv7;have hslp:∀ w',(Instr.slice 29 (.slice pa7 s.prev.length pc7) none (some (.int .i64 0)) none).run Tryz.prog w'=.ok (.slice pa7 0 pc7) w':=fun w'=>run_slice_hi (P:=Tryz.prog) 29 5 un29 sz5 .i64 pa7 s.prev.length pc7 0 (by omega) w'
 have hnb7:(Value.slice pa7 0 pc7).ownBlock≠some b:=fun e=>hb7.dis.pb b ((hpcb7.trans hpo7).symm.trans e) rfl
 have hlt7:=hb7.ub.blk.lt;have hend:∀ (w8:World) (v8:Value),w8.ownsRow 0 5 1 v8 (0+kn) ([]++bv key)→w7.grownBy w8 (Value.slice pa7 0 pc7).ownBlock→Lies w7 (Value.slice pa7 0 pc7) v8 →
   BWTo b C7 T o so O7 ({ ({ (s:BWS) with buf:=s.buf++nums (N) kn vn++key.drop (N)++val }:BWS) with prev:=key,n:=s.n+1 }) w7 ((w8.setCell ⟨b,o+68,none⟩ v8).setCell ⟨b,o+67,none⟩ (.int .i64 ((s.n+1:Nat):Int))):=by
  intro w8 v8 ho hg hl;rw [Nat.zero_add,List.nil_append] at ho;obtain ⟨C8,O8,hb8,e8,c8,f8,o8⟩:=hb7.prevTo hpv7 (key:=key) (by rw [HK6.out.len];exact ho) (by rw [← hpcb7];exact hg) (hl.imp (fun h=>h.trans hpcb7) id);exact BWTo.trans e8 c8 f8 o8 (hb8.nTo (s.n+1))
 have hbeq:s.buf++nums (N) kn vn++key.drop (N)++val=s.buf++entry (N) key val:=by simp [entry,nums,HK6.out.len,HV5.out.len,List.append_assoc]
 rw [hbeq] at hend;have hfin:∀ (w8:World) (v8:Value),w8.ownsRow 0 5 1 v8 (0+kn) ([]++bv key)→w7.grownBy w8 (Value.slice pa7 0 pc7).ownBlock→Lies w7 (Value.slice pa7 0 pc7) v8 →
   BWTo b C T o so O ({ (s:BWS) with buf:=s.buf++entry (N) key val,prev:=key,n:=s.n+1 }) w ((w8.setCell ⟨b,o+68,none⟩ v8).setCell ⟨b,o+67,none⟩ (.int .i64 ((s.n:Int)+1))):=by
  intro w8 v8 ho hg hl;exact BWTo.trans HS1.out HC1.out HF1.out HO1.out (BWTo.trans HS4.out HC4.out HF4.out HO4.out (BWTo.trans HS5.out HC5.out HF5.out HO5.out (BWTo.trans HS6.out HC6.out HF6.out HO6.out (BWTo.trans hs7 hC7 hf7 hO7 (hend w8 v8 ho hg hl)))))
 have hn7:=hb7.ub.blk.cell hb7.n;have HFI:=hid hfin;have HB7:=hid hb7;have HPC:=hid hpcut7;have HK7:=hid hk7;have hkm:=hk7.cap;have hkx:=hk7.max;have hk0:=hk7.nil;have HK0:=hid hk0;clear hk0 hk7 hpcut7 hfin hend hbeq hs7 hC7 hf7 hO7 hb7 hpv7 hpown7 hpo7 hpcb7;go_wp2_with (at_builtin;go_must (refine wpList_app rfl _ _ 29 rfl 5 (.int .u8 0) 1 1 un29 info5 rfl (by omega) (.slice pa7 0 pc7) 0 [] rfl HPC.out ka kn kc (bv key) rfl (by rw [bv_length,HK7.out.len];omega) (fun e=>by have:=HK0.out e;omega) HK7.out.news (bv_one key) (by unfold maxLen;omega) (by omega) ?_);go_must (intro v8 w8 hown8 hgrow8 hlies8);go_must (have HX8:=hid (HFI.out w8 v8 hown8 hgrow8 hlies8));go_must (obtain ⟨a8,c8,rfl,hc8⟩:=own_form hown8);go_must (have hz8:w8.cell? ⟨b,o+68,none⟩=some (.slice pa7 s.prev.length pc7):=(hgrow8.cell_far ⟨b,o+68,none⟩ hlt7 (Ne.symm hnb7)).trans hq7);go_must (have hf8:w8.frozen? ⟨b,o+68,none⟩=false:=(hgrow8.frozen_far ⟨b,o+68,none⟩ hlt7 (Ne.symm hnb7)).trans (HB7.out.ub.blk.free _));go_must (have hn8:w8.cell? ⟨b,o+67,none⟩=some (.int .i64 s.n):=(hgrow8.cell_far ⟨b,o+67,none⟩ hlt7 (Ne.symm hnb7)).trans hn7);go_must (have hf9:w8.frozen? ⟨b,o+67,none⟩=false:=(hgrow8.frozen_far ⟨b,o+67,none⟩ hlt7 (Ne.symm hnb7)).trans (HB7.out.ub.blk.free _));clear hown8 hgrow8 hlies8)
 go_end0
 have hx:=HX8.out;rw [Nat.zero_add] at hx;exact ⟨rfl,hx⟩
theorem append_any (w:World) (b:Nat) (C:Array Value) (T o so:Nat) (O:Own) (s:BWS) (h:BW w b C T o so O s) (ka:Option Addr) (kn kc:Nat) (key:List UInt8) (hk:Sl w ka kn kc key) (hka:Away b o so O ka kn)
  (va:Option Addr) (vn vc:Nat) (val:List UInt8) (hv:Sl w va vn vc val) (hva:Away b o so O va vn)
  (hbuf:s.buf.length+kn+vn+40≤4294967295) (hn:s.n≤4294967295) (hr:s.rs.length≤4294967295) (hp:s.prev.length≤4294967295) (hri:1≤s.ri) (hri2:s.ri≤4294967295) :
  Calls Tryz.prog 44 #[.pointer (some ⟨b,o,none⟩),.slice ka kn kc,.slice va vn vc] w fun e w'=>e=.returned (.tuple #[])∧BWTo b C T o so O (s.append key val) w w':=by
 by_cases hm:s.n % s.ri=0
 ·exact append_restart w b C T o so O s h ka kn kc key hk hka va vn vc val hv hva hbuf hn hr hri hri2 hm
 ·exact append_share w b C T o so O s h ka kn kc key hk hka va vn vc val hv hva hbuf hn hp hri hri2 hm
end
end Go.Proofs.YtmkdpjicgjhhjaaGreatDoor
