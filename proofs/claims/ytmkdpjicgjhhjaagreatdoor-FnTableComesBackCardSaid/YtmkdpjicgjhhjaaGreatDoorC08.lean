/- Part 8 of the proof of FnTableComesBack: contracts and lemmas, each under the conditions that it states. Texts: BwFin. -/
import Derived.Test.YtmkdpjicgjhhjaaGreatDoorC07
namespace Go.Proofs.YtmkdpjicgjhhjaaGreatDoor
open Go.Lib (hid)
set_option maxRecDepth 100000
set_option linter.all false
section
open Go Go.RowKit Go.Shelf
theorem BufTo.refl {w:World} {b:Nat} {C:Array Value} {T o:Nat} {F:Option Nat} {l:List UInt8} (h:UB w b C T o F l):BufTo b C T o F l w w:=⟨C,F,h,rfl,fun _ _=>rfl,Fr.refl _ _,fun _ h=>.inl h⟩
theorem BufTo.trans {w w1 w2:World} {b:Nat} {C C1:Array Value} {T o:Nat} {F F1:Option Nat} {l2:List UInt8} (hs:C1.size=C.size) (hC:∀ k,¬ (o≤k∧k < o+66)→C1[k]?=C[k]?) (hf:Fr (fun k=>k=b∨F=some k) w w1)
  (hF:∀ g,F1=some g→F=some g∨w.heap.size≤g) (h2:BufTo b C1 T o F1 l2 w1 w2):BufTo b C T o F l2 w w2:=by
 obtain ⟨C2,F2,g1,g2,g3,g4,g5⟩:=h2;refine ⟨C2,F2,g1,by omega,fun k hk=>by rw [g3 k hk,hC k hk],hf.trans g4 (fun k hk h=>?_),fun k hk=>?_⟩
 ·rcases h with h | h
  ·exact .inl h
  ·rcases hF k h with h | h
   ·exact .inr h
   ·omega
 ·have:=hf.size;rcases g5 k hk with h | h
  ·exact hF k h
  ·exact .inr (by omega)
theorem BufTo.drewL {w w':World} {b:Nat} {C:Array Value} {T o k:Nat} {F:Option Nat} {l:List UInt8} (h:BufTo b C T o F l (w.drewN k) w'):BufTo b C T o F l w w':=by
 obtain ⟨C',O',h1,h2,h3,h4,h5⟩:=h;exact ⟨C',O',h1,h2,h3,h4.undrew,h5⟩
theorem BufTo.drewR {w w':World} {b:Nat} {C:Array Value} {T o:Nat} {F:Option Nat} {l:List UInt8} (h:BufTo b C T o F l w w') (k:Nat):BufTo b C T o F l w (w'.drewN k):=by
 obtain ⟨C',O',h1,h2,h3,h4,h5⟩:=h;exact ⟨C',O',h1.drewN k,h2,h3,h4.drewN k,h5⟩
theorem UB.alloc {w:World} {b:Nat} {C:Array Value} {T o:Nat} {F:Option Nat} {l:List UInt8} (h:UB w b C T o F l) (X:Obj):UB (w.alloc X) b C T o F l :=
 h.keep (h.blk.alloc X) rfl (fun _ _ _=>rfl) (fun k hk=>Below.heap_alloc w X k (h.lt hk).1)
theorem Home.alloc {w:World} {b:Nat} {C:Array Value} {T o c g go E:Nat} {F:Option Nat} {G:Array Value} (h:Home w b C T o F c g go G E) (X:Obj):Home (w.alloc X) b C T o F c g go G E:=⟨h.blk.alloc X,h.fit,h.by_,h.alt⟩
theorem alloced_put {w w1:World} {b:Nat} {C C':Array Value} {T o:Nat} {F F':Option Nat} {l junk:List UInt8} {g go c E:Nat} {G:Array Value} (hu:UB w1 b C' T o F' (l++junk)) (hv:C'[o]?=some (.slice (some ⟨g,go,none⟩) (l++junk).length c))
  (hm:Home w1 b C' T o F' c g go G E) (hlc:(l++junk).length≤c) (hc:c≤12884901888) (hl:∀ j (h:j < (l++junk).length),G[go+j]?=some (.int .u8 ((l++junk)[j]).toNat)) (hs:C'.size=C.size) (hC:∀ k,k≠o→C'[k]?=C[k]?)
  (hf:Fr (fun k=>k=b) w w1) (hF:∀ g,F'=some g→F=some g∨w.heap.size≤g) (cs:List UInt8) (hcs:cs.length=junk.length) (X:Obj) :
  BufTo b C T o F (l++cs) w ((w1.alloc X).setRow g (splice G (go+l.length) (bv cs))):=by
 obtain ⟨C2,h1,h2,h3⟩:=(hu.alloc X).put hv (hm.alloc X) hlc hc hl l.length cs (by simp [hcs]);have hsp:(l++junk).take l.length++cs++(l++junk).drop (l.length+cs.length)=l++cs:=by
  rw [List.take_left,List.drop_eq_nil_of_le (by simp [hcs]),List.append_nil]
 rw [hsp] at h1;refine ⟨C2,F',h1,by omega,fun k hk=>by rw [h3 k (by omega),hC k (by omega)],?_,hF⟩;refine ((hf.mono (S':=fun k=>k=b∨F=some k) fun k _ h=>.inl h).alloc X).setRow (fun hg=>?_) _;rcases hm.alt with ⟨rfl,_⟩ | ⟨hF',_⟩
 ·exact .inl rfl
 ·rcases hF g hF' with h | h
  ·exact .inr h
  ·omega
theorem own_cells {w:World} {e n:Nat} {a:Option Addr} {c:Nat} {xs:List Value} (h:w.ownsRow 0 e 1 (.slice a n c) n xs) (hn:0 < n) :
  ∃ g,a=some ⟨g,0,none⟩∧(Value.slice a n c).ownBlock=some g∧∀ i x,xs[i]?=some x→w.cell? ⟨g,i,none⟩=some x:=by
 obtain ⟨h1,h⟩:=h;rcases h with ⟨hv,rfl⟩ | ⟨g,cap,cur,hv,h0,hg,hn',hm,hs,ht⟩
 ·omega
 ·simp only [Value.slice.injEq] at hv;obtain ⟨rfl,_,rfl⟩:=hv;refine ⟨g,rfl,rfl,fun i x hx=>?_⟩;have hb:Blk w g cur e:=hg;rw [hb.cell',← Array.getElem?_toList];rw [← ht] at hx;have hi:i < n*1:=by
   rcases Nat.lt_or_ge i (n*1) with h | h
   ·exact h
   ·rw [List.getElem?_eq_none (by simp;omega)] at hx;cases hx
  rwa [List.getElem?_take_of_lt hi] at hx
set_option maxHeartbeats 1000000 in
theorem bytesLen_any (w:World) (b:Nat) (C:Array Value) (T o so:Nat) (O:Own) (s:BWS) (h:BW w b C T o so O s) (hbuf:s.buf.length≤1073741824) (hr:s.rs.length≤1073741824) :
  Calls Tryz.prog 46 #[.pointer (some ⟨b,o,none⟩)] w fun e w'=>e=.returned (.int .i64 ((s.buf.length+4*(if s.rs.length=0 then 1 else s.rs.length)+4:Nat)))∧∃ k,w'=w.drewN k:=by
 obtain ⟨⟨a,c,h0⟩,h1,hric,hnc,hsc⟩:=bw_form h;obtain ⟨v,hvr,hown,hro⟩:=h.rs;have hrs:=h.ub.blk.cell hvr;obtain ⟨ra,rc,rfl,_⟩:=own_form hown;have hl:=len_cells b (o+1) a s.buf.length c w h0 h1 (by omega);clear hown hvr hro h;generalize s.buf.length=m at *;rcases Nat.eq_zero_or_pos s.rs.length with hz | hz
 ·rw [hz] at hrs ⊢;go_enter Tryz.func46,Tryz.ntmps46
  go_wp2_with (go_at_call 49;refine hl.mono ?_;rintro e w1 ⟨rfl,k,rfl⟩)
  go_ret
  exact ⟨by simp,_,rfl⟩
 ·have hne:((s.rs.length:Int) == 0)=false:=by rw [beq_eq_false_iff_ne];omega
  have hif:(if s.rs.length=0 then 1 else s.rs.length)=s.rs.length:=by rw [if_neg (by omega)]
  rw [hif];clear hif;generalize s.rs.length=n at *;go_enter Tryz.func46,Tryz.ntmps46
  go_wp2_with (go_at_call 49;refine hl.mono ?_;rintro e w1 ⟨rfl,k,rfl⟩)
  go_ret
  exact ⟨by simp,_,rfl⟩
set_option maxHeartbeats 1000000 in
theorem bwreset_any (w:World) (b:Nat) (C:Array Value) (T o so:Nat) (O:Own) (s:BWS) (h:BW w b C T o so O s) :
  Calls Tryz.prog 92 #[.pointer (some ⟨b,o,none⟩)] w fun e w'=>e=.returned (.tuple #[])∧BWTo b C T o so O s.reset w w':=by
 have hr:=reset_any w b (o+1) C T O.f s.buf h.ub;have HB:=hid h;clear h;go_enter Tryz.func92,Tryz.ntmps92
 go_wp2_with (go_at_call 119;refine hr.mono ?_)
 rintro e w1 ⟨rfl,C1,hu,hs1,hC1,hf1⟩;have HT1:BWTo b C T o so O { s with buf:=[] } w w1:=BW.bufTo HB.out ⟨C1,O.f,hu,hs1,fun k hk=>hC1 k (by omega),hf1.mono fun k _ h=>.inl h,fun _ h=>.inl h⟩;clear hr hu hs1 hC1 hf1;obtain ⟨C2,O2,hb2,hs2,hC2,hf2,hO2⟩:=HT1;have hnc:=(bw_form hb2).2.2.2.1;obtain ⟨v,hvr,hown,hro⟩:=hb2.rs;have hrs:=hb2.ub.blk.cell hvr;obtain ⟨ra,rc,rfl,hcut,hcb⟩:=own_cut hown;have hsl:∀ w',(Instr.slice 105 (.slice ra s.rs.length rc) none (some (.int .i64 0)) none).run Tryz.prog w'=.ok (.slice ra 0 rc) w':=fun w'=>run_slice_hi (P:=Tryz.prog) 105 201 un105 sz201 .i64 ra s.rs.length rc 0 (by omega) w'
 have hfz:=hb2.ub.blk.free (o+67);have hfz2:=hb2.ub.blk.free (o+69);have hend:BWTo b C T o so O s.reset w ((w1.setCell ⟨b,o+67,none⟩ (.int .i64 0)).setCell ⟨b,o+69,none⟩ (.slice ra 0 rc)):=by
  obtain ⟨C3,O3,hb3,hs3,hC3,hf3,hO3⟩:=hb2.nTo 0;refine BWTo.trans hs2 hC2 hf2 hO2 (BWTo.trans hs3 hC3 hf3 hO3 ?_);obtain ⟨v3,hv3,hown3,hro3⟩:=hb3.rs;have hfr:Fr (fun k=>k=b) w1 (w1.setCell ⟨b,o+67,none⟩ (.int .i64 0)):=(Fr.refl _ _).setC b (o+67) _ rfl;have hcut3:(w1.setCell ⟨b,o+67,none⟩ (.int .i64 0)).ownsRow 0 201 1 (.slice ra 0 rc) 0 []:=own_fr hcut hfr (fun k hk e=>hb2.dis.rb k (hro.symm.trans (hcb.symm.trans hk)) e)
  have hv3':v3=.slice ra s.rs.length rc:=by
   have a1:=hb3.ub.blk.cell hv3;have a2:=(hb2.ub.blk.set (o+67) (.int .i64 ((0:Nat):Int))).cell (k:=o+69) (v:=.slice ra s.rs.length rc) (by rw [Array.getElem?_setIfInBounds_ne (by omega)];exact hvr);exact Option.some.inj (a1.symm.trans a2)
  have:=hb3.rsTo (w0:=w1.setCell ⟨b,o+67,none⟩ (.int .i64 0)) (w1:=w1.setCell ⟨b,o+67,none⟩ (.int .i64 0)) (Fr.refl _ _) hv3 (v1:=.slice ra 0 rc) (rs':=[]) (by exact hcut3) (World.grownBy.refl _ _) (.inl (by rw [hv3'];exact hcb));exact this
 clear hb2 hC2 hf2 hO2 hvr hown hro hcut hcb;go_wp2
 go_end0
 exact ⟨rfl,hend⟩
set_option maxHeartbeats 4000000 in
theorem finish_zero (w:World) (b:Nat) (C:Array Value) (T o so:Nat) (O:Own) (s:BWS) (h:BW w b C T o so O s) (hbuf:s.buf.length≤1073741824) (hr:s.rs.length≤268435456) (hrv:∀ x∈s.rs,x < 4294967296) (hn:s.n=0) :
  Calls Tryz.prog 52 #[.pointer (some ⟨b,o,none⟩)] w fun e w'=>e=.returned (.tuple #[])∧BWTo b C T o so O s.finish w w':=by
 have hends:s.ends=(s.rs++[0]):=by unfold BWS.ends;rw [if_pos hn]
 have hfinq:s.finish={ (({ s with rs:=(s.rs++[0]) }:BWS)) with buf:=s.buf++le32s ((s.rs++[0])++[(s.rs++[0]).length]),rs:=(s.rs++[0])++[(s.rs++[0]).length] }:=by unfold BWS.finish;rw [hends]
 obtain ⟨FS,hFS⟩:∃ FS,FS=s.finish:=⟨_,rfl⟩;rw [← hFS];rw [hfinq] at hFS;have HFS:=hid hFS;clear hFS hfinq hends;have hlt:=h.ub.blk.lt;have hnc:=(bw_form h).2.2.2.1;obtain ⟨v,hvr,hown,hro⟩:=h.rs;have hrs:=h.ub.blk.cell hvr;have hnb:v.ownBlock≠some b:=fun e=>h.dis.rb b (hro.symm.trans e) rfl
 have HB:=hid h;have HOW:=hid hown;rw [hn] at hnc;have HN0:=hid hn;clear hn;have hfz:=h.ub.blk.free (o+69);have hend1:∀ (w1:World) (v1:Value),w1.ownsRow 0 201 1 v1 (s.rs.length+1) (rv s.rs++[.int .u32 0])→(w.alloc (.cells #[.int .u32 0] 201)).grownBy w1 v.ownBlock→Lies (w.alloc (.cells #[.int .u32 0] 201)) v v1→BWTo b C T o so O { s with rs:=s.rs++[0] } w (w1.setCell ⟨b,o+69,none⟩ v1):=by
  intro w1 v1 ho hg hl;refine h.rsTo ((Fr.refl (fun _=>False) w).alloc _) hvr ?_ hg hl;rw [rv_append,List.length_append];exact ho
 have HE1:=hid hend1;have HNB:=hid hnb;have HVR:=hid hvr;clear hend1 h hvr hown hro hnb;go_enter Tryz.func52,Tryz.ntmps52
 go_wp2_with (at_builtin;go_must (refine wpList_app rfl _ _ 105 rfl 201 (.int .u32 0) 1 4 un105 info201 rfl (by omega) v s.rs.length (rv s.rs) rfl (by exact HOW.out.alloc _) (some ⟨w.heap.size,0,none⟩) 1 1 [.int .u32 0] rfl rfl (by simp) (by exact news_new [.int .u32 0] _ (Blk.new w _ _)) (by simp [Value.oneCell']) (by unfold maxLen;omega) (by omega) ?_);intro v2 w2 hown2 hgrow hlies;have HX:=hid (HE1.out w2 v2 hown2 hgrow hlies);go_must (obtain ⟨a2,c2,rfl,hc2⟩:=own_form hown2);go_must (have hz2:w2.cell? ⟨b,o+69,none⟩=some v:=(hgrow.cell_far ⟨b,o+69,none⟩ (by simp;omega) (Ne.symm HNB.out)).trans ((HB.out.ub.blk.alloc _).cell HVR.out));go_must (have hf2:w2.frozen? ⟨b,o+69,none⟩=false:=(hgrow.frozen_far ⟨b,o+69,none⟩ (by simp;omega) (Ne.symm HNB.out)).trans ((HB.out.ub.blk.alloc _).free _));clear hown2 hgrow hlies;have tok:True:=trivial)
 generalize w2.setCell ⟨b,o+69,none⟩ (.slice a2 (s.rs.length+1) c2)=W at *;clear hz2 hf2 hc2;obtain ⟨C1,O1,hb1,hs1,hC1,hf1,hO1⟩:=HX.out;obtain ⟨v1,hvr1,hown1,hro1⟩:=hb1.rs;have hrs1:=hb1.ub.blk.cell hvr1;obtain ⟨ra1,rc1,rfl,hrlc,hrcm,hrn1⟩:=own_form hown1;have hnb1:(Value.slice ra1 ((s.rs++[0])).length rc1).ownBlock≠some b:=fun e=>hb1.dis.rb b (hro1.symm.trans e) rfl
 have hlt1:=hb1.ub.blk.lt;have hel:((s.rs++[0])).length≤268435457:=by first | (simp only [List.length_append,List.length_cons,List.length_nil];omega) | omega
 have hev:∀ x∈(s.rs++[0]),x < 4294967296:=by
  intro x hx;rcases List.mem_append.1 hx with hx | hx
  ·exact hrv x hx
  ·simp at hx;omega
 have hwl:IntKind.u32.wrap ((((s.rs++[0])).length:Nat):Int)=(((s.rs++[0])).length:Nat):=IntWalk.u32_in _ (by omega);have hend2:∀ (k:Nat) (w3:World) (v3:Value),w3.ownsRow 0 201 1 v3 (((s.rs++[0])).length+1) (rv (s.rs++[0])++[.int .u32 ((s.rs++[0])).length])→((W.alloc (.cells #[.int .u32 ((s.rs++[0])).length] 201)).drewN k).grownBy w3 (Value.slice ra1 ((s.rs++[0])).length rc1).ownBlock→Lies ((W.alloc (.cells #[.int .u32 ((s.rs++[0])).length] 201)).drewN k) (Value.slice ra1 ((s.rs++[0])).length rc1) v3 →
   BWTo b C1 T o so O1 { ({ s with rs:=s.rs++[0] }:BWS) with rs:=(s.rs++[0])++[((s.rs++[0])).length] } W (w3.setCell ⟨b,o+69,none⟩ v3):=by
  intro k w3 v3 ho hg hl;refine hb1.rsTo (((Fr.refl (fun _=>False) W).alloc _).drewN k) hvr1 ?_ hg hl;rw [rv_append,List.length_append];exact ho
 have HE2:=hid hend2;have HB1:=hid hb1;have HS1:=hid hs1;have HC1:=hid hC1;have HF1:=hid hf1;have HO1:=hid hO1;have HW1:=hid hown1;have HN1:=hid hnb1;have HV1:=hid hvr1;have HEV:=hid hev;clear hend2 hb1 hs1 hC1 hf1 hO1 hown1 hro1 hrn1 hnb1 hvr1 hev;generalize hN:((s.rs++[0])).length=N at *;refine Pos.start (fun X=>X.cell? ⟨b,o+69,none⟩=some (.slice ra1 N rc1)) 13 (by kernel_rfl) ?_;have hS:(fun X:World=>X.cell? ⟨b,o+69,none⟩=some (.slice ra1 N rc1)) (W.drewN 1):=hrs1
 iterate 11
  refine' Pos.takeK hS rfl (by kernel_rfl) (fun _ _ _ h=>h) (by rfl) ?_ ?_;rotate_left
  ·intro W hW;obtain s1:=hW;go_simp;try with_reducible rfl
  intro K hK;go_simp;refine hK _ ?_;clear hK K
 refine Pos.eff rfl (by kernel_rfl) ?_;go_wp2
 clear hS;have hS:(fun X:World=>X.cell? ⟨b,o+69,none⟩=some (.slice ra1 N rc1)) ((W.alloc (Obj.cells #[Value.int IntKind.u32 ↑N] 201)).drewN 1):=by go_simp
 refine ⟨hS,?_⟩;refine Pos.eff rfl (by kernel_rfl) ?_;refine wpList_app rfl _ _ 105 rfl 201 (.int .u32 0) 1 4 un105 info201 rfl (by omega) (.slice ra1 N rc1) N (rv (s.rs++[0])) rfl (by exact HW1.out.alloc _) (some ⟨W.heap.size,0,none⟩) 1 1 [.int .u32 N] rfl rfl (by simp) (by exact news_new [.int .u32 N] _ (Blk.new W _ _)) (by simp [Value.oneCell']) (by unfold maxLen;omega) (by omega) ?_;intro v3 w3 hown3 hgrow3 hlies3
 have HX3:=hid (HE2.out _ w3 v3 hown3 hgrow3 hlies3);obtain ⟨a3,c3,rfl,hc3⟩:=own_form hown3;have hz3:w3.cell? ⟨b,o+69,none⟩=some (.slice ra1 N rc1):=(hgrow3.cell_far ⟨b,o+69,none⟩ (by simp;omega) (Ne.symm HN1.out)).trans ((HB1.out.ub.blk.alloc _).cell HV1.out);have hf3:w3.frozen? ⟨b,o+69,none⟩=false:=(hgrow3.frozen_far ⟨b,o+69,none⟩ (by simp;omega) (Ne.symm HN1.out)).trans ((HB1.out.ub.blk.alloc _).free _)
 refine ⟨hz3,?_⟩;refine Pos.tail (by kernel_rfl) (by decide) ?_;simp only [List.drop_succ_cons,List.drop_zero];clear hown3 hgrow3 hlies3 hS;go_wp2
 have hq3:(w3.setCell ⟨b,o+69,none⟩ (.slice a3 (N+1) c3)).cell? ⟨b,o+69,none⟩=some (.slice a3 (N+1) c3):=by go_simp
 generalize w3.setCell ⟨b,o+69,none⟩ (.slice a3 (N+1) c3)=W3 at *;clear hz3 hf3;obtain ⟨C2,O2,hb2,hs2,hC2,hf2,hO2⟩:=HX3.out;obtain ⟨v2,hv2,hown2,hro2⟩:=hb2.rs;have hv2e:v2=.slice a3 (N+1) c3:=Option.some.inj ((hb2.ub.blk.cell hv2).symm.trans hq3);subst hv2e;have hlen2:((s.rs++[0])++[N]).length=N+1:=by rw [List.length_append,hN];rfl
 have hown3:W3.ownsRow 0 201 1 (.slice a3 (N+1) c3) (N+1) (rv ((s.rs++[0])++[N])):=by
  have h:=hown2;simp only [hlen2] at h;exact h
 obtain ⟨g,rfl,hgo,hgc⟩:=own_cells hown3 (by omega);have hgb:g≠b:=fun e=>hb2.dis.rb g (hro2.symm.trans hgo) e
 have hgf:O2.f≠some g:=fun e=>hb2.dis.fr g e (hro2.symm.trans hgo)
 have hglt:g < W3.heap.size:=own_lt hown3 hgo;have HU:=hid hb2.ub;have HBB:=hid (fun w' (hh:BufTo b C2 T (o+1) O2.f (s.buf++le32s ((s.rs++[0])++[N])) W3 w')=>BW.bufTo hb2 hh);have HS2:=hid hs2;have HC2:=hid hC2;have HF2:=hid hf2;have HO2:=hid hO2;have HGC:=hid hgc;have HLN:=hid hlen2;have HNN:=hid hN;have HQ:=hid hq3;clear hs2 hC2 hf2 hO2 hgc hown2 hown3 hv2 hro2 hgo hlen2 hb2 hq3 hN HX3 HE2 hrs1;have HEV2:Hid (∀ x∈(s.rs++[0])++[N],x < 4294967296):=hid (by
  intro x hx;rcases List.mem_append.1 hx with h | h
  ·exact HEV.out x h
  ·simp at h;omega)
 clear HEV HW1 HV1 HB1 HN1;clear hwl;generalize hR:(s.rs++[0])++[N]=R at *;clear hR;go_loopw [39,3,4] (fun i _ _ wr=>∃ k:Nat,k≤N+1∧i=.int .i64 k∧Hid (BufTo b C2 T (o+1) O2.f (s.buf++le32s (R.take k)) W3 wr)) (fun i _ _ _=>N+1 - (intOf i).toNat)
 case atStart=>exact ⟨0,Nat.zero_le _,rfl,hid (by rw [List.take_zero,show le32s []=[] from rfl,List.append_nil];exact BufTo.refl HU.out)⟩
 case round =>
  obtain ⟨k,hk,rfl,HR⟩:=hrel;by_cases hlt:k < N+1
  ·obtain ⟨C3,F3,hu3,hs3,hC3,hf3,hF3⟩:=HR.out;have hxe:∃ x,R[k]?=some x:=⟨_,List.getElem?_eq_getElem (by rw [HLN.out];exact hlt)⟩;obtain ⟨x,hx⟩:=hxe;have hx32:x < 4294967296:=by
    exact HEV2.out x (List.mem_of_getElem? hx)
   have hce:wr.cell? ⟨g,k,none⟩=some (.int .u32 x):=(hf3.cell hglt (by simp [hgb,hgf])).trans (HGC.out k _ (by rw [rv,List.getElem?_map,hx];rfl));have hi0:(0:Int)≤(k:Int):=by omega
   have hi1:(k:Int) < ((N+1:Nat):Int):=by omega
   have hi2:(k:Int) < (N:Int)+1:=by omega
   have hbl:(s.buf++le32s (R.take k)).length≤4294967200:=by
    rw [List.length_append,le32s_length,List.length_take,HLN.out];omega
   have hal:=alloc_any wr b (o+1) 4 C3 T F3 _ hu3 (by omega) (by omega);have HS3:=hid hs3;have HC3:=hid hC3;have HF3:=hid hf3;have HG3:=hid hF3;have HX:=hid hx;clear hs3 hC3 hf3 hF3 hx hu3;go_wp2_with (go_at_call 93;refine hal.mono ?_)
   rintro e w5 ⟨C5,F5,junk,g5,go5,c5,G5,E5,rfl,hj,hu5,hv5,hm5,hlc5,hcm5,hl5,hs5,hC5,hf5,hF5⟩;have hfit:=hm5.fit;have hpu:=putUint32_any g5 (go5+(s.buf++le32s (R.take k)).length) 4 (c5 - (s.buf++le32s (R.take k)).length) x hx32 w5 G5 E5 hm5.blk (by omega) (by omega);have hend:=alloced_put hu5 hv5 hm5 (by rw [List.length_append,hj];exact hlc5) hcm5 hl5 hs5 hC5 hf5 hF5 (Lib.leBytes 4 x) (by rw [leBytes_length,hj]) (.cells #[] 204)
   have hnext:∀ w6,(w5.alloc (.cells #[] 204)).setRow g5 (splice G5 (go5+(s.buf++le32s (R.take k)).length) (bv (Lib.leBytes 4 x)))=w6→BufTo b C2 T (o+1) O2.f (s.buf++le32s (R.take (k+1))) W3 w6:=by
    intro w6 e6;subst e6;have e:s.buf++le32s (R.take (k+1))=(s.buf++le32s (R.take k))++Lib.leBytes 4 x:=by
     rw [List.take_add_one,HX.out,le32s_append,List.append_assoc];simp [le32s]
    rw [e];exact BufTo.trans HS3.out HC3.out HF3.out HG3.out hend
   generalize (s.buf++le32s (R.take k)).length=LL at *;have HNX:=hid hnext;clear hend hnext hal hu5 hv5 hm5 hlc5 hcm5 hl5 hs5 hC5 hf5 hF5 hj hfit;go_wp2_with (go_at_call 94;refine hpu.mono ?_)
   rintro e w6 ⟨rfl,h6⟩;have HB6:=hid (HNX.out w6 h6);clear h6 hpu;go_wp2
   go_roundw
   case rel=>exact ⟨k+1,by omega,by go_num,HB6⟩
   case measure=>simp [intOf];omega
  ·have hkn:k=N+1:=by omega
   have hd:decide ((k:Int) < (N:Int)+1)=false:=by simp;omega
   have hfinal:BWTo b C T o so O ({ (({ s with rs:=s.rs++[0] }:BWS)) with buf:=s.buf++le32s R,rs:=R }) w wr:=by
    have:=HR.out;rw [List.take_of_length_le (by rw [HLN.out];omega)] at this;exact BWTo.trans HS1.out HC1.out HF1.out HO1.out (BWTo.trans HS2.out HC2.out HF2.out HO2.out (HBB.out _ this))
   have HFN:=hid hfinal;clear hfinal hkn;go_wp2
   go_end0
   refine ⟨rfl,?_⟩;rw [HFS.out];exact HFN.out
set_option maxHeartbeats 4000000 in
theorem finish_pos (w:World) (b:Nat) (C:Array Value) (T o so:Nat) (O:Own) (s:BWS) (h:BW w b C T o so O s) (hbuf:s.buf.length≤1073741824) (hr:s.rs.length≤268435456) (hrv:∀ x∈s.rs,x < 4294967296) (hn:0 < s.n∧s.n≤4294967296) :
  Calls Tryz.prog 52 #[.pointer (some ⟨b,o,none⟩)] w fun e w'=>e=.returned (.tuple #[])∧BWTo b C T o so O s.finish w w':=by
 have hends:s.ends=s.rs:=by unfold BWS.ends;rw [if_neg (by omega)]
 have hfinq:s.finish={ (s) with buf:=s.buf++le32s (s.rs++[s.rs.length]),rs:=s.rs++[s.rs.length] }:=by unfold BWS.finish;rw [hends]
 obtain ⟨FS,hFS⟩:∃ FS,FS=s.finish:=⟨_,rfl⟩;rw [← hFS];rw [hfinq] at hFS;have HFS:=hid hFS;clear hFS hfinq hends;have hlt:=h.ub.blk.lt;have hnc:=(bw_form h).2.2.2.1;obtain ⟨v,hvr,hown,hro⟩:=h.rs;have hrs:=h.ub.blk.cell hvr;have hnb:v.ownBlock≠some b:=fun e=>h.dis.rb b (hro.symm.trans e) rfl
 have HB:=hid h;have HOW:=hid hown;have hne:((s.n:Int) == 0)=false:=by rw [beq_eq_false_iff_ne];omega
 have HX:Hid (BWTo b C T o so O s w w):=hid (BWTo.refl h);have HVR:=hid hvr;clear h hvr hown hro hnb hrs;go_enter Tryz.func52,Tryz.ntmps52
 go_wp2
 obtain ⟨C1,O1,hb1,hs1,hC1,hf1,hO1⟩:=HX.out;obtain ⟨v1,hvr1,hown1,hro1⟩:=hb1.rs;have hrs1:=hb1.ub.blk.cell hvr1;obtain ⟨ra1,rc1,rfl,hrlc,hrcm,hrn1⟩:=own_form hown1;have hnb1:(Value.slice ra1 (s.rs).length rc1).ownBlock≠some b:=fun e=>hb1.dis.rb b (hro1.symm.trans e) rfl
 have hlt1:=hb1.ub.blk.lt;have hel:(s.rs).length≤268435457:=by first | (simp only [List.length_append,List.length_cons,List.length_nil];omega) | omega
 have hev:∀ x∈s.rs,x < 4294967296:=by
  intro x hx;skip
  exact hrv x hx
 have hwl:IntKind.u32.wrap (((s.rs).length:Nat):Int)=((s.rs).length:Nat):=IntWalk.u32_in _ (by omega);have hend2:∀ (k:Nat) (w3:World) (v3:Value),w3.ownsRow 0 201 1 v3 ((s.rs).length+1) (rv s.rs++[.int .u32 (s.rs).length])→((w.alloc (.cells #[.int .u32 (s.rs).length] 201)).drewN k).grownBy w3 (Value.slice ra1 (s.rs).length rc1).ownBlock→Lies ((w.alloc (.cells #[.int .u32 (s.rs).length] 201)).drewN k) (Value.slice ra1 (s.rs).length rc1) v3 →
   BWTo b C1 T o so O1 { s with rs:=s.rs++[(s.rs).length] } w (w3.setCell ⟨b,o+69,none⟩ v3):=by
  intro k w3 v3 ho hg hl;refine hb1.rsTo (((Fr.refl (fun _=>False) w).alloc _).drewN k) hvr1 ?_ hg hl;rw [rv_append,List.length_append];exact ho
 have HE2:=hid hend2;have HB1:=hid hb1;have HS1:=hid hs1;have HC1:=hid hC1;have HF1:=hid hf1;have HO1:=hid hO1;have HW1:=hid hown1;have HN1:=hid hnb1;have HV1:=hid hvr1;have HEV:=hid hev;clear hend2 hb1 hs1 hC1 hf1 hO1 hown1 hro1 hrn1 hnb1 hvr1 hev;generalize hN:(s.rs).length=N at *;refine Pos.start (fun X=>X.cell? ⟨b,o+69,none⟩=some (.slice ra1 N rc1)) 13 (by kernel_rfl) ?_;have hS:(fun X:World=>X.cell? ⟨b,o+69,none⟩=some (.slice ra1 N rc1)) (w.drewN 1):=hrs1
 iterate 11
  refine' Pos.takeK hS rfl (by kernel_rfl) (fun _ _ _ h=>h) (by rfl) ?_ ?_;rotate_left
  ·intro W hW;obtain s1:=hW;go_simp;try with_reducible rfl
  intro K hK;go_simp;refine hK _ ?_;clear hK K
 refine Pos.eff rfl (by kernel_rfl) ?_;go_wp2
 clear hS;have hS:(fun X:World=>X.cell? ⟨b,o+69,none⟩=some (.slice ra1 N rc1)) ((w.alloc (Obj.cells #[Value.int IntKind.u32 ↑N] 201)).drewN 1):=by go_simp
 refine ⟨hS,?_⟩;refine Pos.eff rfl (by kernel_rfl) ?_;refine wpList_app rfl _ _ 105 rfl 201 (.int .u32 0) 1 4 un105 info201 rfl (by omega) (.slice ra1 N rc1) N (rv s.rs) rfl (by exact HW1.out.alloc _) (some ⟨w.heap.size,0,none⟩) 1 1 [.int .u32 N] rfl rfl (by simp) (by exact news_new [.int .u32 N] _ (Blk.new w _ _)) (by simp [Value.oneCell']) (by unfold maxLen;omega) (by omega) ?_;intro v3 w3 hown3 hgrow3 hlies3
 have HX3:=hid (HE2.out _ w3 v3 hown3 hgrow3 hlies3);obtain ⟨a3,c3,rfl,hc3⟩:=own_form hown3;have hz3:w3.cell? ⟨b,o+69,none⟩=some (.slice ra1 N rc1):=(hgrow3.cell_far ⟨b,o+69,none⟩ (by simp;omega) (Ne.symm HN1.out)).trans ((HB1.out.ub.blk.alloc _).cell HV1.out);have hf3:w3.frozen? ⟨b,o+69,none⟩=false:=(hgrow3.frozen_far ⟨b,o+69,none⟩ (by simp;omega) (Ne.symm HN1.out)).trans ((HB1.out.ub.blk.alloc _).free _)
 refine ⟨hz3,?_⟩;refine Pos.tail (by kernel_rfl) (by decide) ?_;simp only [List.drop_succ_cons,List.drop_zero];clear hown3 hgrow3 hlies3 hS;go_wp2
 have hq3:(w3.setCell ⟨b,o+69,none⟩ (.slice a3 (N+1) c3)).cell? ⟨b,o+69,none⟩=some (.slice a3 (N+1) c3):=by go_simp
 generalize w3.setCell ⟨b,o+69,none⟩ (.slice a3 (N+1) c3)=W3 at *;clear hz3 hf3;obtain ⟨C2,O2,hb2,hs2,hC2,hf2,hO2⟩:=HX3.out;obtain ⟨v2,hv2,hown2,hro2⟩:=hb2.rs;have hv2e:v2=.slice a3 (N+1) c3:=Option.some.inj ((hb2.ub.blk.cell hv2).symm.trans hq3);subst hv2e;have hlen2:(s.rs++[N]).length=N+1:=by rw [List.length_append,hN];rfl
 have hown3:W3.ownsRow 0 201 1 (.slice a3 (N+1) c3) (N+1) (rv (s.rs++[N])):=by
  have h:=hown2;simp only [hlen2] at h;exact h
 obtain ⟨g,rfl,hgo,hgc⟩:=own_cells hown3 (by omega);have hgb:g≠b:=fun e=>hb2.dis.rb g (hro2.symm.trans hgo) e
 have hgf:O2.f≠some g:=fun e=>hb2.dis.fr g e (hro2.symm.trans hgo)
 have hglt:g < W3.heap.size:=own_lt hown3 hgo;have HU:=hid hb2.ub;have HBB:=hid (fun w' (hh:BufTo b C2 T (o+1) O2.f (s.buf++le32s (s.rs++[N])) W3 w')=>BW.bufTo hb2 hh);have HS2:=hid hs2;have HC2:=hid hC2;have HF2:=hid hf2;have HO2:=hid hO2;have HGC:=hid hgc;have HLN:=hid hlen2;have HNN:=hid hN;have HQ:=hid hq3;clear hs2 hC2 hf2 hO2 hgc hown2 hown3 hv2 hro2 hgo hlen2 hb2 hq3 hN HX3 HE2 hrs1;have HEV2:Hid (∀ x∈s.rs++[N],x < 4294967296):=hid (by
  intro x hx;rcases List.mem_append.1 hx with h | h
  ·exact HEV.out x h
  ·simp at h;omega)
 clear HEV HW1 HV1 HB1 HN1;clear hwl;generalize hR:s.rs++[N]=R at *;clear hR;go_loopw [39,3,4] (fun i _ _ wr=>∃ k:Nat,k≤N+1∧i=.int .i64 k∧Hid (BufTo b C2 T (o+1) O2.f (s.buf++le32s (R.take k)) W3 wr)) (fun i _ _ _=>N+1 - (intOf i).toNat)
 case atStart=>exact ⟨0,Nat.zero_le _,rfl,hid (by rw [List.take_zero,show le32s []=[] from rfl,List.append_nil];exact BufTo.refl HU.out)⟩
 case round =>
  obtain ⟨k,hk,rfl,HR⟩:=hrel;by_cases hlt:k < N+1
  ·obtain ⟨C3,F3,hu3,hs3,hC3,hf3,hF3⟩:=HR.out;have hxe:∃ x,R[k]?=some x:=⟨_,List.getElem?_eq_getElem (by rw [HLN.out];exact hlt)⟩;obtain ⟨x,hx⟩:=hxe;have hx32:x < 4294967296:=by
    exact HEV2.out x (List.mem_of_getElem? hx)
   have hce:wr.cell? ⟨g,k,none⟩=some (.int .u32 x):=(hf3.cell hglt (by simp [hgb,hgf])).trans (HGC.out k _ (by rw [rv,List.getElem?_map,hx];rfl));have hi0:(0:Int)≤(k:Int):=by omega
   have hi1:(k:Int) < ((N+1:Nat):Int):=by omega
   have hi2:(k:Int) < (N:Int)+1:=by omega
   have hbl:(s.buf++le32s (R.take k)).length≤4294967200:=by
    rw [List.length_append,le32s_length,List.length_take,HLN.out];omega
   have hal:=alloc_any wr b (o+1) 4 C3 T F3 _ hu3 (by omega) (by omega);have HS3:=hid hs3;have HC3:=hid hC3;have HF3:=hid hf3;have HG3:=hid hF3;have HX:=hid hx;clear hs3 hC3 hf3 hF3 hx hu3;go_wp2_with (go_at_call 93;refine hal.mono ?_)
   rintro e w5 ⟨C5,F5,junk,g5,go5,c5,G5,E5,rfl,hj,hu5,hv5,hm5,hlc5,hcm5,hl5,hs5,hC5,hf5,hF5⟩;have hfit:=hm5.fit;have hpu:=putUint32_any g5 (go5+(s.buf++le32s (R.take k)).length) 4 (c5 - (s.buf++le32s (R.take k)).length) x hx32 w5 G5 E5 hm5.blk (by omega) (by omega);have hend:=alloced_put hu5 hv5 hm5 (by rw [List.length_append,hj];exact hlc5) hcm5 hl5 hs5 hC5 hf5 hF5 (Lib.leBytes 4 x) (by rw [leBytes_length,hj]) (.cells #[] 204)
   have hnext:∀ w6,(w5.alloc (.cells #[] 204)).setRow g5 (splice G5 (go5+(s.buf++le32s (R.take k)).length) (bv (Lib.leBytes 4 x)))=w6→BufTo b C2 T (o+1) O2.f (s.buf++le32s (R.take (k+1))) W3 w6:=by
    intro w6 e6;subst e6;have e:s.buf++le32s (R.take (k+1))=(s.buf++le32s (R.take k))++Lib.leBytes 4 x:=by
     rw [List.take_add_one,HX.out,le32s_append,List.append_assoc];simp [le32s]
    rw [e];exact BufTo.trans HS3.out HC3.out HF3.out HG3.out hend
   generalize (s.buf++le32s (R.take k)).length=LL at *;have HNX:=hid hnext;clear hend hnext hal hu5 hv5 hm5 hlc5 hcm5 hl5 hs5 hC5 hf5 hF5 hj hfit;go_wp2_with (go_at_call 94;refine hpu.mono ?_)
   rintro e w6 ⟨rfl,h6⟩;have HB6:=hid (HNX.out w6 h6);clear h6 hpu;go_wp2
   go_roundw
   case rel=>exact ⟨k+1,by omega,by go_num,HB6⟩
   case measure=>simp [intOf];omega
  ·have hkn:k=N+1:=by omega
   have hd:decide ((k:Int) < (N:Int)+1)=false:=by simp;omega
   have hfinal:BWTo b C T o so O ({ (s) with buf:=s.buf++le32s R,rs:=R }) w wr:=by
    have:=HR.out;rw [List.take_of_length_le (by rw [HLN.out];omega)] at this;exact BWTo.trans HS1.out HC1.out HF1.out HO1.out (BWTo.trans HS2.out HC2.out HF2.out HO2.out (HBB.out _ this))
   have HFN:=hid hfinal;clear hfinal hkn;go_wp2
   go_end0
   refine ⟨rfl,?_⟩;rw [HFS.out];exact HFN.out
theorem bwfinish_any (w:World) (b:Nat) (C:Array Value) (T o so:Nat) (O:Own) (s:BWS) (h:BW w b C T o so O s) (hbuf:s.buf.length≤1073741824) (hr:s.rs.length≤268435456) (hrv:∀ x∈s.rs,x < 4294967296) (hn:s.n≤4294967296) :
  Calls Tryz.prog 52 #[.pointer (some ⟨b,o,none⟩)] w fun e w'=>e=.returned (.tuple #[])∧BWTo b C T o so O s.finish w w':=by
 rcases Nat.eq_zero_or_pos s.n with h0 | h0
 ·exact finish_zero w b C T o so O s h hbuf hr hrv h0
 ·exact finish_pos w b C T o so O s h hbuf hr hrv ⟨h0,hn⟩
end
end Go.Proofs.YtmkdpjicgjhhjaaGreatDoor
