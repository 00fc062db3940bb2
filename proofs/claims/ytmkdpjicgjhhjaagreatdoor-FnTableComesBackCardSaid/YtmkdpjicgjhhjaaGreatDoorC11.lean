/- Part 11 of the proof of FnTableComesBack: contracts and lemmas, each under the conditions that it states. Texts: FGen, FFlush. -/
import Derived.Test.YtmkdpjicgjhhjaaGreatDoorC10
namespace Go.Proofs.YtmkdpjicgjhhjaaGreatDoor
open Go.Lib (hid)
set_option maxRecDepth 100000
set_option linter.all false
section
open Go Go.RowKit Go.Shelf
theorem FB.offsTo {w w0 w1:World} {b:Nat} {C:Array Value} {T o n:Nat} {O:FOwn} {s:FR} (h:FB w b C T o n O s) (hw0:Fr (fun _=>False) w w0) {v v1:Value} (hv:C[o+68]?=some v) {rs':List Nat} (ho:w1.ownsRow 0 201 1 v1 rs'.length (rv rs'))
  (hg:w0.grownBy w1 v.ownBlock) (hl:Lies w0 v v1):FBTo b C T o n O { s with offs:=rs' } w (w1.setCell ⟨b,o+68,none⟩ v1):=by
 have hsz:=h.size;obtain ⟨v0,hv0,hr,hro⟩:=h.offs;rw [hv] at hv0;obtain rfl:=Option.some.inj hv0;obtain ⟨vg,hgn,hgo⟩:=h.gn;have hd:=h.dis;have h0s:=hw0.size;have hnb:v.ownBlock≠some b:=fun e=>hd.rb (hro.symm.trans e)
 have hf1:Fr (fun k=>k=b∨O.has k) w w1:=(hw0.mono (S':=fun k=>k=b∨O.has k) fun _ _ h=>h.elim).grown hg (fun k hk _=>.inr (.inr (.inl (hro.symm.trans hk))));have hB1:Blk w1 b C T:=(hg.block b (by have:=h.ub.blk.lt;omega) (fun e=>hnb e.symm)).trans (h.ub.blk.fr hw0 (fun h=>h));have hne:∀ k,k≠o+68→(C.setIfInBounds (o+68) v1)[k]?=C[k]?:=fun k hk=>Array.getElem?_setIfInBounds_ne (by omega)
 have hk:∀ k,k < w.heap.size→k≠b→v.ownBlock≠some k→(w1.setCell ⟨b,o+68,none⟩ v1).heap[k]?=w.heap[k]?:=fun k h1 h2 h3=>(Below.heap_setCell w1 _ _ k h2).trans ((hg.block k (by omega) (fun e=>h3 e.symm)).trans (hw0.block k h1 (fun h=>h)))
 have hnew:∀ k,v1.ownBlock=some k→O.r=some k∨w.heap.size≤k:=fun k hk=>by
  rcases hl with e | e
  ·exact .inl (hro.symm.trans (e.symm.trans hk))
  ·rw [e] at hk;cases hk;exact .inr h0s
 have hb0:=h.ub.blk.lt;have h1b:∀ k,v1.ownBlock=some k→k≠b:=fun k hk=>by
  rcases hnew k hk with e | e
  ·exact fun e'=>hd.rb (e' ▸ e)
  ·omega
 have hold:∀ k,O.has k→k < w.heap.size:=fun k hk=>h.lt hk
 have hvk:∀ k,v.ownBlock=some k↔O.r=some k:=fun k=>by rw [hro]
 refine ⟨C.setIfInBounds (o+68) v1,{ O with r:=v1.ownBlock },⟨h.ub.keep (hB1.set _ _) (by simp) (fun k h1 h2=>hne k (by omega)) (fun k hF=>hk k (h.ub.lt hF).1 (h.ub.lt hF).2 (fun e=>hd.fr k hF ((hvk k).1 e))),by simpa using hsz,by rw [hne _ (by omega)];exact h.gen,by rw [hne _ (by omega)];exact h.nk,
  ⟨v1,Array.getElem?_setIfInBounds_self_of_lt (by omega),own_keep ho (fun k hx=>Below.heap_setCell w1 _ _ k (h1b k hx)),rfl⟩,
  ⟨vg,gen_keep hgn (hk _ hgn.blk.lt hd.gb (fun e=>hd.rg ((hvk _).1 e))) (fun k hx=>hk k (own_lt hgn.own hx) (fun e=>hd.hb (e ▸ hgo.symm.trans hx)) (fun e=>hd.rh k ((hvk k).1 e) (hgo.symm.trans hx))),hgo⟩,
  ⟨hd.gb,fun e=>h1b b e rfl,hd.hb,hd.fg,fun e=>(hnew _ e).elim hd.rg (fun h'=>absurd h' (Nat.not_le.2 (hold O.g (.inr (.inr (.inl rfl)))))),hd.hg,fun k hF e=>?_,hd.fh,fun k hx e=>?_⟩⟩,by simp,fun k h1=>hne k (by omega),hf1.setC b (o+68) _ (.inl rfl),fun k hx=>?_⟩
 ·rcases hnew k e with e | e
  ·exact hd.fr k hF e
  ·have:=hold k (.inl hF);omega
 ·rcases hnew k hx with e' | e'
  ·exact hd.rh k e' e
  ·have:=hold k (.inr (.inr (.inr e)));omega
 ·rcases hx with hx | hx | hx
  ·exact .inl (.inl hx)
  ·rcases hnew k hx with e | e
   ·exact .inl (.inr (.inl e))
   ·exact .inr e
  ·exact .inl (.inr (.inr hx))
theorem FB.genFin {w w':World} {b:Nat} {C:Array Value} {T o n:Nat} {O:FOwn} {s:FR} (h:FB w b C T o n O s) {v:Value} (hvo:v.ownBlock=O.h) (hg:GenRes O.g n b C T (o+1) O.f s.buf v s.keys w w') :
  ∃ f,BFil f (bm s.keys.length n) (bk n) s.keys∧FBTo b C T o n O ⟨s.buf++f,s.offs,[]⟩ w (w'.setCell ⟨b,o+67,none⟩ (.int .i64 0))∧∃ C',Blk w' b C' T∧C'[o+67]?=C[o+67]?:=by
 obtain ⟨f,v',C',F',hbf,hgn,hvv,hub,hs',hC',hf,hF'⟩:=hg;have hd:=h.dis;have hsz:=h.size;obtain ⟨vr,hvr,hro,hre⟩:=h.offs;have hB2:=hub.blk.set (o+67) (.int .i64 0);have hC:∀ k,k≠o+67→¬ (o+1≤k∧k < o+67)→(C'.setIfInBounds (o+67) (.int .i64 0))[k]?=C[k]?:=fun k hk h2=>(Array.getElem?_setIfInBounds_ne (by omega)).trans (hC' k (by omega))
 have hkeep:∀ k,k < w.heap.size→k≠b→k≠O.g→O.f≠some k→(w'.setCell ⟨b,o+67,none⟩ (.int .i64 0)).heap[k]?=w.heap[k]?:=fun k h1 h2 h3 h4 =>
  (Below.heap_setCell _ _ _ k (by simpa using h2)).trans (hf.block k h1 (by rintro (e | e | e);exact h3 e;exact h2 e;exact h4 e))
 have hold:∀ k,O.has k→k < w.heap.size:=fun k hk=>h.lt hk
 refine ⟨f,hbf,⟨C'.setIfInBounds (o+67) (.int .i64 0),{ O with f:=F' },⟨?_,by simpa [hs'] using h.size,by rw [hC _ (by omega) (by omega)];exact h.gen,Array.getElem?_setIfInBounds_self_of_lt (by omega),
  ⟨vr,by rw [hC _ (by omega) (by omega)];exact hvr,own_keep hro (fun k hk=>?_),hre⟩,⟨v',?_,hvv.trans hvo⟩,?_⟩,by simp [hs'],fun k hk=>hC k (by omega) (by omega),?_,?_⟩,C',hub.blk,hC' _ (by omega)⟩
 ·exact hub.keep hB2 (by simp) (fun k h1 h2=>Array.getElem?_setIfInBounds_ne (by omega)) (fun k hk=>Below.heap_setCell _ _ _ k (by simpa using (hub.lt hk).2))
 ·have hk':=hre.symm.trans hk;exact hkeep k (own_lt hro hk) (fun e=>hd.rb (e ▸ hk')) (fun e=>hd.rg (e ▸ hk')) (fun e=>hd.fr k e hk')
 ·exact gen_keep hgn (Below.heap_setCell _ _ _ _ (by simpa using hd.gb)) (fun k hk=>Below.heap_setCell _ _ _ k (by simp;intro e;exact hd.hb (e ▸ hvo.symm.trans (hvv.symm.trans hk))))
 ·refine ⟨hd.gb,hd.rb,hd.hb,fun e=>?_,hd.rg,hd.hg,fun k hk e=>?_,fun k hk e=>?_,hd.rh⟩
  ·exact (hF' _ e).elim hd.fg (fun h'=>absurd h' (Nat.not_le.2 (hold O.g (.inr (.inr (.inl rfl))))))
  ·exact (hF' k hk).elim (fun h'=>hd.fr k h' e) (fun h'=>by have:=hold k (.inr (.inl e));omega)
  ·exact (hF' k hk).elim (fun h'=>hd.fh k h' e) (fun h'=>by have:=hold k (.inr (.inr (.inr e)));omega)
 ·exact (hf.mono (S':=fun k=>k=b∨O.has k) (fun k _ hk=>by
   rcases hk with e | e | e
   ·exact .inr (.inr (.inr (.inl e.symm)))
   ·exact .inl e
   ·exact .inr (.inl e))).setC b (o+67) _ (.inl rfl)
 ·rintro k (hk | hk | hk | hk)
  ·exact (hF' k hk).imp (fun e=>.inl e) id
  ·exact .inl (.inr (.inl hk))
  ·exact .inl (.inr (.inr (.inl hk)))
  ·exact .inl (.inr (.inr (.inr hk)))
def FGen (b:Nat) (C:Array Value) (T o n:Nat) (O:FOwn) (s:FR) (w w':World):Prop :=
 ∃ fb,cOk n (s.keys,fb)∧fb.length≤bm s.keys.length n+1∧FBTo b C T o n O ⟨s.buf++fb,s.offs++[s.buf.length],[]⟩ w w'
set_option maxHeartbeats 2000000 in
theorem fgen_any (w:World) (b o n:Nat) (C:Array Value) (T:Nat) (O:FOwn) (s:FR) (h:FB w b C T o n O s) (hn:n≤20) (hk:s.keys.length≤67108864) (hl:s.buf.length≤1073741824) (ho:s.offs.length≤1073741824) (hks:∀ x∈s.keys,x < 4294967296) :
  Calls Tryz.prog 88 #[.pointer (some ⟨b,o,none⟩)] w fun e w'=>e=.returned (.tuple #[])∧FGen b C T o n O s w w':=by
 obtain ⟨v,hv,hown,hro⟩:=h.offs;obtain ⟨ra,rc,rfl,hrl,hrm,hrn⟩:=own_form hown;have h68:=h.ub.blk.cell hv;have hlen:=fun k=>len_any (w.drewN k) b (o+1) C T O.f s.buf (h.ub.keep (w2:=w.drewN k) (C2:=C) h.ub.blk rfl (fun _ _ _=>rfl) (fun _ _=>rfl))
 have hwl:IntKind.u32.wrap (s.buf.length:Int)=(s.buf.length:Int):=IntWalk.u32_in _ (by omega);have hnb:(Value.slice ra s.offs.length rc).ownBlock≠some b:=fun e=>h.dis.rb (hro.symm.trans e)
 have hb0:=h.ub.blk.lt;have HH:=hid h;have HV:=hid hv;clear h hv hrn;go_enter Tryz.func88,Tryz.ntmps88
 go_wp2_with fail
 refine Pos.start (fun X=>X.cell? ⟨b,o+68,none⟩=some (.slice ra s.offs.length rc)) 12 (by kernel_rfl) ?_;have hS:(fun X:World=>X.cell? ⟨b,o+68,none⟩=some (.slice ra s.offs.length rc)) (w.drewN 1):=h68;iterate 8
  refine' Pos.takeK hS rfl (by kernel_rfl) (fun _ _ _ h=>h) (by rfl) ?_ ?_;rotate_left
  ·intro W hW;obtain s1:=hW;go_simp;try with_reducible rfl
  intro K hK;go_simp;refine hK _ ?_;clear hK K
 refine Pos.eff rfl (by kernel_rfl) ?_;go_wp2_with (go_at_call 49;refine (hlen _).mono ?_;rintro e w2 ⟨rfl,k2,rfl⟩)
 clear hS;generalize 1+k2=k3;have hS:(fun X:World=>X.cell? ⟨b,o+68,none⟩=some (.slice ra s.offs.length rc)) (w.drewN k3):=h68;refine ⟨hS,?_⟩;iterate 1
  refine' Pos.takeK hS rfl (by kernel_rfl) (fun _ _ _ h=>h) (by rfl) ?_ ?_;rotate_left
  ·intro W hW;obtain s1:=hW;go_simp;try with_reducible rfl
  intro K hK;go_simp;refine hK _ ?_;clear hK K
 refine Pos.eff rfl (by kernel_rfl) ?_;go_wp2
 clear hS;have hS:(fun X:World=>X.cell? ⟨b,o+68,none⟩=some (.slice ra s.offs.length rc)) ((w.alloc (.cells #[.int .u32 s.buf.length] 201)).drewN k3):=(HH.out.ub.blk.alloc _).cell HV.out;refine ⟨hS,?_⟩;refine Pos.eff rfl (by kernel_rfl) ?_;refine wpList_app rfl _ _ 105 rfl 201 (.int .u32 0) 1 4 un105 info201 rfl (by omega) (.slice ra s.offs.length rc) s.offs.length (rv s.offs) rfl (by exact hown.alloc _) (some ⟨w.heap.size,0,none⟩) 1 1 [.int .u32 s.buf.length] rfl rfl (by simp) (by exact news_new [.int .u32 s.buf.length] _ (Blk.new w _ _)) (by simp [Value.oneCell']) (by unfold maxLen;omega) (by omega) ?_
 intro v3 w3 hown3 hgrow3 hlies3;have hX:FBTo b C T o n O { s with offs:=s.offs++[s.buf.length] } w (w3.setCell ⟨b,o+68,none⟩ v3):=by
  refine HH.out.offsTo (((Fr.refl (fun _=>False) w).alloc (.cells #[.int .u32 s.buf.length] 201)).drewN k3) HV.out ?_ hgrow3 hlies3;rw [rv_append,List.length_append];exact hown3
 have HX:=hid hX;obtain ⟨a3,c3,rfl,hc3,hc3m,hc3n⟩:=own_form hown3;have hz3:w3.cell? ⟨b,o+68,none⟩=some (.slice ra s.offs.length rc):=(hgrow3.cell_far ⟨b,o+68,none⟩ (by simp;omega) (Ne.symm hnb)).trans ((HH.out.ub.blk.alloc _).cell HV.out);have hf3:w3.frozen? ⟨b,o+68,none⟩=false:=(hgrow3.frozen_far ⟨b,o+68,none⟩ (by simp;omega) (Ne.symm hnb)).trans ((HH.out.ub.blk.alloc _).free _);refine ⟨hz3,?_⟩;refine Pos.tail (by kernel_rfl) (by decide) ?_
 simp only [List.drop_succ_cons,List.drop_zero];clear hown3 hgrow3 hlies3 hS hX hc3n hlen hown hnb;obtain ⟨C1,O1,hb1,hs1,hC1,hfr1,hO1⟩:=HX.out;have hk67:=hb1.ub.blk.cell hb1.nk;have hk0:=hb1.ub.blk.cell hb1.gen;have hfz67:=hb1.ub.blk.free (o+67);obtain ⟨vg,hgn,hgo⟩:=hb1.gn;have hgen:=fun k=>generate_any O1.g n b s.keys vg C1 T (o+1) O1.f s.buf ((w3.setCell ⟨b,o+68,none⟩ (.slice a3 (s.offs.length+1) c3)).drewN k) (gen_keep hgn rfl (fun _ _=>rfl)) (hb1.ub.keep (w2:=(w3.setCell ⟨b,o+68,none⟩ (.slice a3 (s.offs.length+1) c3)).drewN k) (C2:=C1) hb1.ub.blk rfl (fun _ _ _=>rfl) (fun _ _=>rfl)) hb1.dis.gb hb1.dis.fg
  (fun r hr=>⟨fun e=>hb1.dis.hb (e ▸ hgo.symm.trans hr),fun e=>hb1.dis.fh r e (hgo.symm.trans hr)⟩) hn hk hl hks
 have HB1:=hid hb1;have HGO:=hid hgo;have HC1:=hid (And.intro hs1 hC1);have HF1:=hid (And.intro hfr1 hO1);clear hb1 hgo hs1 hC1 hfr1 hO1 hgn;by_cases hkl:s.keys.length=0
 ·have hke:s.keys=[]:=List.length_eq_zero_iff.1 hkl;have hkd:decide ((0:Int) < (s.keys.length:Int))=false:=by simp [hkl]
  have hend:FGen b C T o n O s w (w3.setCell ⟨b,o+68,none⟩ (.slice a3 (s.offs.length+1) c3)):=by
   refine ⟨[],.inl ⟨hke,rfl⟩,by simp,?_⟩;have e1:(⟨s.buf++[],s.offs++[s.buf.length],[]⟩:FR)={ s with offs:=s.offs++[s.buf.length] }:=by simp [hke]
   rw [e1];exact HX.out
  have HE:=hid hend;clear hgen hend hke;simp only [hkl] at hk67;go_wp2
  go_end0
  exact ⟨rfl,HE.out⟩
 ·have hkd:decide ((0:Int) < (s.keys.length:Int))=true:=by simp;omega
  have hfin:∀ k w4,GenRes O1.g n b C1 T (o+1) O1.f s.buf vg s.keys ((w3.setCell ⟨b,o+68,none⟩ (.slice a3 (s.offs.length+1) c3)).drewN k) w4→FGen b C T o n O s w (w4.setCell ⟨b,o+67,none⟩ (.int .i64 0))∧∃ C',Blk w4 b C' T∧C'[o+67]?=some (.int .i64 s.keys.length):=fun k w4 hG=>by
   have hb2:FB ((w3.setCell ⟨b,o+68,none⟩ (.slice a3 (s.offs.length+1) c3)).drewN k) b C1 T o n O1 { s with offs:=s.offs++[s.buf.length] }:=HB1.out.keep HB1.out.ub.blk rfl (fun _ _ _=>rfl) (fun _ _=>rfl);obtain ⟨f,hbf,hto,C',hC',hCs⟩:=hb2.genFin HGO.out hG;refine ⟨⟨f,.inr ⟨fun e=>hkl (List.length_eq_zero_iff.2 e),hbf⟩,by rw [hbf.len];exact Nat.le_refl _,?_⟩,C',hC',hCs.trans HB1.out.nk⟩;exact FBTo.trans HC1.out.1 HC1.out.2 (HF1.out.1.drewN k) HF1.out.2 hto
  have HFIN:=hid hfin;clear hfin;go_wp2_with fail
  refine wp_tail 10 (by kernel_rfl) ?_;simp only [List.take_succ_cons,List.take_zero,List.drop_succ_cons,List.drop_zero];repeat still_step
  refine wpStill_nil ?_;go_wp2_with (go_at_call 225;refine (hgen _).mono ?_;rintro e w4 ⟨rfl,hG⟩;obtain ⟨hE,C',hC',hCs⟩:=HFIN.out _ _ hG;have h67b:=hC'.cell hCs;have hf67b:=hC'.free (o+67);have HE:=hid hE;clear hgen hG hE hC')
  go_end0
  exact ⟨rfl,HE.out⟩
end
section
open Go Go.RowKit Go.Shelf
abbrev KS:=List (List Nat) × List Nat
def FS.ks (s:FS):KS:=(s.cs.map Prod.fst,s.keys)
def kgen (s:KS):KS:=(s.1++[s.2],[])
def kit:Nat→KS→KS
 | 0,s=>s
 | j+1,s=>kgen (kit j s)
def kflush (x:Nat) (s:KS):KS:=kit (x - s.1.length) s
def ktot (s:KS):Nat:=s.1.flatten.length+s.2.length
theorem ktot_gen (s:KS):ktot (kgen s)=ktot s:=by simp [ktot,kgen]
theorem ktot_kit (s:KS):∀ j,ktot (kit j s)=ktot s
 | 0=>rfl
 | j+1=>(ktot_gen _).trans (ktot_kit s j)
theorem kit_length (s:KS):∀ j,(kit j s).1.length=s.1.length+j
 | 0=>rfl
 | j+1=>by rw [kit,kgen,List.length_append,kit_length s j];simp;omega
theorem cOk_len {n:Nat} (hn:n≤20) {c:List Nat × List UInt8} (h:cOk n c):c.2.length≤3*c.1.length+10:=by
 rcases h with ⟨_,h⟩ | ⟨_,h⟩
 ·rw [h];simp
 ·rw [h.len];have:c.1.length*n≤c.1.length*20:=Nat.mul_le_mul_left _ hn;unfold bm;split <;> omega
theorem cbuf_len {n:Nat} (hn:n≤20):∀ (cs:List (List Nat × List UInt8)),(∀ c∈cs,cOk n c)→(cbuf cs).length≤3*(cs.map Prod.fst).flatten.length+10*cs.length
 | [],_=>by simp [cbuf]
 | c :: r,h=>by
  have h1:=cOk_len hn (h c (by simp));have h2:=cbuf_len hn r (fun c hc=>h c (by simp [hc]));have e:cbuf (c :: r)=c.2++cbuf r:=by simp [cbuf]
  rw [e];simp only [List.length_append,List.map_cons,List.flatten_cons,List.length_cons];omega
theorem FGen.fs {b:Nat} {C:Array Value} {T o n:Nat} {O:FOwn} {s:FS} {w w':World} (h:FGen b C T o n O s.raw w w') (hok:s.ok n) :
  ∃ s':FS,FBTo b C T o n O s'.raw w w'∧s'.ok n∧s'.ks=kgen s.ks:=by
 obtain ⟨fb,hc,_,hto⟩:=h;refine ⟨⟨s.cs++[(s.keys,fb)],[]⟩,?_,⟨fun c hcc=>?_,fun h hh=>by simp at hh⟩,by simp [FS.ks,kgen]⟩
 ·have e:(⟨s.cs++[(s.keys,fb)],[]⟩:FS).raw=⟨s.raw.buf++fb,s.raw.offs++[s.raw.buf.length],[]⟩:=by
   simp only [FS.raw,cbuf_append,cbuf_one,coffs_append]
  rw [e];exact hto
 ·rcases List.mem_append.1 hcc with h | h
  ·exact hok.1 c h
  ·simp at h;subst h;exact hc
def lenOf:Option Value→Nat
 | some (.slice _ n _)=>n
 | _=>0
set_option maxHeartbeats 2000000 in
theorem fflush_any (w:World) (b o n:Nat) (C:Array Value) (T:Nat) (O:FOwn) (s:FS) (h:FB w b C T o n O s.raw) (hok:s.ok n) (hn:n≤20) (off:Nat) (hoff:off≤1099511627776) (hx:off / 2048≤16777216) (hcs:s.cs.length≤16777216) (hk:ktot s.ks≤67108864) :
  Calls Tryz.prog 40 #[.pointer (some ⟨b,o,none⟩),.int .u64 off] w fun e w'=>e=.returned (.tuple #[])∧∃ s':FS,FBTo b C T o n O s'.raw w w'∧s'.ok n∧s'.ks=kflush (off / 2048) s.ks:=by
 have h0:=h.ub.blk.cell h.gen;have hsl:s.ks.1.length=s.cs.length:=by simp [FS.ks]
 have hwx:IntKind.i64.wrap ((off / 2048:Nat):Int)=((off / 2048:Nat):Int):=IntWalk.i64_in _ (by omega);have hqx:((off:Nat):Int) / 2048=((off / 2048:Nat):Int):=by omega
 have HREF:=hid (FBTo.refl h);have HH:=hid h;have HOK:=hid hok;clear h hok;generalize hxx:off / 2048=x at *;go_enter Tryz.func40,Tryz.ntmps40
 go_wp2
 go_loopw [13] (fun _ wr=>∃ (j:Nat) (s':FS),j≤x - s.cs.length∧Hid (FBTo b C T o n O s'.raw w wr)∧Hid (s'.ok n)∧Hid (s'.ks=kit j s.ks)) (fun _ wr=>x - lenOf (wr.cell? ⟨b,o+68,none⟩))
 case atStart=>exact ⟨0,s,Nat.zero_le _,HREF,HOK,hid rfl⟩
 case round =>
  obtain ⟨j,s',hj,HF,HO,HK⟩:=hrel;obtain ⟨C1,O1,hb1,hs1,hC1,hf1,hO1⟩:=HF.out;obtain ⟨v,hv,hown,hro⟩:=hb1.offs;obtain ⟨ra,rc,rfl,hrl,hrm,hrn⟩:=own_form hown;have h68:=hb1.ub.blk.cell hv;have hl1:s'.raw.offs.length=s.cs.length+j:=by
   have h1:s'.ks.1.length=s.ks.1.length+j:=by rw [HK.out];exact kit_length _ _
   have h2:s'.raw.offs.length=s'.ks.1.length:=by simp [FS.raw,FS.ks,coffs_length]
   omega
  have hkt:ktot s'.ks=ktot s.ks:=by rw [HK.out];exact ktot_kit _ _
  have hbl:=cbuf_len hn s'.cs HO.out.1;have hcl:s'.cs.length=s.cs.length+j:=by rw [← hl1];simp [FS.raw,coffs_length]
  have hkt2:(s'.cs.map Prod.fst).flatten.length+s'.keys.length=ktot s.ks:=by rw [← hkt];rfl
  have hgn:=fgen_any wr b o n C1 T O1 s'.raw hb1 hn (by show s'.keys.length≤_;omega) (by show (cbuf s'.cs).length≤_;omega) (by rw [hl1];omega) (fun y hy=>HO.out.2 y hy);have HT:=hid (And.intro hs1 (And.intro hC1 (And.intro hf1 hO1)));clear hs1 hC1 hf1 hO1 hb1 hown hro hrn hv hrl hrm hkt hkt2 hbl;rw [hl1] at h68;by_cases hlt:s.cs.length+j < x
  ·have hlti:((s.cs.length+j:Nat):Int) < (x:Int):=by omega
   go_wp2_with fail
   refine hgn.mono ?_;rintro e w2 ⟨rfl,hG⟩;obtain ⟨s2,hF2,hO2,hK2⟩:=hG.fs HO.out;have hT2:FBTo b C T o n O s2.raw w w2:=FBTo.trans HT.out.1 HT.out.2.1 HT.out.2.2.1 HT.out.2.2.2 hF2;have hl2:s2.raw.offs.length=s.cs.length+(j+1):=by
    have h1:s2.ks.1.length=s.ks.1.length+(j+1):=by rw [hK2,HK.out];exact kit_length _ (j+1)
    have h2:s2.raw.offs.length=s2.ks.1.length:=by simp [FS.raw,FS.ks,coffs_length]
    omega
   obtain ⟨C3,O3,hb3,_⟩:=hT2;obtain ⟨v3,hv3,hown3,_⟩:=hb3.offs;obtain ⟨a3,c3,rfl,_⟩:=own_form hown3;have h68b:=hb3.ub.blk.cell hv3;rw [hl2] at h68b;have HT2:Hid (FBTo b C T o n O s2.raw w w2):=hid (FBTo.trans HT.out.1 HT.out.2.1 HT.out.2.2.1 HT.out.2.2.2 hF2);have HK2:Hid (s2.ks=kit (j+1) s.ks):=hid (by rw [hK2,HK.out];rfl);have HO2:=hid hO2;have HM:Hid (x - lenOf (w2.cell? ⟨b,o+68,none⟩) < x - lenOf (wr.cell? ⟨b,o+68,none⟩)):=hid (by rw [h68,h68b];show x - (s.cs.length+(j+1)) < x - (s.cs.length+j);omega)
   clear hG hF2 hO2 hK2 hb3 hv3 hown3 hgn h68b;go_wp2
   go_roundw
   case rel=>exact ⟨j+1,s2,by omega,HT2,HO2,HK2⟩
   case measure=>exact HM.out
  ·have hlti:¬ ((s.cs.length+j:Nat):Int) < (x:Int):=by omega
   have hjx:j=x - s.ks.1.length:=by omega
   have HFL:Hid (s'.ks=kflush x s.ks):=hid (by rw [HK.out,hjx];rfl);clear hgn;go_wp2
   go_end0
   exact ⟨rfl,s',HF.out,HO.out,HFL.out⟩
end
end Go.Proofs.YtmkdpjicgjhhjaaGreatDoor
