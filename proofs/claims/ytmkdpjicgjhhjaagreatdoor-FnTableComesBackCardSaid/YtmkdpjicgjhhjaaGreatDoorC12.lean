/- Part 12 of the proof of FnTableComesBack: contracts and lemmas, each under the conditions that it states. Texts: FFin, Cmp, Sep. -/
import Derived.Test.YtmkdpjicgjhhjaaGreatDoorC11
import Derived.Lib.Bytealg
namespace Go.Proofs.YtmkdpjicgjhhjaaGreatDoor
open Go.Lib (hid)
set_option maxRecDepth 100000
set_option linter.all false
section
open Go Go.RowKit Go.Shelf
theorem FB.bufTo {w w':World} {b:Nat} {C:Array Value} {T o n:Nat} {O:FOwn} {s:FR} (h:FB w b C T o n O s) {l':List UInt8} (hb:BufTo b C T (o+1) O.f l' w w'):FBTo b C T o n O { s with buf:=l' } w w':=by
 obtain ⟨C',F',hu,hsz,hC,hf,hF⟩:=hb;obtain ⟨v',hv',hr,hro⟩:=h.offs;obtain ⟨vg,hgn,hgo⟩:=h.gn;have hd:=h.dis;have hsame:∀ k,k < w.heap.size→k≠b→O.f≠some k→w'.heap[k]?=w.heap[k]?:=fun k h1 h2 h3=>hf.block k h1 (by simp [h2,h3])
 have hold:∀ k,O.has k→k < w.heap.size:=fun k hk=>h.lt hk
 refine ⟨C',{ O with f:=F' },⟨hu,by rw [hsz];exact h.size,by rw [hC _ (by omega)];exact h.gen,by rw [hC _ (by omega)];exact h.nk,
  ⟨v',by rw [hC _ (by omega)];exact hv',own_keep hr (fun k hk=>hsame k (own_lt hr hk) (fun e=>hd.rb (e ▸ hro.symm.trans hk)) (fun e=>hd.fr k e (hro.symm.trans hk))),hro⟩,
  ⟨vg,gen_keep hgn (hsame _ hgn.blk.lt hd.gb hd.fg) (fun k hk=>hsame k (own_lt hgn.own hk) (fun e=>hd.hb (e ▸ hgo.symm.trans hk)) (fun e=>hd.fh k e (hgo.symm.trans hk))),hgo⟩,
  ⟨hd.gb,hd.rb,hd.hb,fun e=>(hF _ e).elim hd.fg (fun h'=>absurd h' (Nat.not_le.2 (hold O.g (.inr (.inr (.inl rfl)))))),hd.rg,hd.hg,fun k hk e=>?_,fun k hk e=>?_,hd.rh⟩⟩,hsz,fun k hk=>hC k (by omega),hf.mono fun k _ hk=>?_,fun k hk=>?_⟩
 ·exact (hF k hk).elim (fun h'=>hd.fr k h' e) (fun h'=>absurd h' (Nat.not_le.2 (hold k (.inr (.inl e)))))
 ·exact (hF k hk).elim (fun h'=>hd.fh k h' e) (fun h'=>absurd h' (Nat.not_le.2 (hold k (.inr (.inr (.inr e))))))
 ·rcases hk with hk | hk
  ·exact .inl hk
  ·exact .inr (.inl hk)
 ·rcases hk with hk | hk | hk
  ·exact (hF k hk).imp (fun e=>.inl e) id
  ·exact .inl (.inr (.inl hk))
  ·exact .inl (.inr (.inr hk))
def fdata (buf:List UInt8) (offs:List Nat):List UInt8:=buf++le32s (offs++[buf.length])++[11]
set_option maxHeartbeats 4000000 in
theorem ffinish_raw (w:World) (b o n:Nat) (C:Array Value) (T:Nat) (O:FOwn) (s:FR) (h:FB w b C T o n O s) (hn:n≤20) (hk:s.keys.length≤67108864) (hl:s.buf.length≤536870912) (ho:s.offs.length≤33554432) (hks:∀ x∈s.keys,x < 4294967296) (hos:∀ x∈s.offs,x < 4294967296) :
  Calls Tryz.prog 48 #[.pointer (some ⟨b,o,none⟩)] w fun e w'=>e=.returned (.tuple #[])∧∃ s1:FR,((s.keys=[]∧s1=s)∨(s.keys≠[]∧∃ fb,cOk n (s.keys,fb)∧s1=⟨s.buf++fb,s.offs++[s.buf.length],[]⟩)) ∧
   FBTo b C T o n O ⟨fdata s1.buf s1.offs,s1.offs++[s1.buf.length],s1.keys⟩ w w':=by
 have h0:=h.ub.blk.cell h.gen;have h67:=h.ub.blk.cell h.nk;have hgn:=fgen_any w b o n C T O s h hn hk (by omega) (by omega) hks;by_cases hkl:s.keys.length=0
 ·have hke:s.keys=[]:=List.length_eq_zero_iff.1 hkl;have hkd:decide ((0:Int) < (s.keys.length:Int))=false:=by simp [hkl]
  obtain ⟨s1,hs1⟩:∃ s1,s1=s:=⟨_,rfl⟩;obtain ⟨C1,hC1⟩:∃ C1,C1=C:=⟨_,rfl⟩;obtain ⟨O1,hO1⟩:∃ O1,O1=O:=⟨_,rfl⟩;have HB:Hid (FB w b C1 T o n O1 s1):=hid (by rw [hs1,hC1,hO1];exact h);have HTR:Hid (∀ s2 w',FBTo b C1 T o n O1 s2 w w'→FBTo b C T o n O s2 w w'):=hid (by rw [hC1,hO1];exact fun _ _ h=>h);have HOS:Hid (∀ x∈s1.offs,x < 4294967296):=hid (by rw [hs1];exact hos);have HCASE:Hid ((s.keys=[]∧s1=s)∨(s.keys≠[]∧∃ fb,cOk n (s.keys,fb)∧s1=⟨s.buf++fb,s.offs++[s.buf.length],[]⟩)):=hid (.inl ⟨hke,hs1⟩)
  have hl1:s1.buf.length≤1073741824:=by rw [hs1];omega
  have ho1:s1.offs.length≤33554433:=by rw [hs1];omega
  clear hs1 hC1 hO1 h hos hgn hke;rw [hkl] at h67;go_enter Tryz.func48,Tryz.ntmps48
  go_wp2_with fail
  obtain ⟨v,hv,hown,hro⟩:=HB.out.offs;obtain ⟨ra,rc,rfl,hrl,hrm,hrn⟩:=own_form hown;have h68:=HB.out.ub.blk.cell hv;have hlen:=fun k=>len_any (w.drewN k) b (o+1) C1 T O1.f s1.buf (HB.out.ub.keep (w2:=w.drewN k) (C2:=C1) HB.out.ub.blk rfl (fun _ _ _=>rfl) (fun _ _=>rfl))
  have hwl:IntKind.u32.wrap (s1.buf.length:Int)=(s1.buf.length:Int):=IntWalk.u32_in _ (by omega);have hnb:(Value.slice ra s1.offs.length rc).ownBlock≠some b:=fun e=>HB.out.dis.rb (hro.symm.trans e)
  have hb0:=HB.out.ub.blk.lt;have HV:=hid hv;clear hv hrn;refine Pos.start (fun X=>X.cell? ⟨b,o+68,none⟩=some (.slice ra s1.offs.length rc)) 12 (by kernel_rfl) ?_;have hS:(fun X:World=>X.cell? ⟨b,o+68,none⟩=some (.slice ra s1.offs.length rc)) (w.drewN 1):=h68;iterate 8
   refine' Pos.takeK hS rfl (by kernel_rfl) (fun _ _ _ h=>h) (by rfl) ?_ ?_;rotate_left
   ·intro W hW;obtain s1:=hW;go_simp;try with_reducible rfl
   intro K hK;go_simp;refine hK _ ?_;clear hK K
  refine Pos.eff rfl (by kernel_rfl) ?_;go_wp2_with (go_at_call 49;refine (hlen _).mono ?_;rintro e w2 ⟨rfl,k2,rfl⟩)
  clear hS;generalize 1+k2=k3;have hS:(fun X:World=>X.cell? ⟨b,o+68,none⟩=some (.slice ra s1.offs.length rc)) (w.drewN k3):=h68;refine ⟨hS,?_⟩;iterate 1
   refine' Pos.takeK hS rfl (by kernel_rfl) (fun _ _ _ h=>h) (by rfl) ?_ ?_;rotate_left
   ·intro W hW;obtain s1:=hW;go_simp;try with_reducible rfl
   intro K hK;go_simp;refine hK _ ?_;clear hK K
  refine Pos.eff rfl (by kernel_rfl) ?_;go_wp2
  clear hS;have hS:(fun X:World=>X.cell? ⟨b,o+68,none⟩=some (.slice ra s1.offs.length rc)) ((w.alloc (.cells #[.int .u32 s1.buf.length] 201)).drewN k3):=(HB.out.ub.blk.alloc _).cell HV.out;refine ⟨hS,?_⟩;refine Pos.eff rfl (by kernel_rfl) ?_;refine wpList_app rfl _ _ 105 rfl 201 (.int .u32 0) 1 4 un105 info201 rfl (by omega) (.slice ra s1.offs.length rc) s1.offs.length (rv s1.offs) rfl (by exact hown.alloc _) (some ⟨w.heap.size,0,none⟩) 1 1 [.int .u32 s1.buf.length] rfl rfl (by simp) (by exact news_new [.int .u32 s1.buf.length] _ (Blk.new w _ _)) (by simp [Value.oneCell']) (by unfold maxLen;omega) (by omega) ?_
  intro v3 w3 hown3 hgrow3 hlies3;have hX:FBTo b C1 T o n O1 { s1 with offs:=s1.offs++[s1.buf.length] } w (w3.setCell ⟨b,o+68,none⟩ v3):=by
   refine HB.out.offsTo (((Fr.refl (fun _=>False) w).alloc (.cells #[.int .u32 s1.buf.length] 201)).drewN k3) HV.out ?_ hgrow3 hlies3;rw [rv_append,List.length_append];exact hown3
  have HX:=hid hX;obtain ⟨a3,c3,rfl,hc3,hc3m,hc3n⟩:=own_form hown3;have hz3:w3.cell? ⟨b,o+68,none⟩=some (.slice ra s1.offs.length rc):=(hgrow3.cell_far ⟨b,o+68,none⟩ (by simp;omega) (Ne.symm hnb)).trans ((HB.out.ub.blk.alloc _).cell HV.out);have hf3:w3.frozen? ⟨b,o+68,none⟩=false:=(hgrow3.frozen_far ⟨b,o+68,none⟩ (by simp;omega) (Ne.symm hnb)).trans ((HB.out.ub.blk.alloc _).free _);refine ⟨hz3,?_⟩
  refine Pos.tail (by kernel_rfl) (by decide) ?_;simp only [List.drop_succ_cons,List.drop_zero];clear hown3 hgrow3 hlies3 hS hX hc3n hlen hown hnb;obtain ⟨C2,O2,hb2,hs2,hC2,hf2,hO2⟩:=HX.out;obtain ⟨v2,hv2,hown2,hro2⟩:=hb2.offs;have hq3:=hb2.ub.blk.cell hv2;obtain ⟨a2,c2,rfl,hc2,hc2m,hc2n⟩:=own_form hown2;have hlen2:(s1.offs++[s1.buf.length]).length=s1.offs.length+1:=by simp
  obtain ⟨g,rfl,hgo,hgc⟩:=own_cells hown2 (by rw [hlen2];omega);have hgb:g≠b:=fun e=>hb2.dis.rb (e ▸ hro2.symm.trans hgo)
  have hgf:O2.f≠some g:=fun e=>hb2.dis.fr g e (hro2.symm.trans hgo)
  have hglt:=own_lt hown2 hgo;rw [hlen2] at hq3;have HU:=hid hb2.ub;have HB2:=hid hb2;have HT2:=hid (And.intro hs2 (And.intro hC2 (And.intro hf2 hO2)));have HGC:=hid hgc;have HEV2:Hid (∀ x∈s1.offs++[s1.buf.length],x < 4294967296):=hid (by
   intro x hx;rcases List.mem_append.1 hx with h | h
   ·exact HOS.out x h
   ·simp at h;omega)
  clear hb2 hs2 hC2 hf2 hO2 hgc hown2 hv2 hro2 hgo hc2n hc2 hc2m hwl;go_wp2
  generalize w3.setCell ⟨b,o+68,none⟩ (.slice a3 (s1.offs.length+1) c3)=W3 at *;clear hz3 hf3;generalize hR:s1.offs++[s1.buf.length]=R at *;generalize hNN:s1.offs.length=N at *;have HR0:=hid hR;have HLN:=hid hlen2;clear hR hlen2;go_loopw [36] (fun i wr=>∃ k:Nat,k≤N+1∧i=.int .i64 k∧Hid (BufTo b C2 T (o+1) O2.f (s1.buf++le32s (R.take k)) W3 wr)) (fun i _=>N+1 - (intOf i).toNat)
  case atStart=>exact ⟨0,Nat.zero_le _,rfl,hid (by rw [List.take_zero,show le32s []=[] from rfl,List.append_nil];exact BufTo.refl HU.out)⟩
  case round =>
   obtain ⟨k,hk,rfl,HR⟩:=hrel;obtain ⟨C3,F3,hu3,hs3,hC3,hf3,hF3⟩:=HR.out;have hbl:(s1.buf++le32s (R.take k)).length≤4294967200:=by
    rw [List.length_append,le32s_length,List.length_take,HLN.out];omega
   by_cases hlt:k < N+1
   ·have hxe:∃ x,R[k]?=some x:=⟨_,List.getElem?_eq_getElem (by rw [HLN.out];exact hlt)⟩;obtain ⟨x,hx⟩:=hxe;have hx32:x < 4294967296:=HEV2.out x (List.mem_of_getElem? hx);have hce:wr.cell? ⟨g,k,none⟩=some (.int .u32 x):=(hf3.cell hglt (by simp [hgb,hgf])).trans (HGC.out k _ (by rw [rv,List.getElem?_map,hx];rfl));have hi0:(0:Int)≤(k:Int):=by omega
    have hi1:(k:Int) < ((N+1:Nat):Int):=by omega
    have hi2:(k:Int) < (N:Int)+1:=by omega
    have hal:=alloc_any wr b (o+1) 4 C3 T F3 _ hu3 (by omega) (by omega);have HS3:=hid hs3;have HC3:=hid hC3;have HF3:=hid hf3;have HG3:=hid hF3;have HX:=hid hx;clear hs3 hC3 hf3 hF3 hx hu3;go_wp2_with (go_at_call 93;refine hal.mono ?_)
    rintro e w5 ⟨C5,F5,junk,g5,go5,c5,G5,E5,rfl,hj,hu5,hv5,hm5,hlc5,hcm5,hl5,hs5,hC5,hf5,hF5⟩;have hfit:=hm5.fit;have hpu:=putUint32_any g5 (go5+(s1.buf++le32s (R.take k)).length) 4 (c5 - (s1.buf++le32s (R.take k)).length) x hx32 w5 G5 E5 hm5.blk (by omega) (by omega);have hend:=alloced_put hu5 hv5 hm5 (by rw [List.length_append,hj];exact hlc5) hcm5 hl5 hs5 hC5 hf5 hF5 (Lib.leBytes 4 x) (by rw [leBytes_length,hj]) (.cells #[] 204)
    have hnext:∀ w6,(w5.alloc (.cells #[] 204)).setRow g5 (splice G5 (go5+(s1.buf++le32s (R.take k)).length) (bv (Lib.leBytes 4 x)))=w6→BufTo b C2 T (o+1) O2.f (s1.buf++le32s (R.take (k+1))) W3 w6:=by
     intro w6 e6;subst e6;have e:s1.buf++le32s (R.take (k+1))=(s1.buf++le32s (R.take k))++Lib.leBytes 4 x:=by
      rw [List.take_add_one,HX.out,le32s_append,List.append_assoc];simp [le32s]
     rw [e];exact BufTo.trans HS3.out HC3.out HF3.out HG3.out hend
    generalize (s1.buf++le32s (R.take k)).length=LL at *;have HNX:=hid hnext;clear hend hnext hal hu5 hv5 hm5 hlc5 hcm5 hl5 hs5 hC5 hf5 hF5 hj hfit;go_wp2_with (go_at_call 94;refine hpu.mono ?_)
    rintro e w6 ⟨rfl,h6⟩;have HB6:=hid (HNX.out w6 h6);clear h6 hpu;go_wp2
    go_roundw
    case rel=>exact ⟨k+1,by omega,by go_num,HB6⟩
    case measure=>simp [intOf];omega
   ·have hkn:k=N+1:=by omega
    have hd:decide ((k:Int) < (N:Int)+1)=false:=by simp;omega
    have hwb:=writeByte_any wr b (o+1) C3 T F3 _ hu3 11 (by omega);have hfinal:∀ w6,BufTo b C3 T (o+1) F3 ((s1.buf++le32s (R.take k))++[11]) wr w6→FBTo b C T o n O ⟨fdata s1.buf s1.offs,R,s1.keys⟩ w w6:=fun w6 h6=>by
     have h7:=BufTo.trans hs3 hC3 hf3 hF3 h6;rw [List.take_of_length_le (by rw [HLN.out];omega)] at h7;have h8:=HB2.out.bufTo h7;have e:fdata s1.buf s1.offs=s1.buf++le32s R++[11]:=by unfold fdata;rw [HR0.out]
     rw [e];exact HTR.out _ _ (FBTo.trans HT2.out.1 HT2.out.2.1 HT2.out.2.2.1 HT2.out.2.2.2 h8)
    have HFN:=hid hfinal;clear hfinal hkn hs3 hC3 hf3 hF3 hu3;go_wp2_with (go_at_call 95;refine hwb.mono ?_;rintro e w6 ⟨rfl,h6⟩;have HF6:=hid (HFN.out w6 h6);clear h6 hwb)
    go_end0
    refine ⟨rfl,s1,HCASE.out,?_⟩;rw [HR0.out];exact HF6.out
 ·have hkd:decide ((0:Int) < (s.keys.length:Int))=true:=by simp;omega
  have hkne:s.keys≠[]:=fun e=>hkl (by rw [e];rfl)
  have HOS0:=hid hos;have hbmk:bm s.keys.length n+1≤167772200:=by
   have:s.keys.length*n≤67108864*20:=Nat.mul_le_mul hk hn;unfold bm;split <;> omega
  clear h hos;go_enter Tryz.func48,Tryz.ntmps48
  go_wp2_with (go_at_call 88;refine hgn.mono ?_;rintro e w2 ⟨rfl,hG⟩;revert hG)
  rintro ⟨fb,hcok,hfl,hto⟩;obtain ⟨s1,hs1⟩:∃ s1:FR,s1=⟨s.buf++fb,s.offs++[s.buf.length],[]⟩:=⟨_,rfl⟩;rw [← hs1] at hto;obtain ⟨C1,O1,hb1,hsz1,hC1,hf1,hO1⟩:=hto;have HB:=hid hb1;have HTR:Hid (∀ s2 w',FBTo b C1 T o n O1 s2 w2 w'→FBTo b C T o n O s2 w w'):=hid (fun s2 w' h2=>FBTo.trans hsz1 hC1 hf1 hO1 h2);have HOS:Hid (∀ x∈s1.offs,x < 4294967296):=hid (by
   rw [hs1];intro x hx;rcases List.mem_append.1 hx with h | h
   ·exact HOS0.out x h
   ·simp at h;omega)
  have HCASE:Hid ((s.keys=[]∧s1=s)∨(s.keys≠[]∧∃ fb,cOk n (s.keys,fb)∧s1=⟨s.buf++fb,s.offs++[s.buf.length],[]⟩)):=hid (.inr ⟨hkne,fb,hcok,hs1⟩);have hl1:s1.buf.length≤1073741824:=by rw [hs1,List.length_append];omega
  have ho1:s1.offs.length≤33554433:=by rw [hs1];simp;omega
  clear hs1 hb1 hsz1 hC1 hf1 hO1 hgn hcok hfl hkne;go_wp2_with fail
  obtain ⟨v,hv,hown,hro⟩:=HB.out.offs;obtain ⟨ra,rc,rfl,hrl,hrm,hrn⟩:=own_form hown;have h68:=HB.out.ub.blk.cell hv;have hlen:=fun k=>len_any (w2.drewN k) b (o+1) C1 T O1.f s1.buf (HB.out.ub.keep (w2:=w2.drewN k) (C2:=C1) HB.out.ub.blk rfl (fun _ _ _=>rfl) (fun _ _=>rfl))
  have hwl:IntKind.u32.wrap (s1.buf.length:Int)=(s1.buf.length:Int):=IntWalk.u32_in _ (by omega);have hnb:(Value.slice ra s1.offs.length rc).ownBlock≠some b:=fun e=>HB.out.dis.rb (hro.symm.trans e)
  have hb0:=HB.out.ub.blk.lt;have HV:=hid hv;clear hv hrn;refine Pos.start (fun X=>X.cell? ⟨b,o+68,none⟩=some (.slice ra s1.offs.length rc)) 12 (by kernel_rfl) ?_;have hS:(fun X:World=>X.cell? ⟨b,o+68,none⟩=some (.slice ra s1.offs.length rc)) (w2.drewN 1):=h68;iterate 8
   refine' Pos.takeK hS rfl (by kernel_rfl) (fun _ _ _ h=>h) (by rfl) ?_ ?_;rotate_left
   ·intro W hW;obtain s1:=hW;go_simp;try with_reducible rfl
   intro K hK;go_simp;refine hK _ ?_;clear hK K
  refine Pos.eff rfl (by kernel_rfl) ?_;go_wp2_with (go_at_call 49;refine (hlen _).mono ?_;rintro e w2 ⟨rfl,k2,rfl⟩)
  clear hS;generalize 1+k2=k3;have hS:(fun X:World=>X.cell? ⟨b,o+68,none⟩=some (.slice ra s1.offs.length rc)) (w2.drewN k3):=h68;refine ⟨hS,?_⟩;iterate 1
   refine' Pos.takeK hS rfl (by kernel_rfl) (fun _ _ _ h=>h) (by rfl) ?_ ?_;rotate_left
   ·intro W hW;obtain s1:=hW;go_simp;try with_reducible rfl
   intro K hK;go_simp;refine hK _ ?_;clear hK K
  refine Pos.eff rfl (by kernel_rfl) ?_;go_wp2
  clear hS;have hS:(fun X:World=>X.cell? ⟨b,o+68,none⟩=some (.slice ra s1.offs.length rc)) ((w2.alloc (.cells #[.int .u32 s1.buf.length] 201)).drewN k3):=(HB.out.ub.blk.alloc _).cell HV.out;refine ⟨hS,?_⟩;refine Pos.eff rfl (by kernel_rfl) ?_;refine wpList_app rfl _ _ 105 rfl 201 (.int .u32 0) 1 4 un105 info201 rfl (by omega) (.slice ra s1.offs.length rc) s1.offs.length (rv s1.offs) rfl (by exact hown.alloc _) (some ⟨w2.heap.size,0,none⟩) 1 1 [.int .u32 s1.buf.length] rfl rfl (by simp) (by exact news_new [.int .u32 s1.buf.length] _ (Blk.new w2 _ _)) (by simp [Value.oneCell']) (by unfold maxLen;omega) (by omega) ?_
  intro v3 w3 hown3 hgrow3 hlies3;have hX:FBTo b C1 T o n O1 { s1 with offs:=s1.offs++[s1.buf.length] } w2 (w3.setCell ⟨b,o+68,none⟩ v3):=by
   refine HB.out.offsTo (((Fr.refl (fun _=>False) w2).alloc (.cells #[.int .u32 s1.buf.length] 201)).drewN k3) HV.out ?_ hgrow3 hlies3;rw [rv_append,List.length_append];exact hown3
  have HX:=hid hX;obtain ⟨a3,c3,rfl,hc3,hc3m,hc3n⟩:=own_form hown3;have hz3:w3.cell? ⟨b,o+68,none⟩=some (.slice ra s1.offs.length rc):=(hgrow3.cell_far ⟨b,o+68,none⟩ (by simp;omega) (Ne.symm hnb)).trans ((HB.out.ub.blk.alloc _).cell HV.out);have hf3:w3.frozen? ⟨b,o+68,none⟩=false:=(hgrow3.frozen_far ⟨b,o+68,none⟩ (by simp;omega) (Ne.symm hnb)).trans ((HB.out.ub.blk.alloc _).free _);refine ⟨hz3,?_⟩
  refine Pos.tail (by kernel_rfl) (by decide) ?_;simp only [List.drop_succ_cons,List.drop_zero];clear hown3 hgrow3 hlies3 hS hX hc3n hlen hown hnb;obtain ⟨C2,O2,hb2,hs2,hC2,hf2,hO2⟩:=HX.out;obtain ⟨v2,hv2,hown2,hro2⟩:=hb2.offs;have hq3:=hb2.ub.blk.cell hv2;obtain ⟨a2,c2,rfl,hc2,hc2m,hc2n⟩:=own_form hown2;have hlen2:(s1.offs++[s1.buf.length]).length=s1.offs.length+1:=by simp
  obtain ⟨g,rfl,hgo,hgc⟩:=own_cells hown2 (by rw [hlen2];omega);have hgb:g≠b:=fun e=>hb2.dis.rb (e ▸ hro2.symm.trans hgo)
  have hgf:O2.f≠some g:=fun e=>hb2.dis.fr g e (hro2.symm.trans hgo)
  have hglt:=own_lt hown2 hgo;rw [hlen2] at hq3;have HU:=hid hb2.ub;have HB2:=hid hb2;have HT2:=hid (And.intro hs2 (And.intro hC2 (And.intro hf2 hO2)));have HGC:=hid hgc;have HEV2:Hid (∀ x∈s1.offs++[s1.buf.length],x < 4294967296):=hid (by
   intro x hx;rcases List.mem_append.1 hx with h | h
   ·exact HOS.out x h
   ·simp at h;omega)
  clear hb2 hs2 hC2 hf2 hO2 hgc hown2 hv2 hro2 hgo hc2n hc2 hc2m hwl;go_wp2
  generalize w3.setCell ⟨b,o+68,none⟩ (.slice a3 (s1.offs.length+1) c3)=W3 at *;clear hz3 hf3;generalize hR:s1.offs++[s1.buf.length]=R at *;generalize hNN:s1.offs.length=N at *;have HR0:=hid hR;have HLN:=hid hlen2;clear hR hlen2;go_loopw [36] (fun i wr=>∃ k:Nat,k≤N+1∧i=.int .i64 k∧Hid (BufTo b C2 T (o+1) O2.f (s1.buf++le32s (R.take k)) W3 wr)) (fun i _=>N+1 - (intOf i).toNat)
  case atStart=>exact ⟨0,Nat.zero_le _,rfl,hid (by rw [List.take_zero,show le32s []=[] from rfl,List.append_nil];exact BufTo.refl HU.out)⟩
  case round =>
   obtain ⟨k,hk,rfl,HR⟩:=hrel;obtain ⟨C3,F3,hu3,hs3,hC3,hf3,hF3⟩:=HR.out;have hbl:(s1.buf++le32s (R.take k)).length≤4294967200:=by
    rw [List.length_append,le32s_length,List.length_take,HLN.out];omega
   by_cases hlt:k < N+1
   ·have hxe:∃ x,R[k]?=some x:=⟨_,List.getElem?_eq_getElem (by rw [HLN.out];exact hlt)⟩;obtain ⟨x,hx⟩:=hxe;have hx32:x < 4294967296:=HEV2.out x (List.mem_of_getElem? hx);have hce:wr.cell? ⟨g,k,none⟩=some (.int .u32 x):=(hf3.cell hglt (by simp [hgb,hgf])).trans (HGC.out k _ (by rw [rv,List.getElem?_map,hx];rfl));have hi0:(0:Int)≤(k:Int):=by omega
    have hi1:(k:Int) < ((N+1:Nat):Int):=by omega
    have hi2:(k:Int) < (N:Int)+1:=by omega
    have hal:=alloc_any wr b (o+1) 4 C3 T F3 _ hu3 (by omega) (by omega);have HS3:=hid hs3;have HC3:=hid hC3;have HF3:=hid hf3;have HG3:=hid hF3;have HX:=hid hx;clear hs3 hC3 hf3 hF3 hx hu3;go_wp2_with (go_at_call 93;refine hal.mono ?_)
    rintro e w5 ⟨C5,F5,junk,g5,go5,c5,G5,E5,rfl,hj,hu5,hv5,hm5,hlc5,hcm5,hl5,hs5,hC5,hf5,hF5⟩;have hfit:=hm5.fit;have hpu:=putUint32_any g5 (go5+(s1.buf++le32s (R.take k)).length) 4 (c5 - (s1.buf++le32s (R.take k)).length) x hx32 w5 G5 E5 hm5.blk (by omega) (by omega);have hend:=alloced_put hu5 hv5 hm5 (by rw [List.length_append,hj];exact hlc5) hcm5 hl5 hs5 hC5 hf5 hF5 (Lib.leBytes 4 x) (by rw [leBytes_length,hj]) (.cells #[] 204)
    have hnext:∀ w6,(w5.alloc (.cells #[] 204)).setRow g5 (splice G5 (go5+(s1.buf++le32s (R.take k)).length) (bv (Lib.leBytes 4 x)))=w6→BufTo b C2 T (o+1) O2.f (s1.buf++le32s (R.take (k+1))) W3 w6:=by
     intro w6 e6;subst e6;have e:s1.buf++le32s (R.take (k+1))=(s1.buf++le32s (R.take k))++Lib.leBytes 4 x:=by
      rw [List.take_add_one,HX.out,le32s_append,List.append_assoc];simp [le32s]
     rw [e];exact BufTo.trans HS3.out HC3.out HF3.out HG3.out hend
    generalize (s1.buf++le32s (R.take k)).length=LL at *;have HNX:=hid hnext;clear hend hnext hal hu5 hv5 hm5 hlc5 hcm5 hl5 hs5 hC5 hf5 hF5 hj hfit;go_wp2_with (go_at_call 94;refine hpu.mono ?_)
    rintro e w6 ⟨rfl,h6⟩;have HB6:=hid (HNX.out w6 h6);clear h6 hpu;go_wp2
    go_roundw
    case rel=>exact ⟨k+1,by omega,by go_num,HB6⟩
    case measure=>simp [intOf];omega
   ·have hkn:k=N+1:=by omega
    have hd:decide ((k:Int) < (N:Int)+1)=false:=by simp;omega
    have hwb:=writeByte_any wr b (o+1) C3 T F3 _ hu3 11 (by omega);have hfinal:∀ w6,BufTo b C3 T (o+1) F3 ((s1.buf++le32s (R.take k))++[11]) wr w6→FBTo b C T o n O ⟨fdata s1.buf s1.offs,R,s1.keys⟩ w w6:=fun w6 h6=>by
     have h7:=BufTo.trans hs3 hC3 hf3 hF3 h6;rw [List.take_of_length_le (by rw [HLN.out];omega)] at h7;have h8:=HB2.out.bufTo h7;have e:fdata s1.buf s1.offs=s1.buf++le32s R++[11]:=by unfold fdata;rw [HR0.out]
     rw [e];exact HTR.out _ _ (FBTo.trans HT2.out.1 HT2.out.2.1 HT2.out.2.2.1 HT2.out.2.2.2 h8)
    have HFN:=hid hfinal;clear hfinal hkn hs3 hC3 hf3 hF3 hu3;go_wp2_with (go_at_call 95;refine hwb.mono ?_;rintro e w6 ⟨rfl,h6⟩;have HF6:=hid (HFN.out w6 h6);clear h6 hwb)
    go_end0
    refine ⟨rfl,s1,HCASE.out,?_⟩;rw [HR0.out];exact HF6.out
end
section
open Go Go.RowKit Go.Shelf
theorem run_loadB {P:Program} {w:World}:∀ (l:List UInt8) (a:Addr) (acc:ByteArray),(∀ j x,l[j]?=some x→w.cell? (a.add j)=some (.int .u8 x.toNat)) →
  (Extern.Bytes.loadBytes a l.length acc).run P w=.ok ⟨acc.data++l.toArray⟩ w
 | [],a,acc,_=>by simp [Extern.Bytes.loadBytes]
 | x :: l,a,acc,h=>by
  have h0:w.cell? a=some (.int .u8 x.toNat):=by
   have:=h 0 x rfl;simpa [Addr.add] using this
  have ih:=run_loadB (P:=P) l (a.add 1) (acc.push x) (fun j y hy=>by
   have:=h (j+1) y (by simpa using hy);have e:(a.add 1).add j=a.add (j+1):=by
    unfold Addr.add;by_cases hj:j=0
    ·subst hj;simp
    ·simp [hj];omega
   rw [e];exact this)
  have hx:((x.toNat:Int).toNat).toUInt8=x:=by simp
  simp only [List.length_cons,Extern.Bytes.loadBytes,Sem.run_bind,run_load,h0,Result.andThen,hx];rw [ih];congr 1
  apply ByteArray.ext
  simp
theorem run_bytesOf {P:Program} {w:World} {a:Option Addr} {n c:Nat} {l:List UInt8} (h:Sl w a n c l) :
  (Extern.Bytes.bytesOf (.slice a n c)).run P w=.ok ⟨l.toArray⟩ w:=by
 have hlen:=h.len;cases a with
 | none =>
  have:l=[]:=List.length_eq_zero_iff.1 (by have:=h.nil rfl;have:=h.cap;omega);subst this;rfl
 | some p =>
  have h2:=run_loadB (P:=P) (w:=w) l p .empty (fun j x hj=>by
   obtain ⟨hlt,rfl⟩:=List.getElem?_eq_some_iff.1 hj;obtain ⟨b,o,e,hc⟩:=h.cell j hlt;obtain rfl:=Option.some.inj e;have ea:(⟨b,o,none⟩:Addr).add j=⟨b,o+j,none⟩:=by
    by_cases e:j=0
    ·subst e;simp [Addr.add]
    ·simp [Addr.add,e]
   rw [ea];exact hc)
  rw [hlen] at h2;simpa [Extern.Bytes.bytesOf] using h2
theorem run_compareSl {P:Program} {w:World} {a a2:Option Addr} {n c n2 c2:Nat} {l l2:List UInt8} (h:Sl w a n c l) (h2:Sl w a2 n2 c2 l2) :
  (Extern.BytealgCompare.compare #[.slice a n c,.slice a2 n2 c2]).run P w=.ok (.int .i64 (Lib.compareBytes l l2)) w:=by
 change Sem.run P (do pure (goInt (Extern.BytealgCompare.cmp (← Extern.Bytes.bytesOf (.slice a n c)) (← Extern.Bytes.bytesOf (.slice a2 n2 c2))))) w=_
 simp only [Sem.run_bind,run_bytesOf h,run_bytesOf h2,Sem.run_pure,Result.andThen];rw [Lib.cmp_eq];rfl
theorem bcompare_any (w:World) (a a2:Option Addr) (n c n2 c2:Nat) (l l2:List UInt8) (h:Sl w a n c l) (h2:Sl w a2 n2 c2 l2) :
  Calls Tryz.prog 181 #[.slice a n c,.slice a2 n2 c2] w fun e w'=>e=.returned (.int .i64 (Lib.compareBytes l l2))∧w'=w:=by
 have hr:=run_compareSl (P:=Tryz.prog) h h2;go_enter Tryz.func181,Tryz.ntmps181
 go_wp2
 rw [run_callFunc_extern Tryz.func182 (by kernel_rfl) (by kernel_rfl) (by kernel_rfl) (e:=Extern.BytealgCompare.compare) (by kernel_rfl),hr];simp only [Result.andThen];rw [Oper.upon_value];go_wp2
 go_ret
 exact ⟨rfl,rfl⟩
theorem compare_any (w:World) (a a2:Option Addr) (n c n2 c2:Nat) (l l2:List UInt8) (h:Sl w a n c l) (h2:Sl w a2 n2 c2 l2) :
  Calls Tryz.prog 177 #[.agg #[],.slice a n c,.slice a2 n2 c2] w fun e w'=>e=.returned (.int .i64 (Lib.compareBytes l l2))∧w'=w.alloc (.cells #[] 192):=by
 have hf:=Fr.alloc (Fr.refl (fun _=>False) w) (.cells #[] 192);have hc:=bcompare_any (w.alloc (.cells #[] 192)) a a2 n c n2 c2 l l2 (h.fr hf (fun _ _ h=>h)) (h2.fr hf (fun _ _ h=>h));go_enter Tryz.func177,Tryz.ntmps177
 go_wp2_with (go_at_call 181;refine hc.mono ?_;rintro e w1 ⟨rfl,rfl⟩)
 go_ret
 exact ⟨rfl,rfl⟩
end
section
open Go Go.RowKit Go.Shelf
open Go.Lib (compareBytes)
theorem u8_bump {x:UInt8} (h:x≠255):(x+1).toNat=x.toNat+1:=by
 have h1:=x.toNat_lt;have h2:x.toNat≠255:=fun e=>h (UInt8.toNat_inj.1 (by rw [e];rfl))
 rw [UInt8.toNat_add];simp;omega
theorem cmp_bump:∀ (l:List UInt8) (i:Nat) (x:UInt8),l[i]?=some x→x≠255→compareBytes l (l.take i++[x+1])=-1
 | [],i,x,h,_=>by simp at h
 | y :: l,0,x,h,hx=>by
  simp at h;subst h;have:y < y+1:=by rw [UInt8.lt_iff_toNat_lt,u8_bump hx];omega
  simp [compareBytes,this]
 | y :: l,i+1,x,h,hx=>by
  have ih:=cmp_bump l i x (by simpa using h) hx;simp [compareBytes,ih]
theorem cmp_bump2:∀ (l r:List UInt8) (i:Nat) (x y:UInt8),(∀ j,j < i→l[j]?=r[j]?)→i≤l.length→r[i]?=some y→x+1 < y→compareBytes (l.take i++[x+1]) r=-1
 | _,[],i,x,y,_,_,h,_=>by simp at h
 | l,z :: r,0,x,y,_,_,h,hx=>by
  simp at h;subst h;simp [compareBytes,hx]
 | [],z :: r,i+1,x,y,_,hl,h,hx=>by simp at hl
 | a :: l,z :: r,i+1,x,y,hp,hl,h,hx=>by
  have h0:=hp 0 (by omega);simp at h0;subst h0;have ih:=cmp_bump2 l r i x y (fun j hj=>by have:=hp (j+1) (by omega);simpa using this) (by simpa using hl) (by simpa using h) hx;simp [compareBytes,ih]
theorem own_set {w:World} {g n c:Nat} {l:List UInt8} (h:w.ownsRow 0 5 1 (.slice (some ⟨g,0,none⟩) n c) n (bv l)) {i:Nat} (y:UInt8) :
  (w.setCell ⟨g,i,none⟩ (.int .u8 y.toNat)).ownsRow 0 5 1 (.slice (some ⟨g,0,none⟩) n c) n (bv (l.set i y)):=by
 obtain ⟨h1,h⟩:=h;rcases h with ⟨hv,_⟩ | ⟨g',cap,cur,hv,_,hg,hn',hm,hs,ht⟩
 ·simp at hv
 ·simp only [Value.slice.injEq,Option.some.injEq,Addr.mk.injEq,true_and,and_true] at hv;obtain ⟨rfl,rfl⟩:=hv;have hb:Blk w g cur 5:=hg;refine ⟨by rw [bv_length,List.length_set];rw [bv_length] at h1;exact h1,.inr ⟨g,c,cur.setIfInBounds i (.int .u8 y.toNat),rfl,Nat.zero_le _,hb.set i _,hn',hm,by simpa using hs,?_⟩⟩;have e:bv (l.set i y)=(bv l).set i (.int .u8 y.toNat):=by simp [bv,Lib.byteCells,List.map_set]
  rw [e,← ht,Array.toList_setIfInBounds];rw [List.take_set]
def SRes (v:Value) (P:List UInt8→Prop) (w:World) (e:Ending) (w':World):Prop :=
 (e=.returned (.slice none 0 0)∧Fr (fun _=>False) w w')∨∃ a c s,e=.returned (.slice a s.length c)∧s≠[]∧w'.ownsRow 0 5 1 (.slice a s.length c) s.length (bv s)∧(∀ k,(Value.slice a s.length c).ownBlock=some k→v.ownBlock=some k∨w.heap.size≤k) ∧
  Fr (fun k=>v.ownBlock=some k) w w'∧P s
theorem take_set {l:List UInt8} {i:Nat} (h:i < l.length) (y:UInt8):(l.take (i+1)).set i y=l.take i++[y]:=by
 apply List.ext_getElem?
 intro j;by_cases e:j=i
 ·subst e;rw [List.getElem?_set_self (by simp;omega),List.getElem?_append_right (by simp;omega)];simp [Nat.min_eq_left (Nat.le_of_lt h)]
 ·rw [List.getElem?_set_ne (by omega),List.getElem?_take];by_cases e2:j < i
  ·rw [if_pos (by omega),List.getElem?_append_left (by simp;omega),List.getElem?_take_of_lt e2]
  ·rw [if_neg (by omega),List.getElem?_eq_none (by simp;omega)]
theorem bump_res {w w0 w8:World} {da:Option Addr} {dc:Nat} {l:List UInt8} {i:Nat} {x:UInt8} {a8:Option Addr} {c8:Nat} (hf0:Fr (fun _=>False) w w0) (hown:w8.ownsRow 0 5 1 (.slice a8 (0+(i+1)) c8) (0+(i+1)) ([]++bv (l.take (i+1)))) (hg:w0.grownBy w8 (Value.slice da 0 dc).ownBlock)
  (hl:Lies w0 (.slice da 0 dc) (.slice a8 (0+(i+1)) c8)) (hi:l[i]?=some x) :
  ∃ g,a8=some ⟨g,0,none⟩∧w8.cell? ⟨g,i,none⟩=some (.int .u8 x.toNat)∧w8.frozen? ⟨g,i,none⟩=false ∧
   ∀ (P:List UInt8→Prop),P (l.take i++[x+1])→SRes (.slice da 0 dc) P w (.returned (.slice (some ⟨g,0,none⟩) (i+1) c8)) (w8.setCell ⟨g,i,none⟩ (.int .u8 (x+1).toNat)):=by
 have hil:i < l.length:=(List.getElem?_eq_some_iff.1 hi).1;rw [Nat.zero_add,List.nil_append] at hown;obtain ⟨g,rfl,hgo,hgc⟩:=own_cells hown (by omega);have hlt:=own_lt hown hgo;refine ⟨g,rfl,hgc i _ (by rw [bv_get,List.getElem?_take_of_lt (by omega),hi];rfl),?_,fun P hP=>.inr ⟨some ⟨g,0,none⟩,c8,l.take i++[x+1],?_,by simp,?_,?_,?_,hP⟩⟩
 ·obtain ⟨_,⟨hv,_⟩ | ⟨g',cap,cur,hv,_,hg',_⟩⟩:=hown
  ·simp at hv
  ·simp only [Value.slice.injEq,Option.some.injEq,Addr.mk.injEq,true_and,and_true] at hv;obtain ⟨rfl,_⟩:=hv;have hb:Blk w8 g cur 5:=hg';exact hb.free i
 ·have:(l.take i++[x+1]).length=i+1:=by simp;omega
  rw [this]
 ·have h1:=own_set hown (i:=i) (x+1);rw [take_set hil] at h1;have:(l.take i++[x+1]).length=i+1:=by simp;omega
  rw [this];exact h1
 ·intro k hk;have hk':g=k:=by simpa [Value.ownBlock] using hk
  subst hk';rcases hl with h | h
  ·exact .inl (h.symm.trans hgo)
  ·have h':g=w0.heap.size:=by simpa [Value.ownBlock] using h
   exact .inr (by have:=hf0.size;omega)
 ·refine ((hf0.mono (S':=fun k=>(Value.slice da 0 dc).ownBlock=some k) (fun _ _ h=>h.elim)).grown hg (fun k hk _=>hk)).setCell (p:=⟨g,i,none⟩) (fun hgw=>?_) _;rcases hl with h | h
  ·exact h.symm.trans hgo
  ·have h':g=w0.heap.size:=by simpa [Value.ownBlock] using h
   have:=hf0.size;simp at hgw;omega
set_option maxHeartbeats 2000000 in
theorem succ_any (w:World) (da:Option Addr) (dc:Nat) (hd:w.ownsRow 0 5 1 (.slice da 0 dc) 0 []) (a:Option Addr) (n c:Nat) (l:List UInt8) (h:Sl w a n c l) (hn:n≤4294967295) :
  Calls Tryz.prog 180 #[.agg #[],.slice da 0 dc,.slice a n c] w fun e w'=>SRes (.slice da 0 dc) (fun s=>compareBytes l s=-1∧s.length≤n) w e w':=by
 have hf0:Fr (fun _=>False) w (w.alloc (.cells #[] 192)):=(Fr.refl (fun _=>False) w).alloc _;have hs0:=h.fr hf0 (fun _ _ h=>h);have hd0:=own_fr hd hf0 (fun _ _ h=>h);have hlen:=h.len;have hcap:=h.cap;have HS:=hid hs0;have HD:=hid hd0;have HF:=hid hf0;have HLN:=hid hlen;clear h hd hs0 hd0 hf0 hlen;go_enter Tryz.func180,Tryz.ntmps180
 go_wp2
 go_loopw [11,1] (fun v d wr=>∃ i:Nat,i≤n∧v=.int .i64 i∧d=.slice da 0 dc∧wr=w.alloc (.cells #[] 192)) (fun v _ _=>n - (intOf v).toNat)
 case atStart=>exact ⟨0,Nat.zero_le _,rfl,rfl,rfl⟩
 case round =>
  obtain ⟨i,hi,rfl,rfl,rfl⟩:=hrel;by_cases hlt:i < n
  ·obtain ⟨b,o,rfl⟩:=HS.out.form (by omega);obtain ⟨x,hx,hcx⟩:=HS.out.get hlt;have hi1:(i:Int) < (n:Int):=by omega
   have hi0:(0:Int)≤(i:Int):=by omega
   have HX:=hid hx;clear hx;by_cases hff:x=255
   ·have hne:((x.toNat:Int) == 255)=true:=by rw [hff];rfl
    have hxt:x.toNat=255:=by rw [hff];rfl
    rw [hxt] at hcx;clear hff hne hxt;go_wp2
    go_roundw
    case rel=>exact ⟨i+1,by omega,by go_num,by first | rfl | trivial,by first | rfl | trivial⟩
    case measure=>simp [intOf];omega
   ·have hxn:x.toNat≠255:=fun e=>hff (UInt8.toNat_inj.1 (by rw [e];rfl))
    have hne:((x.toNat:Int) == 255)=false:=by rw [beq_eq_false_iff_ne];omega
    have hx8:=x.toNat_lt;have hsl:∀ w',(Instr.slice 29 (.slice (some ⟨b,o,none⟩) n c) none (some (.int .i64 ((i:Int)+1))) none).run Tryz.prog w'=.ok (.slice (some ⟨b,o,none⟩) (i+1) c) w':=fun w'=>run_slice_hi (P:=Tryz.prog) 29 5 un29 sz5 .i64 (some ⟨b,o,none⟩) n c (i+1) (by omega) w'
    have hbm:=u8_bump hff;have hwb:IntKind.u8.wrap ((x.toNat:Int)+1)=((x+1).toNat:Int):=by rw [hbm];exact IntWalk.u8_in _ (by omega)
    have hP:compareBytes l (l.take i++[x+1])=-1∧(l.take i++[x+1]).length≤n:=⟨cmp_bump l i x HX.out hff,by have:=HLN.out;simp;omega⟩;have HP:=hid hP;have HT:Hid (Sl (w.alloc (.cells #[] 192)) (some ⟨b,o,none⟩) (i+1) c (l.take (i+1))):=hid (HS.out.take (by omega));clear hbm hP hff;go_wp2_with (at_builtin;go_must (refine wpList_app rfl _ _ 29 rfl 5 (.int .u8 0) 1 1 un29 info5 rfl (by omega) (.slice da 0 dc) 0 [] rfl HD.out (some ⟨b,o,none⟩) (i+1) c (bv (l.take (i+1))) rfl (by rw [bv_length,HT.out.len];omega) (fun e=>by cases e) HT.out.news (bv_one _) (by unfold maxLen;omega) (by omega) ?_);go_must (intro v8 w8 hown8 hgrow8 hlies8);go_must (obtain ⟨a8,c8,rfl,hc8⟩:=own_form hown8);go_must (obtain ⟨g,rfl,hcg,hfg,hres⟩:=bump_res HF.out hown8 hgrow8 hlies8 HX.out);go_must (have HR:=hid (hres (fun s=>compareBytes l s=-1∧s.length≤n) HP.out));clear hown8 hgrow8 hlies8 hres)
    go_ret
    exact HR.out
  ·have hin:i=n:=by omega
   have hd2:decide ((i:Int) < (n:Int))=false:=by simp;omega
   go_wp2
   go_ret
   exact .inl ⟨rfl,HF.out⟩
end
end Go.Proofs.YtmkdpjicgjhhjaaGreatDoor
