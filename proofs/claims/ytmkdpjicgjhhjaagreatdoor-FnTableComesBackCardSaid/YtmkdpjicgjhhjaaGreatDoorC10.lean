/- Part 10 of the proof of FnTableComesBack: contracts and lemmas, each under the conditions that it states. Texts: BloomG, FBlk. -/
import Derived.Test.YtmkdpjicgjhhjaaGreatDoorC09
import Derived.Handy
namespace Go.Proofs.YtmkdpjicgjhhjaaGreatDoor
open Go.Lib (hid)
set_option maxRecDepth 100000
set_option linter.all false
section
open Go Go.RowKit Go.Shelf
def bm (cnt n:Nat):Nat:=((if cnt*n < 64 then 64 else cnt*n)+7) / 8
def FW (W:World) (g:Nat) (G:Array Value) (o:Nat) (f:List UInt8):World:=W.setRow g (splice G o (bv f))
section
variable {W:World} {g E o:Nat} {G:Array Value} {f:List UInt8}
theorem FW.blk (hG:Blk W g G E):Blk (FW W g G o f) g (splice G o (bv f)) E:=hG.setRow _
theorem FW.cellAt (hG:Blk W g G E) (hf:o+f.length≤G.size) {p:Nat} {x:UInt8} (hx:f[p]?=some x):(FW W g G o f).cell? ⟨g,o+p,none⟩=some (.int .u8 x.toNat):=by
 have hp:p < f.length:=(List.getElem?_eq_some_iff.1 hx).1;refine (FW.blk hG).cell ?_;rw [splice_in (by rw [bv_length];exact hf) (by rw [bv_length];exact hp),bv_get,hx];rfl
theorem FW.free (hG:Blk W g G E) (p:Nat):(FW W g G o f).frozen? ⟨g,p,none⟩=false:=(FW.blk hG).free p
theorem FW.other {b p:Nat} (h:¬ b=g):(FW W g G o f).cell? ⟨b,p,none⟩=W.cell? ⟨b,p,none⟩:=cell?_setRow_ne W g _ b p h
theorem FW.frozen {b p:Nat}:(FW W g G o f).frozen? ⟨b,p,none⟩=W.frozen? ⟨b,p,none⟩:=frozen?_setRow W g _ b p
theorem FW.self (hG:Blk W g G E) (h:∀ j (h:j < f.length),G[o+j]?=some (.int .u8 (f[j]).toNat)) (hf:o+f.length≤G.size):FW W g G o f=W:=by
 have:splice G o (bv f)=G:=by
  apply Array.ext_getElem?
  intro i;have hf1:o+(bv f).length≤G.size:=by rw [bv_length];exact hf
  by_cases h2:o≤i∧i < o+f.length
  ·obtain ⟨j,rfl⟩:∃ j,i=o+j:=⟨i - o,by omega⟩;rw [splice_in hf1 (by rw [bv_length];omega),bv_get,h j (by omega),List.getElem?_eq_getElem (by omega)];rfl
  ·rw [splice_out hf1 (by rw [bv_length];omega)]
 unfold FW;rw [this,setRow_self W g G E (0,0) hG]
theorem FW.set (hG:Blk W g G E) (hf:o+f.length≤G.size) {p:Nat} (hp:p < f.length) (x:UInt8):(FW W g G o f).setCell ⟨g,o+p,none⟩ (.int .u8 x.toNat)=FW W g G o (f.set p x):=by
 rw [setCell_eq_setRow _ g (o+p) _ E (0,0) _ (FW.blk hG)];unfold FW;rw [setRow_setRow];congr 1
 apply Array.ext_getElem?
 intro i;have hf1:o+(bv f).length≤G.size:=by rw [bv_length];exact hf
 have hf2:o+(bv (f.set p x)).length≤G.size:=by rw [bv_length,List.length_set];exact hf
 by_cases e:i=o+p
 ·subst e;rw [Array.getElem?_setIfInBounds_self_of_lt (by rw [splice_size hf1];omega),splice_in hf2 (by rw [bv_length,List.length_set];exact hp),bv_get,List.getElem?_set_self hp];rfl
 ·rw [Array.getElem?_setIfInBounds_ne (by omega)];by_cases h2:o≤i∧i < o+f.length
  ·obtain ⟨j,rfl⟩:∃ j,i=o+j:=⟨i - o,by omega⟩;rw [splice_in hf1 (by rw [bv_length];omega),splice_in hf2 (by rw [bv_length,List.length_set];omega),bv_get,bv_get,List.getElem?_set_ne (by omega)]
  ·rw [splice_out hf1 (by rw [bv_length];omega),splice_out hf2 (by rw [bv_length,List.length_set];omega)]
end
theorem bitAt_set {f:List UInt8} {p:Nat} {y:UInt8} (hy:f[p / 8]?=some y) (x:UInt8) (hx:x.toNat=y.toNat ||| 2 ^ (p % 8)):bitAt (f.set (p / 8) x) p :=
 ⟨x,by rw [List.getElem?_set_self (List.getElem?_eq_some_iff.1 hy).1],by rw [hx,Nat.testBit_or,Nat.testBit_two_pow_self,Bool.or_true]⟩
theorem bitAt_keep {f:List UInt8} {p q:Nat} {y:UInt8} (hy:f[p / 8]?=some y) (x:UInt8) (hx:x.toNat=y.toNat ||| 2 ^ (p % 8)) (h:bitAt f q):bitAt (f.set (p / 8) x) q:=by
 obtain ⟨z,hz,hb⟩:=h;by_cases e:p / 8=q / 8
 ·rw [← e,hy] at hz;obtain rfl:=Option.some.inj hz;exact ⟨x,by rw [← e,List.getElem?_set_self (List.getElem?_eq_some_iff.1 hy).1],by rw [hx,Nat.testBit_or,hb,Bool.true_or]⟩
 ·exact ⟨z,by rw [List.getElem?_set_ne e];exact hz,hb⟩
structure BFil (f:List UInt8) (m k:Nat) (hs:List Nat):Prop where
 len:f.length=m+1
 last:∃ y:UInt8,f[m]?=some y∧y.toNat=k
 all:∀ h∈hs,bIn f m k h
theorem bfil_set {f:List UInt8} {m k p:Nat} {hs:List Nat} (h:BFil f m k hs) (hp:p < 8*m) {y:UInt8} (hy:f[p / 8]?=some y) (x:UInt8) (hx:x.toNat=y.toNat ||| 2 ^ (p % 8)):BFil (f.set (p / 8) x) m k hs :=
 ⟨by rw [List.length_set];exact h.len,by rw [List.getElem?_set_ne (by omega)];exact h.last,fun z hz j hj=>bitAt_keep hy x hx (h.all z hz j hj)⟩
def GenRes (g n b:Nat) (C:Array Value) (T o:Nat) (F:Option Nat) (l:List UInt8) (v:Value) (hs:List Nat) (w w':World):Prop :=
 ∃ f v' C' F',BFil f (bm hs.length n) (bk n) hs∧Gen w' g n [] v'∧v'.ownBlock=v.ownBlock∧UB w' b C' T o F' (l++f)∧C'.size=C.size∧(∀ k,¬ (o≤k∧k < o+66)→C'[k]?=C[k]?) ∧
  Fr (fun k=>k=g∨k=b∨F=some k) w w'∧(∀ k,F'=some k→F=some k∨w.heap.size≤k)
set_option maxHeartbeats 4000000 in
theorem generate_any (g n b:Nat) (hs:List Nat) (v:Value) (C:Array Value) (T o:Nat) (F:Option Nat) (l:List UInt8) (w:World) (h:Gen w g n hs v) (hu:UB w b C T o F l) (hgb:g≠b) (hgF:F≠some g)
  (hr:∀ r,v.ownBlock=some r→r≠b∧F≠some r) (hn:n≤20) (hlim:hs.length≤67108864) (hll:l.length≤1073741824) (hhs:∀ x∈hs,x < 4294967296) :
  Calls Tryz.prog 225 #[.pointer (some ⟨g,0,none⟩),.iface 130 (.pointer (some ⟨b,o,none⟩))] w fun e w'=>e=.returned (.tuple #[])∧GenRes g n b C T o F l v hs w w':=by
 obtain ⟨va,vc,rfl,hvc,hvm,hvn⟩:=own_form h.own;have hB:=h.blk;have c0:=hB.cell (k:=0) rfl;have c1:=hB.cell (k:=1) rfl;have c2:=hB.cell (k:=2) rfl;obtain ⟨hbk,hbk1⟩:=bk_le hn;have hcn:hs.length*n≤1342177280:=by
  have:=Nat.mul_le_mul hlim hn;omega
 have hwm:IntKind.i64.wrap ((hs.length:Int)*(n:Int))=((hs.length*n:Nat):Int):=by rw [← Int.natCast_mul];exact IntWalk.i64_in _ (by omega)
 have hwc:IntKind.u32.wrap ((hs.length*n:Nat):Int)=((hs.length*n:Nat):Int):=IntWalk.u32_in _ (by omega);have hwl:IntKind.i64.wrap (hs.length:Int)=(hs.length:Int):=IntWalk.i64_in _ (by omega);obtain ⟨m,hm⟩:∃ m,m=bm hs.length n:=⟨_,rfl⟩;have hm8:8≤m:=by rw [hm];unfold bm;split <;> omega
 have hmle:m≤167772161:=by rw [hm];unfold bm;split <;> omega
 have hal:=fun (k:Nat) (z:Int) (hz:z=((m+1:Nat):Int))=>show Calls Tryz.prog 93 #[.pointer (some ⟨b,o,none⟩),.int .i64 z] (w.drewN k) (fun e w'=>Alloced b C T o (m+1) F l (w.drewN k) e w') from by
  subst hz;exact alloc_any (w.drewN k) b o (m+1) C T F l (hu.keep (w2:=w.drewN k) (C2:=C) hu.blk rfl (fun _ _ _=>rfl) (fun _ _=>rfl)) (by omega) (by omega)
 have HG:=hid h;have HU:=hid hu;have HM:=hid hm;have HLN:Hid (∃ cn,cn=hs.length*n):=hid ⟨_,rfl⟩;have hmi:((if hs.length*n < 64 then 64 else hs.length*n)+7) / 8=m:=by rw [hm];rfl
 clear hm hvn;generalize hcnt:hs.length*n=cn at *;go_enter Tryz.func225,Tryz.ntmps225
 go_wp2_with fail
 refine wp_tail 11 (by kernel_rfl) ?_;simp only [List.take_succ_cons,List.take_zero,List.drop_succ_cons,List.drop_zero];repeat still_step
 refine wpStill_nil ?_;by_cases h64:cn < 64
 ·rw [if_pos h64] at hmi;have h64i:(cn:Int) < 64:=by omega
  obtain rfl:m=8:=by omega
  go_wp2_with fail
  refine (hal 1 _ (by omega)).mono ?_;rintro e w1 ⟨C1,F1,junk,gg,go,c,G,E,rfl,hj,hu1,hv1,hhome,hlc,hcc,hl1,hs1,hC1,hfr0,hF1⟩;have hfr:Fr (fun k=>k=b) w w1:=⟨hfr0.os,hfr0.tape,hfr0.output,hfr0.size,hfr0.block⟩;replace hF1:∀ k,F1=some k→F=some k∨w.heap.size≤k:=hF1
  have hnew:∀ r,r < w.heap.size→r≠b→F≠some r→r≠gg:=fun r hrl hrb hrF e=>by
   subst e;rcases hhome.alt with ⟨e,_⟩ | ⟨e,_⟩
   ·exact hrb e
   ·rcases hF1 _ e with h | h
    ·exact hrF h
    ·omega
  have hgg:g≠gg:=hnew g HG.out.blk.lt hgb hgF;have hB1:=HG.out.blk.fr hfr hgb;have hown1:=own_fr HG.out.own hfr (fun k hk=>(hr k hk).1);have hfit:=hhome.fit;have hGb:=hhome.blk;obtain ⟨off,hoff⟩:∃ off,off=go+l.length:=⟨_,rfl⟩;have hjl:(l++junk).length=l.length+(8+1):=by rw [List.length_append,hj]
  have hofit:off+(8+1)≤G.size:=by omega
  have hjunk:∀ j (h:j < junk.length),G[off+j]?=some (.int .u8 (junk[j]).toNat):=fun j hjj=>by
   have:=hl1 (l.length+j) (by omega);rw [show go+(l.length+j)=off+j by omega] at this;rw [this,List.getElem_append_right (by omega)];simp
  have hkb:(UInt8.ofNat (bk n)).toNat=bk n:=by simp;omega
  have hself:=FW.self hGb hjunk (by omega);have hst:w1.setCell ⟨gg,off+8,none⟩ (.int .u8 (bk n:Nat))=FW w1 gg G off (junk.set 8 (UInt8.ofNat (bk n))):=by
   have:=FW.set (W:=w1) (f:=junk) (o:=off) hGb (by omega) (p:=8) (by omega) (UInt8.ofNat (bk n));rw [hself,hkb] at this;exact this
  have hBF:BFil (junk.set 8 (UInt8.ofNat (bk n))) 8 (bk n) (hs.take 0):=⟨by rw [List.length_set,hj],⟨_,List.getElem?_set_self (by omega),hkb⟩,fun h hh=>by simp at hh⟩;have hg0:∀ f,(FW w1 gg G off f).cell? ⟨g,1,none⟩=some (.int .u8 (bk n)):=fun f=>(FW.other hgg).trans (hB1.cell rfl)
  have hg2:∀ f,(FW w1 gg G off f).cell? ⟨g,2,none⟩=some (.slice va hs.length vc):=fun f=>(FW.other hgg).trans (hB1.cell rfl)
  have hz1:=hB1.cell (k:=1) rfl;have hz2:=hB1.cell (k:=2) rfl;have hgf:∀ f,(FW w1 gg G off f).frozen? ⟨g,2,none⟩=false:=fun f=>FW.frozen.trans (hB1.free 2)
  obtain ⟨x0,hx0⟩:=hhome.by_ (l.length+8) (by omega);rw [← Nat.add_assoc,← hoff] at hx0;have hcm:=hGb.cell hx0;have hfm:=hGb.free (off+8);have hend:∀ f,BFil f 8 (bk n) hs→GenRes g n b C T o F l (.slice va hs.length vc) hs w ((FW w1 gg G off f).setCell ⟨g,2,none⟩ (.slice va 0 vc)):=fun f hf=>by
   obtain ⟨C2,hu2,hs2,hC2⟩:=hu1.put hv1 hhome (by omega) hcc hl1 l.length f (by rw [hf.len];omega);have e1:(l++junk).take l.length++f++(l++junk).drop (l.length+f.length)=l++f:=by
    rw [List.take_left,List.drop_eq_nil_of_le (by rw [hf.len];omega),List.append_nil]
   rw [e1,← hoff] at hu2;have hgF1:F1≠some g:=fun e=>by
    rcases hF1 g e with h | h
    ·exact hgF h
    ·have:=HG.out.blk.lt;omega
   have hu3:=hu2.keep (w2:=(FW w1 gg G off f).setCell ⟨g,2,none⟩ (.slice va 0 vc)) (C2:=C2) (hu2.blk.other _ (Ne.symm hgb)) rfl (fun _ _ _=>rfl) (fun k hk=>Below.heap_setCell _ _ _ k (fun e=>hgF1 (by rw [hk,e])));have hfrF:Fr (fun k=>k=g∨k=b∨F=some k) w (FW w1 gg G off f):=(hfr.mono (S':=fun k=>k=g∨k=b∨F=some k) (fun k _ hk=>.inr (.inl hk))).setRow (fun hlt=>by
    rcases hhome.alt with ⟨e,_⟩ | ⟨e,_⟩
    ·exact .inr (.inl e)
    ·rcases hF1 _ e with h | h
     ·exact .inr (.inr h)
     ·omega) _
   obtain ⟨va',vc',hve,hcut,hcb⟩:=own_cut hown1;simp only [Value.slice.injEq] at hve;obtain ⟨rfl,_,rfl⟩:=hve;refine ⟨f,.slice va 0 vc,C2,F1,HM.out ▸ hf,⟨?_,?_,fun e=>HG.out.ne (hcb.symm.trans e)⟩,hcb,hu3,by omega,fun k hk=>by rw [hC2 k (by omega),hC1 k (by omega)],hfrF.setC g 2 _ (.inl rfl),hF1⟩
   ·have hb2:Blk (FW w1 gg G off f) g _ 293:=(setRow_other w1 gg g _ hgg).trans hB1;have:=hb2.set 2 (.slice va 0 vc);simpa using this
   ·refine own_fr (S:=fun k=>k=gg∨k=g) (w:=w1) hcut (((Fr.refl _ w1).setRow (fun _=>.inl rfl) _).setC g 2 _ (.inr rfl)) (fun k hk=>?_);have hk':=hcb.symm.trans hk;rintro (e | e)
    ·exact hnew k (own_lt HG.out.own hk') (hr k hk').1 (hr k hk').2 e
    ·exact HG.out.ne (e ▸ hk')
  have HEND:=hid hend;have HBF:=hid hBF;have HST:=hid hst;have HGB:=hid hGb;have HOWN:=hid hown1;have HNEW:=hid hnew;have HR:=hid hr;have HHS:=hid hhs;have HFIT:=hid hofit;clear hend hBF hst hGb hown1 hnew hr hhs hofit hself hjunk hjl hl1 hv1 hu1 hhome hF1 hfr0 hfr hB1 hal hC1 hfit hs1 hlc hcc hkb hx0 c0 c1 c2 hB h hu hgF;rw [← hoff];clear hoff;have hmm1:(8:Int) < (8:Int)+1:=by omega
  have hmm2:(8:Int) < ((8+1:Nat):Int):=by omega
  have HN:Hid (64=8*8):=hid rfl;go_wp2
  simp only [HST.out];clear hcm hfm;generalize hK:bk n=K at *;have HKE:=hid hK;clear hK;go_loopw [47] (fun i wr=>∃ j f,j≤hs.length∧i=.int .i64 j∧Hid (BFil f 8 K (hs.take j))∧wr=FW w1 gg G off f) (fun i _=>hs.length - (intOf i).toNat)
  case atStart=>exact ⟨0,_,Nat.zero_le _,rfl,HBF,rfl⟩
  case round =>
   obtain ⟨j,f,hj,rfl,HB,rfl⟩:=hrel;by_cases hlt:j < hs.length
   ·have hi1:(j:Int) < (hs.length:Int):=by omega
    obtain ⟨r,rfl,hro,hrc⟩:=own_cells HOWN.out (by omega);obtain ⟨x0,hx0⟩:∃ x,hs[j]?=some x:=⟨_,List.getElem?_eq_getElem hlt⟩;have hrg:¬ r=gg:=HNEW.out r (own_lt HG.out.own hro) (HR.out r hro).1 (HR.out r hro).2;have hcj:(FW w1 gg G off f).cell? ⟨r,j,none⟩=some (.int .u32 x0):=(FW.other hrg).trans (hrc j _ (by simp [rv,hx0]));have hx32:x0 < 4294967296:=HHS.out x0 (List.mem_of_getElem? hx0);have hdel:=bdel_lt hx32
    have hor:bits .or .u32 ((x0:Nat) / 131072:Int) ((x0:Nat)*32768 % 4294967296:Int)=((bdel x0:Nat):Int):=u32_or_nat (x0 / 131072) (x0*32768 % 4294967296) (by omega) (by omega);obtain ⟨d,hd⟩:∃ d,d=bdel x0:=⟨_,rfl⟩;rw [← hd] at hor hdel;have HD:=hid hd;have HX0:=hid hx0;clear hd hx0 hrc;go_wp2
    clear hcj hor;go_loopw [10,8] (fun jj x wr=>∃ (i y:Nat) (f:List UInt8),i≤K∧jj=.int .u8 i∧x=.int .u32 y∧Hid (y=(x0+i*d) % 4294967296)∧Hid (BFil f 8 K (hs.take j))∧Hid (∀ i',i' < i→bitAt f (bpl x0 i' % (8*8)))∧wr=FW w1 gg G off f) (fun jj _ _=>K - (intOf jj).toNat)
    case atStart=>exact ⟨0,x0,f,Nat.zero_le _,rfl,rfl,hid (by omega),HB,hid (fun _ h=>absurd h (Nat.not_lt_zero _)),rfl⟩
    case round =>
     obtain ⟨i,y,f,hi,rfl,rfl,HY,HB,HS,rfl⟩:=hrel;have hy:y < 4294967296:=by rw [HY.out];omega
     have hg1:=hg0 f;by_cases hlt2:i < K
     ·have hi2:(i:Int) < (K:Int):=by omega
      have hne:((64:Int) == 0)=false:=by rw [beq_eq_false_iff_ne];omega
      have hqN:y % 64 < 64:=Nat.mod_lt _ (by omega);have hqm:y % 64 / 8 < 8:=by have:=HN.out;omega
      have hqi:(y:Int) % (64:Int) / 8 < ((8+1:Nat):Int):=by omega
      have hqi2:(y:Int) % (64:Int) / 8 < (8:Int)+1:=by omega
      obtain ⟨yb,hyb⟩:∃ x,f[y % 64 / 8]?=some x:=⟨_,List.getElem?_eq_getElem (by rw [HB.out.len];omega)⟩;have hcb:=FW.cellAt (W:=w1) (o:=off) HGB.out (by rw [HB.out.len];exact HFIT.out) hyb;have hfb:(FW w1 gg G off f).frozen? ⟨gg,off+y % 64 / 8,none⟩=false:=FW.free HGB.out _;have h8b:=yb.toNat_lt;have hr8:y % 64 % 8 < 8:=Nat.mod_lt _ (by decide);have hp:(2:Nat) ^ (y % 64 % 8)≤128:=by
       have:(2:Nat) ^ (y % 64 % 8)≤2 ^ 7:=Nat.pow_le_pow_right (by decide) (by omega);simpa using this
      have hol:yb.toNat ||| 2 ^ (y % 64 % 8) < 256:=Nat.or_lt_two_pow (n:=8) h8b (by omega);obtain ⟨xb,hxb⟩:∃ xb:UInt8,xb.toNat=yb.toNat ||| 2 ^ (y % 64 % 8):=⟨UInt8.ofNat (yb.toNat ||| 2 ^ (y % 64 % 8)),by rw [UInt8.toNat_ofNat'];exact Nat.mod_eq_of_lt hol⟩;have hbor:bits .or .u8 (yb.toNat:Int) ((2:Int) ^ (y % 64 % 8) % 256)=(xb.toNat:Int):=by
       have he:((2:Int) ^ (y % 64 % 8) % 256)=((2 ^ (y % 64 % 8):Nat):Int):=by
        have:((2 ^ (y % 64 % 8):Nat):Int)=(2:Int) ^ (y % 64 % 8):=by simp
        rw [← this];generalize 2 ^ (y % 64 % 8)=P at *;omega
       rw [he,u8_or_nat _ _ (by omega) (by omega),hxb]
      have hset:=FW.set (W:=w1) (f:=f) (o:=off) HGB.out (by rw [HB.out.len];exact HFIT.out) (p:=y % 64 / 8) (by rw [HB.out.len];omega) xb;have hmm8:y % 64 % 8=y % 8:=by omega
      rw [hmm8] at hbor;have HYB:=hid hyb;have HXB:=hid hxb;clear hyb hxb hp hol;go_wp2
      go_roundw
      case rel =>
       have hpm:y % 64 < 8*8:=hqN;refine ⟨i+1,(y+d) % 4294967296,f.set (y % 64 / 8) xb,by omega,by go_num,by go_num,hid ?_,hid (bfil_set HB.out hpm HYB.out xb HXB.out),hid fun i' hi'=>?_,by first | rfl | trivial⟩
       ·rw [HY.out,Nat.add_mul,Nat.one_mul,← Nat.add_assoc];omega
       ·by_cases e:i'=i
        ·subst e;have hbp:bpl x0 i'=y:=by unfold bpl;rw [← HD.out,HY.out]
         rw [hbp];exact bitAt_set HYB.out xb HXB.out
        ·exact bitAt_keep HYB.out xb HXB.out (HS.out i' (by omega))
      case measure=>simp [intOf];omega
     ·have hi2:¬ ((i:Int) < (K:Int)):=by omega
      have hik:i=K:=by omega
      go_wp2
      go_roundw
      case rel =>
       refine ⟨j+1,f,by omega,by go_num,hid ⟨HB.out.len,HB.out.last,fun z hz=>?_⟩,by first | rfl | trivial⟩;rw [List.take_add_one,HX0.out] at hz;rcases List.mem_append.1 hz with hz | hz
       ·exact HB.out.all z hz
       ·simp at hz;subst hz;exact fun i' hi'=>HS.out i' (by omega)
      case measure=>simp [intOf];omega
   ·have hjn:j=hs.length:=by omega
    subst hjn;have hi1:¬ ((hs.length:Int) < (hs.length:Int)):=by omega
    rw [List.take_length] at HB;have hg2f:=hg2 f;have hgff:=hgf f;have hsl:∀ w',(Instr.slice 105 (.slice va hs.length vc) none (some (.int .i64 0)) none).run Tryz.prog w'=.ok (.slice va 0 vc) w':=fun w'=>run_slice_hi (P:=Tryz.prog) 105 201 un105 sz201 .i64 va hs.length vc 0 (by omega) w'
    have HE:=hid (HEND.out f HB.out);go_wp2
    go_end0
    exact ⟨rfl,HE.out⟩
 ·rw [if_neg h64] at hmi;have h64i:¬ (cn:Int) < 64:=by omega
  have hmI:((cn:Int)+7) / 8=(m:Int):=by omega
  go_wp2_with fail
  refine (hal 1 _ (by omega)).mono ?_;rintro e w1 ⟨C1,F1,junk,gg,go,c,G,E,rfl,hj,hu1,hv1,hhome,hlc,hcc,hl1,hs1,hC1,hfr0,hF1⟩;have hfr:Fr (fun k=>k=b) w w1:=⟨hfr0.os,hfr0.tape,hfr0.output,hfr0.size,hfr0.block⟩;replace hF1:∀ k,F1=some k→F=some k∨w.heap.size≤k:=hF1
  have hnew:∀ r,r < w.heap.size→r≠b→F≠some r→r≠gg:=fun r hrl hrb hrF e=>by
   subst e;rcases hhome.alt with ⟨e,_⟩ | ⟨e,_⟩
   ·exact hrb e
   ·rcases hF1 _ e with h | h
    ·exact hrF h
    ·omega
  have hgg:g≠gg:=hnew g HG.out.blk.lt hgb hgF;have hB1:=HG.out.blk.fr hfr hgb;have hown1:=own_fr HG.out.own hfr (fun k hk=>(hr k hk).1);have hfit:=hhome.fit;have hGb:=hhome.blk;obtain ⟨off,hoff⟩:∃ off,off=go+l.length:=⟨_,rfl⟩;have hjl:(l++junk).length=l.length+(m+1):=by rw [List.length_append,hj]
  have hofit:off+(m+1)≤G.size:=by omega
  have hjunk:∀ j (h:j < junk.length),G[off+j]?=some (.int .u8 (junk[j]).toNat):=fun j hjj=>by
   have:=hl1 (l.length+j) (by omega);rw [show go+(l.length+j)=off+j by omega] at this;rw [this,List.getElem_append_right (by omega)];simp
  have hkb:(UInt8.ofNat (bk n)).toNat=bk n:=by simp;omega
  have hself:=FW.self hGb hjunk (by omega);have hst:w1.setCell ⟨gg,off+m,none⟩ (.int .u8 (bk n:Nat))=FW w1 gg G off (junk.set m (UInt8.ofNat (bk n))):=by
   have:=FW.set (W:=w1) (f:=junk) (o:=off) hGb (by omega) (p:=m) (by omega) (UInt8.ofNat (bk n));rw [hself,hkb] at this;exact this
  have hBF:BFil (junk.set m (UInt8.ofNat (bk n))) m (bk n) (hs.take 0):=⟨by rw [List.length_set,hj],⟨_,List.getElem?_set_self (by omega),hkb⟩,fun h hh=>by simp at hh⟩;have hg0:∀ f,(FW w1 gg G off f).cell? ⟨g,1,none⟩=some (.int .u8 (bk n)):=fun f=>(FW.other hgg).trans (hB1.cell rfl)
  have hg2:∀ f,(FW w1 gg G off f).cell? ⟨g,2,none⟩=some (.slice va hs.length vc):=fun f=>(FW.other hgg).trans (hB1.cell rfl)
  have hz1:=hB1.cell (k:=1) rfl;have hz2:=hB1.cell (k:=2) rfl;have hgf:∀ f,(FW w1 gg G off f).frozen? ⟨g,2,none⟩=false:=fun f=>FW.frozen.trans (hB1.free 2)
  obtain ⟨x0,hx0⟩:=hhome.by_ (l.length+m) (by omega);rw [← Nat.add_assoc,← hoff] at hx0;have hcm:=hGb.cell hx0;have hfm:=hGb.free (off+m);have hend:∀ f,BFil f m (bk n) hs→GenRes g n b C T o F l (.slice va hs.length vc) hs w ((FW w1 gg G off f).setCell ⟨g,2,none⟩ (.slice va 0 vc)):=fun f hf=>by
   obtain ⟨C2,hu2,hs2,hC2⟩:=hu1.put hv1 hhome (by omega) hcc hl1 l.length f (by rw [hf.len];omega);have e1:(l++junk).take l.length++f++(l++junk).drop (l.length+f.length)=l++f:=by
    rw [List.take_left,List.drop_eq_nil_of_le (by rw [hf.len];omega),List.append_nil]
   rw [e1,← hoff] at hu2;have hgF1:F1≠some g:=fun e=>by
    rcases hF1 g e with h | h
    ·exact hgF h
    ·have:=HG.out.blk.lt;omega
   have hu3:=hu2.keep (w2:=(FW w1 gg G off f).setCell ⟨g,2,none⟩ (.slice va 0 vc)) (C2:=C2) (hu2.blk.other _ (Ne.symm hgb)) rfl (fun _ _ _=>rfl) (fun k hk=>Below.heap_setCell _ _ _ k (fun e=>hgF1 (by rw [hk,e])));have hfrF:Fr (fun k=>k=g∨k=b∨F=some k) w (FW w1 gg G off f):=(hfr.mono (S':=fun k=>k=g∨k=b∨F=some k) (fun k _ hk=>.inr (.inl hk))).setRow (fun hlt=>by
    rcases hhome.alt with ⟨e,_⟩ | ⟨e,_⟩
    ·exact .inr (.inl e)
    ·rcases hF1 _ e with h | h
     ·exact .inr (.inr h)
     ·omega) _
   obtain ⟨va',vc',hve,hcut,hcb⟩:=own_cut hown1;simp only [Value.slice.injEq] at hve;obtain ⟨rfl,_,rfl⟩:=hve;refine ⟨f,.slice va 0 vc,C2,F1,HM.out ▸ hf,⟨?_,?_,fun e=>HG.out.ne (hcb.symm.trans e)⟩,hcb,hu3,by omega,fun k hk=>by rw [hC2 k (by omega),hC1 k (by omega)],hfrF.setC g 2 _ (.inl rfl),hF1⟩
   ·have hb2:Blk (FW w1 gg G off f) g _ 293:=(setRow_other w1 gg g _ hgg).trans hB1;have:=hb2.set 2 (.slice va 0 vc);simpa using this
   ·refine own_fr (S:=fun k=>k=gg∨k=g) (w:=w1) hcut (((Fr.refl _ w1).setRow (fun _=>.inl rfl) _).setC g 2 _ (.inr rfl)) (fun k hk=>?_);have hk':=hcb.symm.trans hk;rintro (e | e)
    ·exact hnew k (own_lt HG.out.own hk') (hr k hk').1 (hr k hk').2 e
    ·exact HG.out.ne (e ▸ hk')
  have HEND:=hid hend;have HBF:=hid hBF;have HST:=hid hst;have HGB:=hid hGb;have HOWN:=hid hown1;have HNEW:=hid hnew;have HR:=hid hr;have HHS:=hid hhs;have HFIT:=hid hofit;clear hend hBF hst hGb hown1 hnew hr hhs hofit hself hjunk hjl hl1 hv1 hu1 hhome hF1 hfr0 hfr hB1 hal hC1 hfit hs1 hlc hcc hkb hx0 c0 c1 c2 hB h hu hgF;rw [← hoff];clear hoff;have hmm1:(m:Int) < (m:Int)+1:=by omega
  have hmm2:(m:Int) < ((m+1:Nat):Int):=by omega
  obtain ⟨N,hN⟩:∃ N,N=8*m:=⟨_,rfl⟩;have hNi:((m:Int)*8)=(N:Int):=by omega
  have HN:=hid hN;have hN8:8≤N:=by omega
  clear hN;go_wp2
  simp only [HST.out];clear hNi hcm hfm;generalize hK:bk n=K at *;have HKE:=hid hK;clear hK;go_loopw [47] (fun i wr=>∃ j f,j≤hs.length∧i=.int .i64 j∧Hid (BFil f m K (hs.take j))∧wr=FW w1 gg G off f) (fun i _=>hs.length - (intOf i).toNat)
  case atStart=>exact ⟨0,_,Nat.zero_le _,rfl,HBF,rfl⟩
  case round =>
   obtain ⟨j,f,hj,rfl,HB,rfl⟩:=hrel;by_cases hlt:j < hs.length
   ·have hi1:(j:Int) < (hs.length:Int):=by omega
    obtain ⟨r,rfl,hro,hrc⟩:=own_cells HOWN.out (by omega);obtain ⟨x0,hx0⟩:∃ x,hs[j]?=some x:=⟨_,List.getElem?_eq_getElem hlt⟩;have hrg:¬ r=gg:=HNEW.out r (own_lt HG.out.own hro) (HR.out r hro).1 (HR.out r hro).2;have hcj:(FW w1 gg G off f).cell? ⟨r,j,none⟩=some (.int .u32 x0):=(FW.other hrg).trans (hrc j _ (by simp [rv,hx0]));have hx32:x0 < 4294967296:=HHS.out x0 (List.mem_of_getElem? hx0);have hdel:=bdel_lt hx32
    have hor:bits .or .u32 ((x0:Nat) / 131072:Int) ((x0:Nat)*32768 % 4294967296:Int)=((bdel x0:Nat):Int):=u32_or_nat (x0 / 131072) (x0*32768 % 4294967296) (by omega) (by omega);obtain ⟨d,hd⟩:∃ d,d=bdel x0:=⟨_,rfl⟩;rw [← hd] at hor hdel;have HD:=hid hd;have HX0:=hid hx0;clear hd hx0 hrc;go_wp2
    clear hcj hor;go_loopw [10,8] (fun jj x wr=>∃ (i y:Nat) (f:List UInt8),i≤K∧jj=.int .u8 i∧x=.int .u32 y∧Hid (y=(x0+i*d) % 4294967296)∧Hid (BFil f m K (hs.take j))∧Hid (∀ i',i' < i→bitAt f (bpl x0 i' % (8*m)))∧wr=FW w1 gg G off f) (fun jj _ _=>K - (intOf jj).toNat)
    case atStart=>exact ⟨0,x0,f,Nat.zero_le _,rfl,rfl,hid (by omega),HB,hid (fun _ h=>absurd h (Nat.not_lt_zero _)),rfl⟩
    case round =>
     obtain ⟨i,y,f,hi,rfl,rfl,HY,HB,HS,rfl⟩:=hrel;have hy:y < 4294967296:=by rw [HY.out];omega
     have hg1:=hg0 f;by_cases hlt2:i < K
     ·have hi2:(i:Int) < (K:Int):=by omega
      have hne:((N:Int) == 0)=false:=by rw [beq_eq_false_iff_ne];omega
      have hqN:y % N < N:=Nat.mod_lt _ (by omega);have hqm:y % N / 8 < m:=by have:=HN.out;omega
      have hqi:(y:Int) % (N:Int) / 8 < ((m+1:Nat):Int):=by omega
      have hqi2:(y:Int) % (N:Int) / 8 < (m:Int)+1:=by omega
      obtain ⟨yb,hyb⟩:∃ x,f[y % N / 8]?=some x:=⟨_,List.getElem?_eq_getElem (by rw [HB.out.len];omega)⟩;have hcb:=FW.cellAt (W:=w1) (o:=off) HGB.out (by rw [HB.out.len];exact HFIT.out) hyb;have hfb:(FW w1 gg G off f).frozen? ⟨gg,off+y % N / 8,none⟩=false:=FW.free HGB.out _;have h8b:=yb.toNat_lt;have hr8:y % N % 8 < 8:=Nat.mod_lt _ (by decide);have hp:(2:Nat) ^ (y % N % 8)≤128:=by
       have:(2:Nat) ^ (y % N % 8)≤2 ^ 7:=Nat.pow_le_pow_right (by decide) (by omega);simpa using this
      have hol:yb.toNat ||| 2 ^ (y % N % 8) < 256:=Nat.or_lt_two_pow (n:=8) h8b (by omega);obtain ⟨xb,hxb⟩:∃ xb:UInt8,xb.toNat=yb.toNat ||| 2 ^ (y % N % 8):=⟨UInt8.ofNat (yb.toNat ||| 2 ^ (y % N % 8)),by rw [UInt8.toNat_ofNat'];exact Nat.mod_eq_of_lt hol⟩;have hbor:bits .or .u8 (yb.toNat:Int) ((2:Int) ^ (y % N % 8) % 256)=(xb.toNat:Int):=by
       have he:((2:Int) ^ (y % N % 8) % 256)=((2 ^ (y % N % 8):Nat):Int):=by
        have:((2 ^ (y % N % 8):Nat):Int)=(2:Int) ^ (y % N % 8):=by simp
        rw [← this];generalize 2 ^ (y % N % 8)=P at *;omega
       rw [he,u8_or_nat _ _ (by omega) (by omega),hxb]
      have hset:=FW.set (W:=w1) (f:=f) (o:=off) HGB.out (by rw [HB.out.len];exact HFIT.out) (p:=y % N / 8) (by rw [HB.out.len];omega) xb;have HYB:=hid hyb;have HXB:=hid hxb;clear hyb hxb hp hol;go_wp2
      go_roundw
      case rel =>
       have hpm:y % N < 8*m:=by rw [← HN.out];exact hqN
       refine ⟨i+1,(y+d) % 4294967296,f.set (y % N / 8) xb,by omega,by go_num,by go_num,hid ?_,hid (bfil_set HB.out hpm HYB.out xb HXB.out),hid fun i' hi'=>?_,by first | rfl | trivial⟩
       ·rw [HY.out,Nat.add_mul,Nat.one_mul,← Nat.add_assoc];omega
       ·by_cases e:i'=i
        ·subst e;have hbp:bpl x0 i'=y:=by unfold bpl;rw [← HD.out,HY.out]
         rw [hbp,← HN.out];exact bitAt_set HYB.out xb HXB.out
        ·exact bitAt_keep HYB.out xb HXB.out (HS.out i' (by omega))
      case measure=>simp [intOf];omega
     ·have hi2:¬ ((i:Int) < (K:Int)):=by omega
      have hik:i=K:=by omega
      go_wp2
      go_roundw
      case rel =>
       refine ⟨j+1,f,by omega,by go_num,hid ⟨HB.out.len,HB.out.last,fun z hz=>?_⟩,by first | rfl | trivial⟩;rw [List.take_add_one,HX0.out] at hz;rcases List.mem_append.1 hz with hz | hz
       ·exact HB.out.all z hz
       ·simp at hz;subst hz;exact fun i' hi'=>HS.out i' (by omega)
      case measure=>simp [intOf];omega
   ·have hjn:j=hs.length:=by omega
    subst hjn;have hi1:¬ ((hs.length:Int) < (hs.length:Int)):=by omega
    rw [List.take_length] at HB;have hg2f:=hg2 f;have hgff:=hgf f;have hsl:∀ w',(Instr.slice 105 (.slice va hs.length vc) none (some (.int .i64 0)) none).run Tryz.prog w'=.ok (.slice va 0 vc) w':=fun w'=>run_slice_hi (P:=Tryz.prog) 105 201 un105 sz201 .i64 va hs.length vc 0 (by omega) w'
    have HE:=hid (HEND.out f HB.out);go_wp2
    go_end0
    exact ⟨rfl,HE.out⟩
end
section
open Go Go.RowKit Go.Shelf
structure FS where
 cs:List (List Nat × List UInt8)
 keys:List Nat
def cbuf (cs:List (List Nat × List UInt8)):List UInt8:=(cs.map Prod.snd).flatten
def coffs (cs:List (List Nat × List UInt8)):List Nat:=(List.range cs.length).map fun i=>(cbuf (cs.take i)).length
structure FR where
 buf:List UInt8
 offs:List Nat
 keys:List Nat
def FS.raw (s:FS):FR:=⟨cbuf s.cs,coffs s.cs,s.keys⟩
def cOk (n:Nat) (c:List Nat × List UInt8):Prop:=(c.1=[]∧c.2=[])∨(c.1≠[]∧BFil c.2 (bm c.1.length n) (bk n) c.1)
def FS.ok (n:Nat) (s:FS):Prop:=(∀ c∈s.cs,cOk n c)∧∀ h∈s.keys,h < 4294967296
theorem cbuf_append (a b:List (List Nat × List UInt8)):cbuf (a++b)=cbuf a++cbuf b:=by simp [cbuf]
theorem cbuf_one (c:List Nat × List UInt8):cbuf [c]=c.2:=by simp [cbuf]
theorem coffs_length (cs:List (List Nat × List UInt8)):(coffs cs).length=cs.length:=by simp [coffs]
theorem coffs_append (cs:List (List Nat × List UInt8)) (c:List Nat × List UInt8):coffs (cs++[c])=coffs cs++[(cbuf cs).length]:=by
 unfold coffs;rw [List.length_append,List.length_singleton,List.range_succ,List.map_append,List.map_singleton];congr 1
 ·apply List.map_congr_left
  intro i hi;have:=List.mem_range.1 hi;rw [List.take_append_of_le_length (by omega)]
 ·rw [List.take_append_of_le_length (Nat.le_refl _),List.take_length]
structure FOwn where
 f:Option Nat
 r:Option Nat
 g:Nat
 h:Option Nat
def FOwn.has (O:FOwn) (k:Nat):Prop:=O.f=some k∨O.r=some k∨O.g=k∨O.h=some k
structure FOwn.dis (O:FOwn) (b:Nat):Prop where
 gb:O.g≠b
 rb:O.r≠some b
 hb:O.h≠some b
 fg:O.f≠some O.g
 rg:O.r≠some O.g
 hg:O.h≠some O.g
 fr:∀ k,O.f=some k→O.r≠some k
 fh:∀ k,O.f=some k→O.h≠some k
 rh:∀ k,O.r=some k→O.h≠some k
structure FB (w:World) (b:Nat) (C:Array Value) (T o n:Nat) (O:FOwn) (s:FR):Prop where
 ub:UB w b C T (o+1) O.f s.buf
 size:o+69≤C.size
 gen:C[o]?=some (.iface 291 (.pointer (some ⟨O.g,0,none⟩)))
 nk:C[o+67]?=some (.int .i64 s.keys.length)
 offs:∃ v,C[o+68]?=some v∧w.ownsRow 0 201 1 v s.offs.length (rv s.offs)∧v.ownBlock=O.r
 gn:∃ v,Gen w O.g n s.keys v∧v.ownBlock=O.h
 dis:O.dis b
theorem FB.lt {w:World} {b:Nat} {C:Array Value} {T o n:Nat} {O:FOwn} {s:FR} (h:FB w b C T o n O s) {k:Nat} (hk:O.has k):k < w.heap.size:=by
 rcases hk with hk | hk | hk | hk
 ·exact (h.ub.lt hk).1
 ·obtain ⟨v,_,ho,e⟩:=h.offs;exact own_lt ho (e.trans hk)
 ·obtain ⟨v,hg,e⟩:=h.gn;exact hk ▸ hg.blk.lt
 ·obtain ⟨v,hg,e⟩:=h.gn;exact own_lt hg.own (e.trans hk)
theorem gen_keep {w w2:World} {g n:Nat} {hs:List Nat} {v:Value} (h:Gen w g n hs v) (hg:w2.heap[g]?=w.heap[g]?) (hv:∀ k,v.ownBlock=some k→w2.heap[k]?=w.heap[k]?):Gen w2 g n hs v :=
 ⟨hg.trans h.blk,own_keep h.own hv,h.ne⟩
theorem FB.keep {w w2:World} {b:Nat} {C C2:Array Value} {T o n:Nat} {O:FOwn} {s:FR} (h:FB w b C T o n O s) (hB:Blk w2 b C2 T) (hs:C2.size=C.size)
  (hC:∀ k,o≤k→k < o+69→C2[k]?=C[k]?) (hF:∀ k,O.has k→w2.heap[k]?=w.heap[k]?):FB w2 b C2 T o n O s:=by
 obtain ⟨v',hv',hr,hro⟩:=h.offs;obtain ⟨v,hg,hgo⟩:=h.gn;exact ⟨h.ub.keep hB hs (fun k h1 h2=>hC k (by omega) (by omega)) (fun k hk=>hF k (.inl hk)),by rw [hs];exact h.size,by rw [hC _ (by omega) (by omega)];exact h.gen,by rw [hC _ (by omega) (by omega)];exact h.nk,
  ⟨v',by rw [hC _ (by omega) (by omega)];exact hv',own_keep hr (fun k hk=>hF k (.inr (.inl (hro.symm.trans hk)))),hro⟩,
  ⟨v,gen_keep hg (hF _ (.inr (.inr (.inl rfl)))) (fun k hk=>hF k (.inr (.inr (.inr (hgo.symm.trans hk))))),hgo⟩,h.dis⟩
def FBTo (b:Nat) (C:Array Value) (T o n:Nat) (O:FOwn) (s':FR) (w w':World):Prop :=
 ∃ C' O',FB w' b C' T o n O' s'∧C'.size=C.size∧(∀ k,¬ (o≤k∧k < o+69)→C'[k]?=C[k]?)∧Fr (fun k=>k=b∨O.has k) w w'∧(∀ k,O'.has k→O.has k∨w.heap.size≤k)
theorem FBTo.refl {w:World} {b:Nat} {C:Array Value} {T o n:Nat} {O:FOwn} {s:FR} (h:FB w b C T o n O s):FBTo b C T o n O s w w :=
 ⟨C,O,h,rfl,fun _ _=>rfl,Fr.refl _ _,fun _ h=>.inl h⟩
theorem FBTo.trans {w w1 w2:World} {b:Nat} {C C1:Array Value} {T o n:Nat} {O O1:FOwn} {s2:FR} (hs:C1.size=C.size)
  (hC:∀ k,¬ (o≤k∧k < o+69)→C1[k]?=C[k]?) (hf:Fr (fun k=>k=b∨O.has k) w w1) (hn:∀ k,O1.has k→O.has k∨w.heap.size≤k)
  (h2:FBTo b C1 T o n O1 s2 w1 w2):FBTo b C T o n O s2 w w2:=by
 obtain ⟨C2,O2,g1,g2,g3,g4,g5⟩:=h2;refine ⟨C2,O2,g1,by omega,fun k h1=>by rw [g3 k h1,hC k h1],hf.trans g4 (fun k hk h=>?_),fun k hk=>?_⟩
 ·rcases h with h | h
  ·exact .inl h
  ·rcases hn k h with h | h
   ·exact .inr h
   ·omega
 ·have:=hf.size;rcases g5 k hk with h | h
  ·exact hn k h
  ·exact .inr (by omega)
theorem FB.genTo {w w':World} {b:Nat} {C:Array Value} {T o n:Nat} {O:FOwn} {s:FR} (h:FB w b C T o n O s) {v:Value} (hvo:v.ownBlock=O.h) {hs':List Nat} (hg:GenTo O.g n v hs' w w') {x:Value} (hx:x=.int .i64 hs'.length) :
  FBTo b C T o n O { s with keys:=hs' } w (w'.setCell ⟨b,o+67,none⟩ x):=by
 subst hx;obtain ⟨v',hg',hf,hn⟩:=hg;have hbl:=h.ub.blk.lt;have hd:=h.dis;have hB1:Blk w' b C T:=(hf.block b hbl (by rintro (e | e);exact hd.gb e.symm;exact hd.hb (hvo.symm.trans e))).trans h.ub.blk;have hB2:=hB1.set (o+67) (.int .i64 hs'.length);have hsz:=h.size;have hC:∀ k,k≠o+67→(C.setIfInBounds (o+67) (.int .i64 hs'.length))[k]?=C[k]?:=fun k hk=>Array.getElem?_setIfInBounds_ne (by omega)
 have hkeep:∀ k,k < w.heap.size→k≠b→k≠O.g→O.h≠some k→(w'.setCell ⟨b,o+67,none⟩ (.int .i64 hs'.length)).heap[k]?=w.heap[k]?:=fun k h1 h2 h3 h4 =>
  (Below.heap_setCell _ _ _ k (by simpa using h2)).trans (hf.block k h1 (by rintro (e | e);exact h3 e;exact h4 (hvo.symm.trans e)))
 obtain ⟨vr,hvr,hro,hre⟩:=h.offs;have hnew:∀ k,v'.ownBlock=some k→O.h=some k∨w.heap.size≤k:=fun k hk=>(hn k hk).imp (fun e=>hvo.symm.trans e) id
 have hold:∀ k,O.has k→k < w.heap.size:=fun k hk=>h.lt hk
 refine ⟨_,{ O with h:=v'.ownBlock },⟨?_,by simpa using h.size,by rw [hC _ (by omega)];exact h.gen,by rw [Array.getElem?_setIfInBounds_self_of_lt (by omega)],
  ⟨vr,by rw [hC _ (by omega)];exact hvr,own_keep hro (fun k hk=>?_),hre⟩,⟨v',?_,rfl⟩,?_⟩,by simp,fun k hk=>hC k (by omega),?_,?_⟩
 ·refine h.ub.keep hB2 (by simp) (fun k h1 h2=>hC k (by omega)) (fun k hk=>hkeep k (h.lt (.inl hk)) (h.ub.lt hk).2 (fun e=>hd.fg (e ▸ hk)) (hd.fh k hk))
 ·have hk':=hre.symm.trans hk;exact hkeep k (own_lt hro hk) (fun e=>hd.rb (e ▸ hk')) (fun e=>hd.rg (e ▸ hk')) (hd.rh k hk')
 ·have hvb:v'.ownBlock≠some b:=fun e=>(hnew b e).elim hd.hb (fun h=>by omega)
  exact gen_keep hg' (Below.heap_setCell _ _ _ _ (by simpa using hd.gb)) (fun k hk=>Below.heap_setCell _ _ _ k (by simp;intro e;exact hvb (e ▸ hk)))
 ·refine ⟨hd.gb,hd.rb,fun e=>(hnew b e).elim hd.hb (fun h=>by omega),hd.fg,hd.rg,hg'.ne,hd.fr,fun k hk e=>?_,fun k hk e=>?_⟩
  ·exact (hnew k e).elim (hd.fh k hk) (fun h'=>by have:=hold k (.inl hk);omega)
  ·exact (hnew k e).elim (hd.rh k hk) (fun h'=>by have:=hold k (.inr (.inl hk));omega)
 ·exact (hf.mono (S':=fun k=>k=b∨O.has k) (fun k _ hk=>by
   rcases hk with e | e
   ·exact .inr (.inr (.inr (.inl e.symm)))
   ·exact .inr (.inr (.inr (.inr (hvo.symm.trans e)))))).setC b (o+67) _ (.inl rfl)
 ·rintro k (hk | hk | hk | hk)
  ·exact .inl (.inl hk)
  ·exact .inl (.inr (.inl hk))
  ·exact .inl (.inr (.inr (.inl hk)))
  ·exact (hnew k hk).imp (fun e=>.inr (.inr (.inr e))) id
theorem fadd_any (w:World) (b o n:Nat) (C:Array Value) (T:Nat) (O:FOwn) (s:FR) (h:FB w b C T o n O s) (a:Option Addr) (m c:Nat) (l:List UInt8) (hl:Sl w a m c l) (hm:m≤4294967294) (hlim:s.keys.length≤67108863) :
  Calls Tryz.prog 45 #[.pointer (some ⟨b,o,none⟩),.slice a m c] w fun e w'=>e=.returned (.tuple #[])∧FBTo b C T o n O { s with keys:=s.keys++[bhash l] } w w':=by
 obtain ⟨v,hg,hgo⟩:=h.gn;have hga:=gadd_any O.g n s.keys v a m c l w hg hl (by omega) (by omega);have h0:=h.ub.blk.cell h.gen;have h67:=h.ub.blk.cell h.nk;have hf67:=h.ub.blk.free (o+67);have hbl:=h.ub.blk.lt;have hB:∀ w',GenTo O.g n v (s.keys++[bhash l]) w w'→Blk w' b C T:=fun w' hx=>by
  obtain ⟨v',_,hf,_⟩:=hx;exact (hf.block b hbl (by rintro (e | e);exact h.dis.gb e.symm;exact h.dis.hb (hgo.symm.trans e))).trans h.ub.blk
 have hend:∀ w',GenTo O.g n v (s.keys++[bhash l]) w w'→FBTo b C T o n O { s with keys:=s.keys++[bhash l] } w (w'.setCell ⟨b,o+67,none⟩ (.int .i64 (s.keys.length+1))):=fun w' hx=>h.genTo hgo hx (by simp)
 have HE:=hid hend;have HBB:=hid hB;have HN:=hid h.nk;clear hend hB hg h hl;generalize s.keys.length=kl at *;go_enter Tryz.func45,Tryz.ntmps45
 go_wp2_with (go_at_call 224;refine hga.mono ?_)
 rintro e w1 ⟨rfl,hx⟩;have h67b:=(HBB.out w1 hx).cell HN.out;have hf67b:=(HBB.out w1 hx).free (o+67);have HF:=hid (HE.out w1 hx);clear hga hx;go_wp2
 go_end0
 exact ⟨rfl,HF.out⟩
theorem fadd_nil (w:World) (b o:Nat) (x:Value) (h0:w.cell? ⟨b,o,none⟩=some .nilIface) :
  Calls Tryz.prog 45 #[.pointer (some ⟨b,o,none⟩),x] w fun e w'=>e=.returned (.tuple #[])∧w'=w:=by
 have he:∀ w:World,(binOp .eql 109 .nilIface .nilIface).run Tryz.prog w=.ok (.bool true) w:=fun _=>by rfl
 go_enter Tryz.func45,Tryz.ntmps45
 go_wp2
 go_returns
 exact ⟨rfl,rfl⟩
theorem fflush_nil (w:World) (b o:Nat) (x:Value) (h0:w.cell? ⟨b,o,none⟩=some .nilIface) :
  Calls Tryz.prog 40 #[.pointer (some ⟨b,o,none⟩),x] w fun e w'=>e=.returned (.tuple #[])∧w'=w:=by
 have he:∀ w:World,(binOp .eql 109 .nilIface .nilIface).run Tryz.prog w=.ok (.bool true) w:=fun _=>by rfl
 go_enter Tryz.func40,Tryz.ntmps40
 go_wp2
 go_returns
 exact ⟨rfl,rfl⟩
theorem ffinish_nil (w:World) (b o:Nat) (h0:w.cell? ⟨b,o,none⟩=some .nilIface) :
  Calls Tryz.prog 48 #[.pointer (some ⟨b,o,none⟩)] w fun e w'=>e=.returned (.tuple #[])∧w'=w:=by
 have he:∀ w:World,(binOp .eql 109 .nilIface .nilIface).run Tryz.prog w=.ok (.bool true) w:=fun _=>by rfl
 go_enter Tryz.func48,Tryz.ntmps48
 go_wp2
 go_returns
 exact ⟨rfl,rfl⟩
end
end Go.Proofs.YtmkdpjicgjhhjaaGreatDoor
