/- Part 4 of the proof of FnTableComesBack: contracts and lemmas, each under the conditions that it states. Texts: Buf2, Vint2. -/
import Derived.Test.YtmkdpjicgjhhjaaGreatDoorC03
namespace Go.Proofs.YtmkdpjicgjhhjaaGreatDoor
open Go.Lib (hid)
set_option maxRecDepth 100000
set_option linter.all false
section
open Go Go.RowKit Go.Shelf
theorem grow_any (w:World) (b o n:Nat) (C:Array Value) (T:Nat) (F:Option Nat) (l:List UInt8) (h:UB w b C T o F l) (hlim:l.length+n≤4294967296) :
  Calls Tryz.prog 118 #[.pointer (some ⟨b,o,none⟩),.int .i64 n] w fun e w'=>e=.returned (.int .i64 l.length)∧Grew b C T o n F l w w':=by
 obtain ⟨v,hv,hb⟩:=h.buf;obtain ⟨a,c,rfl,hlc,hc,_⟩:=hb.form;by_cases h1:l.length+n≤c
 ·exact grow_fits w b o n C T F l h a c hv h1 hc
 ·by_cases h2:a=none∧n≤64
  ·obtain ⟨rfl,h64⟩:=h2;have hs:=h.sl hv;have hc0:=hs.nil rfl;subst hc0;have:l=[]:=List.length_eq_zero_iff.1 (by omega);subst this;exact grow_boot w b o n C T F h hv h64 (by simp at h1;omega)
  ·exact grow_far w b o n C T F l h a c hv (by omega) hlim (fun e=>by
    by_cases h3:n≤64
    ·exact absurd ⟨e,h3⟩ h2
    ·omega)
structure Home (w:World) (b:Nat) (C:Array Value) (T o:Nat) (F:Option Nat) (c:Nat) (g go:Nat) (G:Array Value) (E:Nat):Prop where
 blk:Blk w g G E
 fit:go+c≤G.size
 by_:∀ j,j < c→∃ x:UInt8,G[go+j]?=some (.int .u8 x.toNat)
 alt:(g=b∧G=C∧E=T∧go=o+2∧F=none∧c=64)∨(F=some g∧g≠b∧go=0∧E=5∧G.size=c)
theorem UB.home {w:World} {b:Nat} {C:Array Value} {T o:Nat} {F:Option Nat} {l:List UInt8} {a:Option Addr} {c:Nat} (h:UB w b C T o F l) (hv:C[o]?=some (.slice a l.length c)) (hl:0 < l.length) :
  ∃ g go G E,a=some ⟨g,go,none⟩∧Home w b C T o F c g go G E∧(∀ j (h:j < l.length),G[go+j]?=some (.int .u8 (l[j]).toNat))∧c≤12884901888:=by
 obtain ⟨v,hv',hb⟩:=h.buf;rw [hv] at hv';obtain rfl:=Option.some.inj hv';rcases hb with ⟨hs,rfl,rfl⟩ | ⟨hs,h64,rfl,hc⟩ | ⟨g,cap,G,hs,rfl,hgb,hG,hsz,hl,hcap,hby,hc⟩
 ·simp at hl
 ·simp at hs;obtain ⟨rfl,rfl⟩:=hs;exact ⟨b,o+2,C,T,rfl,⟨h.blk,by have:=h.room;omega,h.boot,.inl ⟨rfl,rfl,rfl,rfl,rfl,rfl⟩⟩,hc,by omega⟩
 ·simp at hs;obtain ⟨rfl,rfl⟩:=hs;exact ⟨g,0,G,5,rfl,⟨hG,by omega,fun j hj=>by rw [Nat.zero_add];exact hby j hj,.inr ⟨rfl,hgb,rfl,rfl,hsz⟩⟩,fun j hj=>by rw [Nat.zero_add];exact hc j hj,hcap⟩
theorem UB.rehome {w w':World} {b:Nat} {C:Array Value} {T o:Nat} {F:Option Nat} {l:List UInt8} {c g go E:Nat} {G G':Array Value} (h:UB w b C T o F l) (hv:C[o]?=some (.slice (some ⟨g,go,none⟩) l.length c))
  (hm:Home w b C T o F c g go G E) (hlc:l.length≤c) (hc:c≤12884901888) (hsz:G'.size=G.size) (hout:∀ k,¬ (go≤k∧k < go+c)→G'[k]?=G[k]?)
  (hby:∀ j,j < c→∃ x:UInt8,G'[go+j]?=some (.int .u8 x.toNat)) (l':List UInt8) (hlen:l'.length=l.length) (hl':∀ j (h:j < l'.length),G'[go+j]?=some (.int .u8 (l'[j]).toNat))
  (hB:Blk w' g G' E) (hk:∀ k,k≠g→w'.heap[k]?=w.heap[k]?) :
  ∃ C',UB w' b C' T o F l'∧C'.size=C.size∧(∀ k,¬ (o+2≤k∧k < o+66)→C'[k]?=C[k]?):=by
 rcases hm.alt with ⟨rfl,rfl,rfl,rfl,rfl,rfl⟩ | ⟨rfl,hgb,rfl,rfl,hGs⟩
 ·have ho:∀ k,¬ (o+2≤k∧k < o+66)→G'[k]?=G[k]?:=fun k hk=>hout k (by omega)
  refine ⟨G',⟨hB,by have:=h.room;omega,hby,by rw [ho _ (by omega)];exact h.off,_,by rw [ho _ (by omega)];exact hv,.inr (.inl ⟨by rw [hlen],by omega,rfl,hl'⟩)⟩,hsz,ho⟩
 ·refine ⟨C,⟨(hk b (Ne.symm hgb)).trans h.blk,h.room,h.boot,h.off,_,hv,.inr (.inr ⟨g,c,G',by rw [hlen],rfl,hgb,hB,by omega,by omega,hc,fun j hj=>?_,fun j hj=>?_⟩)⟩,rfl,fun _ _=>rfl⟩
  ·have:=hby j hj;rwa [Nat.zero_add] at this
  ·have:=hl' j hj;rwa [Nat.zero_add] at this
theorem UB.put {w:World} {b:Nat} {C:Array Value} {T o:Nat} {F:Option Nat} {l:List UInt8} {c g go E:Nat} {G:Array Value} (h:UB w b C T o F l) (hv:C[o]?=some (.slice (some ⟨g,go,none⟩) l.length c))
  (hm:Home w b C T o F c g go G E) (hlc:l.length≤c) (hc:c≤12884901888) (hl:∀ j (h:j < l.length),G[go+j]?=some (.int .u8 (l[j]).toNat)) (j0:Nat) (cs:List UInt8) (hj:j0+cs.length≤l.length) :
  ∃ C',UB (w.setRow g (splice G (go+j0) (bv cs))) b C' T o F (l.take j0++cs++l.drop (j0+cs.length))∧C'.size=C.size∧(∀ k,¬ (o+2≤k∧k < o+66)→C'[k]?=C[k]?):=by
 have hfit:=hm.fit;have hf:go+j0+(bv cs).length≤G.size:=by rw [bv_length];omega
 have hcs:∀ j (h:j < cs.length),(splice G (go+j0) (bv cs))[go+j0+j]?=some (.int .u8 (cs[j]).toNat):=fun j hj=>by
  rw [splice_in hf (by rw [bv_length];exact hj),bv_get,List.getElem?_eq_getElem hj];rfl
 refine h.rehome hv hm hlc hc (splice_size hf) (fun k hk=>splice_out hf (by rw [bv_length];omega)) (fun j hj=>?_) _ (by simp;omega) (fun j hj'=>?_) (hm.blk.setRow _) (fun k hk=>setRow_other w g k _ hk)
 ·by_cases e:j0≤j∧j < j0+cs.length
  ·have:=hcs (j - j0) (by omega);rw [show go+j0+(j - j0)=go+j by omega] at this;exact ⟨_,this⟩
  ·rw [splice_out hf (by rw [bv_length];omega)];exact hm.by_ j hj
 ·simp at hj';by_cases e1:j < j0
  ·rw [splice_out hf (by rw [bv_length];omega),List.getElem_append_left (by simp;omega),List.getElem_append_left (by simp;omega),List.getElem_take];exact hl j (by omega)
  ·by_cases e2:j < j0+cs.length
   ·have:=hcs (j - j0) (by omega);rw [show go+j0+(j - j0)=go+j by omega] at this;rw [this,List.getElem_append_left (by simp;omega),List.getElem_append_right (by simp;omega)];simp [Nat.min_eq_left (show j0≤l.length by omega)]
   ·rw [splice_out hf (by rw [bv_length];omega),List.getElem_append_right (by simp;omega)];rw [hl j (by omega),List.getElem_drop];have hx:(List.take j0 l++cs).length=j0+cs.length:=by simp;omega
    have hy:l[j]?=l[j0+cs.length+(j - (List.take j0 l++cs).length)]?:=by rw [hx,show j0+cs.length+(j - (j0+cs.length))=j by omega]
    rw [List.getElem?_eq_getElem (by omega),List.getElem?_eq_getElem (by omega)] at hy;rw [Option.some.inj hy]
def BufTo (b:Nat) (C:Array Value) (T o:Nat) (F:Option Nat) (l':List UInt8) (w w':World):Prop :=
 ∃ C' F',UB w' b C' T o F' l'∧C'.size=C.size∧(∀ k,¬ (o≤k∧k < o+66)→C'[k]?=C[k]?)∧Fr (fun k=>k=b∨F=some k) w w'∧(∀ g,F'=some g→F=some g∨w.heap.size≤g)
def AwayB (b o:Nat) (F:Option Nat) (a:Option Addr) (n:Nat):Prop:=∀ g p,a=some ⟨g,p,none⟩→0 < n→F≠some g∧(g=b→p+n≤o∨o+66≤p)
theorem AwayB.sl {b o n c:Nat} {F:Option Nat} {a:Option Addr} {w w':World} {l:List UInt8} {C C':Array Value} {T:Nat} (h:AwayB b o F a n) (hs:Sl w a n c l) (hB:Blk w b C T) (hB':Blk w' b C' T)
  (hC:∀ k,¬ (o≤k∧k < o+66)→C'[k]?=C[k]?) (hf:Fr (fun k=>k=b∨F=some k) w w'):Sl w' a n c l :=
 hs.fr' fun g p ha j hj=>by
  obtain ⟨hF,hb⟩:=h g p ha (by omega);by_cases e:g=b
  ·subst e;rw [hB'.cell',hB.cell',hC _ (by have:=hb rfl;omega)]
  ·obtain ⟨g',p',ha',hc⟩:=hs.cell j (by have:=hs.len;omega);rw [ha] at ha';simp only [Option.some.injEq,Addr.mk.injEq] at ha';obtain ⟨rfl,rfl,_⟩:=ha';exact hf.cell (lt_of_cell hc) (by simp [e,hF])
theorem write_any (w:World) (b o:Nat) (C:Array Value) (T:Nat) (F:Option Nat) (l:List UInt8) (h:UB w b C T o F l) (a:Option Addr) (n c:Nat) (p:List UInt8) (hp:Sl w a n c p)
  (haway:AwayB b o F a n) (hlim:l.length+n≤4294967296) :
  Calls Tryz.prog 91 #[.pointer (some ⟨b,o,none⟩),.slice a n c] w fun e w'=>e=.returned (.tuple #[.int .i64 n,.nilIface])∧BufTo b C T o F (l++p) w w':=by
 have hg:=grow_any w b o n C T F l h hlim;have hpl:=hp.len;go_enter Tryz.func91,Tryz.ntmps91
 go_wp2_with (go_at_call 118;refine hg.mono ?_)
 rintro e w1 ⟨rfl,C1,F1,junk,hj,hu,hs1,hC1,hfr,hF1⟩;obtain ⟨v,hv,hb⟩:=hu.buf;obtain ⟨a1,c1,rfl,hlc,hc,_⟩:=hb.form;have hf0:∀ k,¬ (o≤k∧k < o+66)→C1[k]?=C[k]?:=fun k hk=>hC1 k (by omega)
 have hpw:Sl w1 a n c p:=haway.sl hp h.blk hu.blk hf0 (hfr.mono fun k _ hk=>.inl hk);have h0:=hu.blk.cell hv;have hlen:(l++junk).length=l.length+n:=by simp [hj]
 rw [hlen] at h0 hv hlc;have hsl:∀ w,(Instr.slice 29 (.slice a1 (l.length+n) c1) (some (.int .i64 l.length)) none none).run Tryz.prog w=.ok (.slice (cutA a1 c1 l.length) n (c1 - l.length)) w:=fun w=>by
  have:=run_slice_lo (P:=Tryz.prog) 29 5 un29 sz5 .i64 a1 (l.length+n) c1 l.length (by omega) w;rwa [show l.length+n - l.length=n by omega] at this
 rcases Nat.eq_zero_or_pos n with hn | hn
 ·subst hn;have hp0:p=[]:=List.length_eq_zero_iff.1 hpl;have hj0:junk=[]:=List.length_eq_zero_iff.1 hj;subst hp0 hj0;have hcopy:∀ k,(Builtin.copy_ #[29,29] 3 #[.slice (cutA a1 c1 l.length) 0 (c1 - l.length),.slice a 0 c]).run Tryz.prog (w1.drewN k)=.ok (.int .i64 0) (w1.drewN k):=fun k=>run_copy_zero _ 29 29 3 5 un29 sz5 _ _ _ _ _
  have hcopy':(Builtin.copy_ #[29,29] 3 #[.slice (cutA a1 c1 l.length) 0 (c1 - l.length),.slice a 0 c]).run Tryz.prog w1=.ok (.int .i64 0) w1:=run_copy_zero _ 29 29 3 5 un29 sz5 _ _ _ _ _;have hend:BufTo b C T o F (l++[]) w w1:=⟨C1,F1,hu,hs1,hf0,hfr.mono fun k _ hk=>.inl hk,hF1⟩;have hjn:=hlen;clear hg hb hpw hp hu hfr hF1 hC1 hf0 hv hs1 h hlen hj hpl;simp only [Nat.add_zero] at *;generalize l.length=m at *
  go_wp2
  go_ret2
  exact ⟨rfl,hend⟩
 ·obtain ⟨g,go,G,E,rfl,hm,hl,hc1⟩:=hu.home (by rw [hlen];exact hv) (by omega);obtain ⟨C2,hu2,hs2,hC2⟩:=hu.put (by rw [hlen];exact hv) hm (by omega) hc1 hl l.length p (by omega);have hsp:(l++junk).take l.length++p++(l++junk).drop (l.length+p.length)=l++p:=by
   rw [List.take_left,List.drop_eq_nil_of_le (by omega),List.append_nil]
  rw [hsp] at hu2;rw [cutA_some (by omega)] at hsl;have hcopy:∀ k,(Builtin.copy_ #[29,29] 3 #[.slice (some ⟨g,go+l.length,none⟩) n (c1 - l.length),.slice a n c]).run Tryz.prog (w1.drewN k)=.ok (.int .i64 n) ((w1.setRow g (splice G (go+l.length) (bv p))).drewN k) :=
   fun k=>run_copy_sl 29 29 3 5 un29 sz5 (hm.blk.drewN k) (hpw.fr (S:=fun _=>False) ((Fr.refl _ w1).drewN k) (fun _ _ h=>h)) (Nat.le_refl _) (by have:=hm.fit;omega)
  have hcopy':=hcopy 0;simp only [World.drewN_zero] at hcopy';have hend:BufTo b C T o F (l++p) w (w1.setRow g (splice G (go+l.length) (bv p))):=by
   refine ⟨C2,F1,hu2,by omega,fun k hk=>by rw [hC2 k (by omega)];exact hf0 k hk,?_,hF1⟩;refine (hfr.mono (S':=fun k=>k=b∨F=some k) fun k _ hk=>.inl hk).setRow (fun hlt=>?_) _;rcases hm.alt with ⟨rfl,_⟩ | ⟨hF,_⟩
   ·exact .inl rfl
   ·rcases hF1 g hF with h | h
    ·exact .inr h
    ·omega
  clear hg hb hpw hp hu hfr hF1 hC1 hf0 hv hs1 h hlen hj hpl hu2 hs2 hC2 hsp hl hm haway;generalize l.length=m at *;go_wp2
  go_ret2
  exact ⟨rfl,hend⟩
def Alloced (b:Nat) (C:Array Value) (T o n:Nat) (F:Option Nat) (l:List UInt8) (w:World) (e:Ending) (w':World):Prop :=
 ∃ C' F',∃ junk:List UInt8,∃ g go c G E,e=.returned (.slice (some ⟨g,go+l.length,none⟩) n (c - l.length))∧junk.length=n∧UB w' b C' T o F' (l++junk)∧C'[o]?=some (.slice (some ⟨g,go,none⟩) (l++junk).length c) ∧
  Home w' b C' T o F' c g go G E∧l.length+n≤c∧c≤12884901888∧(∀ j (h:j < (l++junk).length),G[go+j]?=some (.int .u8 ((l++junk)[j]).toNat)) ∧
  C'.size=C.size∧(∀ k,k≠o→C'[k]?=C[k]?)∧Fr (fun k=>k=b) w w'∧(∀ g,F'=some g→F=some g∨w.heap.size≤g)
theorem alloc_any (w:World) (b o n:Nat) (C:Array Value) (T:Nat) (F:Option Nat) (l:List UInt8) (h:UB w b C T o F l) (hlim:l.length+n≤4294967296) (hn:0 < n) :
  Calls Tryz.prog 93 #[.pointer (some ⟨b,o,none⟩),.int .i64 n] w fun e w'=>Alloced b C T o n F l w e w':=by
 have hg:=grow_any w b o n C T F l h hlim;have hneg:decide ((n:Int) < 0)=false:=by simp
 go_enter Tryz.func93,Tryz.ntmps93
 go_wp2_with (go_at_call 118;refine hg.mono ?_)
 rintro e w1 ⟨rfl,C1,F1,junk,hj,hu,hs1,hC1,hfr,hF1⟩;obtain ⟨v,hv,hb⟩:=hu.buf;obtain ⟨a1,c1,rfl,hlc,hc,_⟩:=hb.form;have h0:=hu.blk.cell hv;have hlen:(l++junk).length=l.length+n:=by simp [hj]
 obtain ⟨g,go,G,E,rfl,hm,hl,hc1⟩:=hu.home hv (by omega);have hend:Alloced b C T o n F l w (.returned (.slice (some ⟨g,go+l.length,none⟩) n (c1 - l.length))) w1:=⟨C1,F1,junk,g,go,c1,G,E,rfl,hj,hu,hv,hm,by omega,hc,hl,hs1,hC1,hfr,hF1⟩;rw [hlen] at h0;have hsl:∀ w,(Instr.slice 29 (.slice (some ⟨g,go,none⟩) (l.length+n) c1) (some (.int .i64 l.length)) none none).run Tryz.prog w=.ok (.slice (some ⟨g,go+l.length,none⟩) n (c1 - l.length)) w:=fun w=>by
  have:=run_slice_lo (P:=Tryz.prog) 29 5 un29 sz5 .i64 (some ⟨g,go,none⟩) (l.length+n) c1 l.length (by omega) w;rwa [show l.length+n - l.length=n by omega,cutA_some (by omega)] at this
 clear hg hs1 hb hm hl hu hC1 hfr hF1 hv h hlen hj;generalize l.length=m at *;go_wp2
 go_ret
 exact hend
theorem writeByte_any (w:World) (b o:Nat) (C:Array Value) (T:Nat) (F:Option Nat) (l:List UInt8) (h:UB w b C T o F l) (x:UInt8) (hlim:l.length+1≤4294967296) :
  Calls Tryz.prog 95 #[.pointer (some ⟨b,o,none⟩),.int .u8 x.toNat] w fun e w'=>e=.returned .nilIface∧BufTo b C T o F (l++[x]) w w':=by
 have hg:=grow_any w b o 1 C T F l h hlim;go_enter Tryz.func95,Tryz.ntmps95
 go_wp2_with (go_at_call 118;refine hg.mono ?_)
 rintro e w1 ⟨rfl,C1,F1,junk,hj,hu,hs1,hC1,hfr,hF1⟩;obtain ⟨v,hv,hb⟩:=hu.buf;obtain ⟨a1,c1,rfl,hlc,hc,_⟩:=hb.form;have hf0:∀ k,¬ (o≤k∧k < o+66)→C1[k]?=C[k]?:=fun k hk=>hC1 k (by omega)
 have h0:=hu.blk.cell hv;have hlen:(l++junk).length=l.length+1:=by simp [hj]
 obtain ⟨g,go,G,E,rfl,hm,hl,hc1⟩:=hu.home hv (by omega);obtain ⟨C2,hu2,hs2,hC2⟩:=hu.put hv hm (by omega) hc1 hl l.length [x] (by simp [hj]);have hsp:(l++junk).take l.length++[x]++(l++junk).drop (l.length+[x].length)=l++[x]:=by
  rw [List.take_left,List.drop_eq_nil_of_le (by simp [hj]),List.append_nil]
 rw [hsp] at hu2;have hend:BufTo b C T o F (l++[x]) w (w1.setRow g (splice G (go+l.length) (bv [x]))):=by
  refine ⟨C2,F1,hu2,by omega,fun k hk=>by rw [hC2 k (by omega)];exact hf0 k hk,?_,hF1⟩;refine (hfr.mono (S':=fun k=>k=b∨F=some k) fun k _ hk=>.inl hk).setRow (fun hlt=>?_) _;rcases hm.alt with ⟨rfl,_⟩ | ⟨hF,_⟩
  ·exact .inl rfl
  ·rcases hF1 g hF with h | h
   ·exact .inr h
   ·omega
 have hfit:=hm.fit;have hset:splice G (go+l.length) (bv [x])=G.setIfInBounds (go+l.length) (.int .u8 x.toNat):=by
  apply Array.ext_getElem?
  intro i;have hf:go+l.length+(bv [x]).length≤G.size:=by rw [bv_length];simp;omega
  by_cases e:i=go+l.length
  ·subst e;have:=splice_in hf (j:=0) (by simp [bv_length]);rw [Nat.add_zero] at this;rw [this,Array.getElem?_setIfInBounds_self_of_lt (by omega),bv_get];rfl
  ·rw [splice_out hf (by rw [bv_length];simp;omega),Array.getElem?_setIfInBounds_ne (by omega)]
 rw [hset,← setCell_eq_setRow w1 g (go+l.length) G E (0,0) _ hm.blk] at hend;obtain ⟨x0,hx0⟩:=hm.by_ l.length (by omega);have hcx:=hm.blk.cell hx0;have hfx:=hm.blk.free (go+l.length);rw [hlen] at h0;clear hg hs1 hb hm hl hu hC1 hfr hF1 hv h hlen hj hu2 hs2 hC2 hsp hf0 hset hx0;generalize l.length=m at *;have hi1:((m:Int) < ((m+1:Nat):Int)):=by omega
 go_wp2
 go_ret
 exact ⟨rfl,hend⟩
theorem bytes_any (w:World) (b o:Nat) (C:Array Value) (T:Nat) (F:Option Nat) (l:List UInt8) (h:UB w b C T o F l) (a:Option Addr) (c:Nat) (hv:C[o]?=some (.slice a l.length c)) :
  Calls Tryz.prog 96 #[.pointer (some ⟨b,o,none⟩)] w fun e w'=>e=.returned (.slice a l.length c)∧∃ k,w'=w.drewN k:=by
 have h0:=h.blk.cell hv;have h1:=h.blk.cell h.off;have hsz:∀ w',(Instr.slice 29 (.slice a l.length c) (some (.int .i64 0)) none none).run Tryz.prog w'=.ok (.slice a l.length c) w':=fun w'=>run_slice_z (P:=Tryz.prog) 29 5 un29 sz5 .i64 a _ c w'
 clear hv h;generalize l.length=m at *;go_enter Tryz.func96,Tryz.ntmps96
 go_wp2
 go_quiet (fail)
 go_wp2
 go_ret
 exact ⟨rfl,_,rfl⟩
theorem reset_any (w:World) (b o:Nat) (C:Array Value) (T:Nat) (F:Option Nat) (l:List UInt8) (h:UB w b C T o F l) :
  Calls Tryz.prog 119 #[.pointer (some ⟨b,o,none⟩)] w fun e w'=>e=.returned (.tuple #[])∧∃ C',UB w' b C' T o F []∧C'.size=C.size∧(∀ k,k≠o→C'[k]?=C[k]?)∧Fr (fun k=>k=b) w w':=by
 have ht:=truncate_zero w b o C T F l h;go_enter Tryz.func119,Tryz.ntmps119
 go_wp2_with (go_at_call 126;refine ht.mono ?_)
 rintro e w1 ⟨rfl,hx⟩;go_wp2
 go_end0
 exact ⟨rfl,hx⟩
end
section
open Go Go.RowKit Go.Shelf
theorem byte_eq_iff (x y:UInt8):((x.toNat:Int) == (y.toNat:Int))=decide (x=y):=by
 rw [Bool.eq_iff_iff];simp only [beq_iff_eq,decide_eq_true_eq];constructor
 ·intro h;exact UInt8.toNat_inj.1 (by omega)
 ·intro h;rw [h]
set_option maxHeartbeats 1000000 in
theorem shared_ge (b1 o1 b2 o2 n1 c1 n2 c2:Nat) (l1 l2:List UInt8) (w:World) (h1:Sl w (some ⟨b1,o1,none⟩) n1 c1 l1) (h2:Sl w (some ⟨b2,o2,none⟩) n2 c2 l2) (hb2:n2≤4294967296) (hle:n1≤n2) :
  Calls Tryz.prog 89 #[.slice (some ⟨b1,o1,none⟩) n1 c1,.slice (some ⟨b2,o2,none⟩) n2 c2] w fun e w'=>e=.returned (.int .i64 (cpl l1 l2))∧∃ k,w'=w.drewN k:=by
 have hl1:=h1.len;have hl2:=h2.len;have hd:decide ((n2:Int) < n1)=false:=by simp;omega
 have hfin:∀ i:Nat,i≤n1→(∀ j,j < i→l1[j]?=l2[j]?)→(i < n1→l1[i]?≠l2[i]?)→cpl l1 l2=i:=fun i hi hp hn=>cpl_eq l1 l2 i (by omega) (by omega) hp (fun ha hb=>hn (by omega))
 have hC1:=fun i (hi:i < n1)=>h1.get (j:=i) (by omega)
 have hC2:=fun i (hi:i < n1)=>h2.get (j:=i) (by omega)
 have HF:=hid hfin;have HC1:=hid hC1;have HC2:=hid hC2;clear hfin hC1 hC2 h1 h2 hl1 hl2;go_enter Tryz.func89,Tryz.ntmps89
 go_wp2
 go_loopw [5] (fun v wr=>∃ i:Nat,i≤n1∧v=.int .i64 i∧Hid (∀ j,j < i→l1[j]?=l2[j]?)∧∃ k,wr=w.drewN k) (fun v _=>n1 - (intOf v).toNat)
 case atStart=>exact ⟨0,Nat.zero_le _,rfl,hid (fun j hj=>by omega),0,rfl⟩
 case round =>
  obtain ⟨i,hi,rfl,hp,k,rfl⟩:=hrel;by_cases hlt:i < n1
  ·obtain ⟨x,hx1',hc1⟩:=HC1.out i hlt;obtain ⟨y,hx2',hc2⟩:=HC2.out i hlt;have hx1:=hid hx1';have hx2:=hid hx2';clear hx1' hx2';have hi1:(i:Int) < (n1:Int):=by omega
   have hi2:(i:Int) < (n2:Int):=by omega
   have hi0:(0:Int)≤(i:Int):=by omega
   by_cases hxy:x=y
   ·have hbe:((x.toNat:Int) == (y.toNat:Int))=true:=by rw [byte_eq_iff];simp [hxy]
    have hpn:Hid (∀ j,j < i+1→l1[j]?=l2[j]?):=hid fun j hj=>by
     by_cases e:j=i
     ·subst e;rw [hx1.out,hx2.out,hxy]
     ·exact hp.out j (by omega)
    clear hxy;go_wp2
    go_quiet (fail)
    go_wp2
    go_roundw
    case rel=>exact ⟨i+1,by omega,by go_num,hpn,_,rfl⟩
    case measure=>simp [intOf];omega
   ·have hbe:((x.toNat:Int) == (y.toNat:Int))=false:=by rw [byte_eq_iff];simp [hxy]
    have hres:=HF.out i hi hp.out (fun _=>by rw [hx1.out,hx2.out];simpa using hxy);have HR:=hid hres;clear hxy hres;go_wp2
    go_quiet (fail)
    go_wp2
    go_ret
    exact ⟨by rw [HR.out];rfl,drw _ _ _⟩
  ·have hres:=HF.out i hi hp.out (fun h=>absurd h hlt);have HR:=hid hres;have hle2:decide ((i:Int) < (n1:Int))=false:=by simp;omega
   clear hres;go_wp2
   go_quiet (fail)
   go_wp2
   go_ret
   exact ⟨by rw [HR.out];rfl,drw _ _ _⟩
set_option maxHeartbeats 1000000 in
theorem shared_lt (b1 o1 b2 o2 n1 c1 n2 c2:Nat) (l1 l2:List UInt8) (w:World) (h1:Sl w (some ⟨b1,o1,none⟩) n1 c1 l1) (h2:Sl w (some ⟨b2,o2,none⟩) n2 c2 l2) (hb1:n1≤4294967296) (hle:n2 < n1) :
  Calls Tryz.prog 89 #[.slice (some ⟨b1,o1,none⟩) n1 c1,.slice (some ⟨b2,o2,none⟩) n2 c2] w fun e w'=>e=.returned (.int .i64 (cpl l1 l2))∧∃ k,w'=w.drewN k:=by
 have hl1:=h1.len;have hl2:=h2.len;have hd:decide ((n2:Int) < n1)=true:=by simp;omega
 have hfin:∀ i:Nat,i≤n2→(∀ j,j < i→l1[j]?=l2[j]?)→(i < n2→l1[i]?≠l2[i]?)→cpl l1 l2=i:=fun i hi hp hn=>cpl_eq l1 l2 i (by omega) (by omega) hp (fun ha hb=>hn (by omega))
 have hC1:=fun i (hi:i < n2)=>h1.get (j:=i) (by omega)
 have hC2:=fun i (hi:i < n2)=>h2.get (j:=i) (by omega)
 have HF:=hid hfin;have HC1:=hid hC1;have HC2:=hid hC2;clear hfin hC1 hC2 h1 h2 hl1 hl2;go_enter Tryz.func89,Tryz.ntmps89
 go_wp2
 go_loopw [5] (fun v wr=>∃ i:Nat,i≤n2∧v=.int .i64 i∧Hid (∀ j,j < i→l1[j]?=l2[j]?)∧∃ k,wr=w.drewN k) (fun v _=>n2 - (intOf v).toNat)
 case atStart=>exact ⟨0,Nat.zero_le _,rfl,hid (fun j hj=>by omega),0,rfl⟩
 case round =>
  obtain ⟨i,hi,rfl,hp,k,rfl⟩:=hrel;by_cases hlt:i < n2
  ·obtain ⟨x,hx1',hc1⟩:=HC1.out i hlt;obtain ⟨y,hx2',hc2⟩:=HC2.out i hlt;have hx1:=hid hx1';have hx2:=hid hx2';clear hx1' hx2';have hi1:(i:Int) < (n1:Int):=by omega
   have hi2:(i:Int) < (n2:Int):=by omega
   have hi0:(0:Int)≤(i:Int):=by omega
   by_cases hxy:x=y
   ·have hbe:((x.toNat:Int) == (y.toNat:Int))=true:=by rw [byte_eq_iff];simp [hxy]
    have hpn:Hid (∀ j,j < i+1→l1[j]?=l2[j]?):=hid fun j hj=>by
     by_cases e:j=i
     ·subst e;rw [hx1.out,hx2.out,hxy]
     ·exact hp.out j (by omega)
    clear hxy;go_wp2
    go_quiet (fail)
    go_wp2
    go_roundw
    case rel=>exact ⟨i+1,by omega,by go_num,hpn,_,rfl⟩
    case measure=>simp [intOf];omega
   ·have hbe:((x.toNat:Int) == (y.toNat:Int))=false:=by rw [byte_eq_iff];simp [hxy]
    have hres:=HF.out i hi hp.out (fun _=>by rw [hx1.out,hx2.out];simpa using hxy);have HR:=hid hres;clear hxy hres;go_wp2
    go_quiet (fail)
    go_wp2
    go_ret
    exact ⟨by rw [HR.out];rfl,drw _ _ _⟩
  ·have hres:=HF.out i hi hp.out (fun h=>absurd h hlt);have HR:=hid hres;have hle2:decide ((i:Int) < (n2:Int))=false:=by simp;omega
   clear hres;go_wp2
   go_quiet (fail)
   go_wp2
   go_ret
   exact ⟨by rw [HR.out];rfl,drw _ _ _⟩
set_option maxHeartbeats 1000000 in
theorem shared_e1 (a1 a2:Option Addr) (m c1 c2:Nat) (w:World) :
  Calls Tryz.prog 89 #[.slice a1 0 c1,.slice a2 m c2] w fun e w'=>e=.returned (.int .i64 0)∧∃ k,w'=w.drewN k:=by
 have hd:decide ((m:Int) < 0)=false:=by simp
 go_enter Tryz.func89,Tryz.ntmps89
 go_wp2
 go_loopw [5] (fun v wr=>v=.int .i64 0∧wr=w) (fun v _=>0)
 case atStart=>exact ⟨rfl,rfl⟩
 case round =>
  obtain ⟨rfl,rfl⟩:=hrel;go_wp2
  go_quiet (fail)
  go_wp2
  go_ret
  exact ⟨rfl,_,rfl⟩
set_option maxHeartbeats 1000000 in
theorem shared_e2 (a1 a2:Option Addr) (m c1 c2:Nat) (w:World) (hm:0 < m) :
  Calls Tryz.prog 89 #[.slice a1 m c1,.slice a2 0 c2] w fun e w'=>e=.returned (.int .i64 0)∧∃ k,w'=w.drewN k:=by
 have hd:decide ((0:Int) < m)=true:=by simp;omega
 go_enter Tryz.func89,Tryz.ntmps89
 go_wp2
 go_loopw [5] (fun v wr=>v=.int .i64 0∧wr=w) (fun v _=>0)
 case atStart=>exact ⟨rfl,rfl⟩
 case round =>
  obtain ⟨rfl,rfl⟩:=hrel;go_wp2
  go_quiet (fail)
  go_wp2
  go_ret
  exact ⟨rfl,_,rfl⟩
set_option maxHeartbeats 1000000 in
theorem shared_e3 (a1 a2:Option Addr) (c1 c2:Nat) (w:World) :
  Calls Tryz.prog 89 #[.slice a1 0 c1,.slice a2 0 c2] w fun e w'=>e=.returned (.int .i64 0)∧∃ k,w'=w.drewN k:=by
 have hd:decide ((0:Int) < 0)=false:=by simp
 go_enter Tryz.func89,Tryz.ntmps89
 go_wp2
 go_loopw [5] (fun v wr=>v=.int .i64 0∧wr=w) (fun v _=>0)
 case atStart=>exact ⟨rfl,rfl⟩
 case round =>
  obtain ⟨rfl,rfl⟩:=hrel;go_wp2
  go_quiet (fail)
  go_wp2
  go_ret
  exact ⟨rfl,_,rfl⟩
theorem shared_any (a1 a2:Option Addr) (n1 c1 n2 c2:Nat) (l1 l2:List UInt8) (w:World) (h1:Sl w a1 n1 c1 l1) (h2:Sl w a2 n2 c2 l2) (hb1:n1≤4294967296) (hb2:n2≤4294967296) :
  Calls Tryz.prog 89 #[.slice a1 n1 c1,.slice a2 n2 c2] w fun e w'=>e=.returned (.int .i64 (cpl l1 l2))∧∃ k,w'=w.drewN k:=by
 rcases Nat.eq_zero_or_pos n1 with e1 | e1
 ·subst e1;have:l1=[]:=List.length_eq_zero_iff.1 h1.len;subst this;rcases Nat.eq_zero_or_pos n2 with e2 | e2
  ·subst e2;exact shared_e3 a1 a2 c1 c2 w
  ·exact shared_e1 a1 a2 n2 c1 c2 w
 ·rcases Nat.eq_zero_or_pos n2 with e2 | e2
  ·subst e2;have:l2=[]:=List.length_eq_zero_iff.1 h2.len;subst this;have hz:cpl l1 []=0:=by cases l1 <;> rfl
   rw [hz];exact shared_e2 a1 a2 n1 c1 c2 w e1
  ·obtain ⟨b1,o1,rfl⟩:=h1.form e1;obtain ⟨b2,o2,rfl⟩:=h2.form e2;by_cases h:n2 < n1
   ·exact shared_lt b1 o1 b2 o2 n1 c1 n2 c2 l1 l2 w h1 h2 hb1 h
   ·exact shared_ge b1 o1 b2 o2 n1 c1 n2 c2 l1 l2 w h1 h2 hb2 (by omega)
def hdl (o n:Nat):List UInt8:=Lib.uvarint o++Lib.uvarint n
theorem splice_two {Z:Array Value} {o:Nat} {c1 c2:List Value} (h:o+c1.length+c2.length≤Z.size):splice (splice Z o c1) (o+c1.length) c2=splice Z o (c1++c2):=by
 have h1:o+c1.length≤Z.size:=by omega
 have h2:o+c1.length+c2.length≤(splice Z o c1).size:=by rw [splice_size h1];exact h
 have h3:o+(c1++c2).length≤Z.size:=by simp;omega
 apply Array.ext_getElem?
 intro k;have l3:o+(c1++c2).length=o+c1.length+c2.length:=by simp;omega
 rw [splice_get h2,splice_get h1,splice_get h3,l3];by_cases e1:k < o
 ·rw [if_pos (by omega),if_pos e1,if_pos e1]
 ·by_cases e2:k < o+c1.length
  ·rw [if_pos e2,if_neg e1,if_pos e2,if_neg e1,if_pos (by omega),List.getElem?_append_left (by omega)]
  ·by_cases e3:k < o+c1.length+c2.length
   ·simp only [if_neg e1,if_neg e2,if_pos e3];rw [List.getElem?_append_right (by omega)];congr 1;omega
   ·simp only [if_neg e1,if_neg e2,if_neg e3]
theorem bv_append (a b:List UInt8):bv (a++b)=bv a++bv b:=by simp [bv,Lib.byteCells]
set_option maxHeartbeats 1000000 in
theorem encodeBH_any (g o n c x y:Nat) (hx:x < 34359738368) (hy:y < 34359738368) (w:World) (G:Array Value) (E:Nat) (hG:Blk w g G E) (hn:20≤n) (hc:n≤c) (hf:o+20≤G.size) :
  Calls Tryz.prog 51 #[.slice (some ⟨g,o,none⟩) n c,.agg #[.int .u64 x,.int .u64 y]] w fun e w'=>e=.returned (.int .i64 (hdl x y).length)∧∃ k,((w.alloc (.cells #[.int .u64 x,.int .u64 y] 114)).setRow g (splice G o (bv (hdl x y)))).drewN k=w':=by
 have hl1:=uvarint_len5 hx;have hl2:=uvarint_len5 hy;have hp1:=Lib.uvarint_pos x;have hlt:=hG.lt;have hne:¬ w.heap.size=g:=by omega
 have hA:=hG.alloc (.cells #[.int .u64 x,.int .u64 y] 114);have c1:=putUvarint_any g o n c x (by omega) _ G E hA (by omega) (by omega);have hB:=hA.setRow (splice G o (bv (Lib.uvarint x)));have hs:(splice G o (bv (Lib.uvarint x))).size=G.size:=splice_size (by rw [bv_length];omega);have c2:=fun k=>putUvarint_any g (o+(Lib.uvarint x).length) (n - (Lib.uvarint x).length) (c - (Lib.uvarint x).length) y (by omega) _ _ E (hB.drewN k) (by omega) (by omega)
 have e2:(splice (splice G o (bv (Lib.uvarint x))) (o+(Lib.uvarint x).length) (bv (Lib.uvarint y)))=splice G o (bv (hdl x y)):=by
  rw [hdl,bv_append,← splice_two (by rw [bv_length,bv_length];omega),bv_length]
 have hsl:∀ w,(Instr.slice 29 (.slice (some ⟨g,o,none⟩) n c) (some (.int .i64 (Lib.uvarint x).length)) none none).run Tryz.prog w=.ok (.slice (some ⟨g,o+(Lib.uvarint x).length,none⟩) (n - (Lib.uvarint x).length) (c - (Lib.uvarint x).length)) w:=fun w=>by
  have:=run_slice_lo (P:=Tryz.prog) 29 5 un29 sz5 .i64 (some ⟨g,o,none⟩) n c (Lib.uvarint x).length (by omega) w;rwa [cutA_some (by omega)] at this
 have el:(hdl x y).length=(Lib.uvarint x).length+(Lib.uvarint y).length:=by simp [hdl]
 have hend:∀ k,∃ j,((w.alloc (.cells #[.int .u64 x,.int .u64 y] 114)).setRow g (splice G o (bv (hdl x y)))).drewN j=((((w.alloc (.cells #[.int .u64 x,.int .u64 y] 114)).setRow g (splice G o (bv (Lib.uvarint x)))).setRow g (splice (splice G o (bv (Lib.uvarint x))) (o+(Lib.uvarint x).length) (bv (Lib.uvarint y)))).drewN k):=fun k=>⟨k,by rw [setRow_setRow,e2]⟩
 rw [el];clear hG hA hB hs e2 el;generalize hu1:(Lib.uvarint x).length=u1 at *;generalize hu2:(Lib.uvarint y).length=u2 at *;generalize bv (Lib.uvarint x)=z1 at *;generalize bv (Lib.uvarint y)=z2 at *;clear hu1 hu2;go_enter Tryz.func51,Tryz.ntmps51
 go_wp2_with (go_at_call 90;refine c1.mono ?_)
 rintro e w1 ⟨rfl,rfl⟩;go_wp2_with fail
 refine wp_tail 5 (by kernel_rfl) ?_;simp only [List.take_succ_cons,List.take_zero,List.drop_succ_cons,List.drop_zero];repeat still_step
 refine wpStill_nil ?_;go_wp2_with (go_at_call 90;refine (c2 _).mono ?_)
 rintro e w1 ⟨rfl,rfl⟩;go_wp2
 go_ret
 exact ⟨by simp,hend _⟩
set_option maxHeartbeats 1000000 in
theorem decodeBH_any (a:Option Addr) (n c x y:Nat) (r:List UInt8) (w:World) (h:Sl w a n c (hdl x y++r)) (hx:x < 34359738368) (hy:y < 34359738368) :
  Calls Tryz.prog 56 #[.slice a n c] w fun e w'=>e=.returned (.tuple #[.agg #[.int .u64 x,.int .u64 y],.int .i64 (hdl x y).length])∧Below w.heap.size w w':=by
 have hl1:=uvarint_len5 hx;have hl2:=uvarint_len5 hy;have hp1:=Lib.uvarint_pos x;have hp2:=Lib.uvarint_pos y;have el:(hdl x y).length=(Lib.uvarint x).length+(Lib.uvarint y).length:=by simp [hdl]
 have hlen:=h.len;simp only [List.length_append,el] at hlen;have d1:Lib.uvarintDec (hdl x y++r)=(x,((Lib.uvarint x).length:Int)):=by rw [hdl,List.append_assoc];exact uvarintDec_uvarint x (by omega) _
 have hcut:=h.cut (lo:=(Lib.uvarint x).length) (by omega);have hdr:(hdl x y++r).drop (Lib.uvarint x).length=Lib.uvarint y++r:=by rw [hdl,List.append_assoc,List.drop_left]
 rw [hdr] at hcut;have d2:Lib.uvarintDec (Lib.uvarint y++r)=(y,((Lib.uvarint y).length:Int)):=uvarintDec_uvarint y (by omega) _;have f0:Fr (fun _=>False) w (w.alloc (.cells #[.int .u64 0,.int .u64 0] 114)):=(Fr.refl _ w).alloc _;have c1:=uvarint_any a n c _ _ (h.fr f0 (fun _ _ h=>h));have c2:=uvarint_any _ _ _ _ _ (hcut.fr f0 (fun _ _ h=>h));rw [d1] at c1;rw [d2] at c2;have hsl:∀ w,(Instr.slice 29 (.slice a n c) (some (.int .i64 (Lib.uvarint x).length)) none none).run Tryz.prog w=.ok (.slice (cutA a c (Lib.uvarint x).length) (n - (Lib.uvarint x).length) (c - (Lib.uvarint x).length)) w :=
  fun w=>run_slice_lo (P:=Tryz.prog) 29 5 un29 sz5 .i64 a n c (Lib.uvarint x).length (by omega) w
 rw [el];clear h hcut hdr d1 d2 f0 el hlen;generalize (Lib.uvarint x).length=u1 at *;generalize (Lib.uvarint y).length=u2 at *;have z1:((u1:Int) == 0)=false:=by simp;omega
 have z2:((u2:Int) == 0)=false:=by simp;omega
 go_enter Tryz.func56,Tryz.ntmps56
 go_wp2_with fail
 refine c1.mono ?_;rintro e w1 ⟨rfl,rfl⟩;go_wp2_with fail
 refine c2.mono ?_;rintro e w1 ⟨rfl,rfl⟩;go_wp2
 refine bodyPost_ret (v:=.tuple #[.agg #[.int .u64 x,.int .u64 y],.int .i64 (u1+u2)]) (by simp [results,Tryz.results56,go_sem]) rfl ⟨rfl,?_⟩;exact (Below.refl _ w).alloc (Nat.le_refl _) _
end
end Go.Proofs.YtmkdpjicgjhhjaaGreatDoor
