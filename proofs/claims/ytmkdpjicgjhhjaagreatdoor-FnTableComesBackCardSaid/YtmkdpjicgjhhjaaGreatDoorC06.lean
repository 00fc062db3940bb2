/- Part 6 of the proof of FnTableComesBack: contracts and lemmas, each under the conditions that it states. Texts: Bw. -/
import Derived.Test.YtmkdpjicgjhhjaaGreatDoorC04
import Derived.Test.YtmkdpjicgjhhjaaGreatDoorC05
namespace Go.Proofs.YtmkdpjicgjhhjaaGreatDoor
open Go.Lib (hid)
set_option maxRecDepth 100000
set_option linter.all false
section
open Go Go.RowKit Go.Shelf
theorem un105:Tryz.prog.underlying 105=some (.slice 201):=by kernel_rfl
theorem sz201:(Tryz.prog.info? 201).map (·.size)=some 1:=by kernel_rfl
theorem info201:(Tryz.prog.info? 201).map (fun i=>(i.zero,i.size,i.bytes))=some (some (.int .u32 0),1,4):=by kernel_rfl
def rv (l:List Nat):List Value:=l.map fun x:Nat=>Value.int .u32 (x:Int)
theorem rv_length (l:List Nat):(rv l).length=l.length:=by simp [rv]
theorem rv_append (a b:List Nat):rv (a++b)=rv a++rv b:=by simp [rv]
theorem rv_one (l:List Nat):∀ v∈rv l,v.oneCell'=true:=by
 intro v hv;simp only [rv,List.mem_map] at hv;obtain ⟨x,_,rfl⟩:=hv;rfl
structure Own where
 f:Option Nat
 p:Option Nat
 r:Option Nat
def Own.has (O:Own) (k:Nat):Prop:=O.f=some k∨O.p=some k∨O.r=some k
structure Own.dis (O:Own) (b:Nat):Prop where
 fb:∀ k,O.f=some k→k≠b
 pb:∀ k,O.p=some k→k≠b
 rb:∀ k,O.r=some k→k≠b
 fp:∀ k,O.f=some k→O.p≠some k
 fr:∀ k,O.f=some k→O.r≠some k
 pr:∀ k,O.p=some k→O.r≠some k
theorem UB.lt {w:World} {b:Nat} {C:Array Value} {T o:Nat} {F:Option Nat} {l:List UInt8} (h:UB w b C T o F l) {k:Nat} (hk:F=some k):k < w.heap.size∧k≠b:=by
 obtain ⟨v,hv,hb⟩:=h.buf;rcases hb with ⟨_,_,rfl⟩ | ⟨_,_,rfl,_⟩ | ⟨g,cap,G,hs,rfl,hgb,hG,_⟩
 ·cases hk
 ·cases hk
 ·cases hk;exact ⟨hG.lt,hgb⟩
theorem UB.keep {w w2:World} {b:Nat} {C C2:Array Value} {T o:Nat} {F:Option Nat} {l:List UInt8} (h:UB w b C T o F l) (hB:Blk w2 b C2 T) (hs:C2.size=C.size)
  (hC:∀ k,o≤k→k < o+66→C2[k]?=C[k]?) (hF:∀ k,F=some k→w2.heap[k]?=w.heap[k]?):UB w2 b C2 T o F l:=by
 obtain ⟨v,hv,hb⟩:=h.buf;refine ⟨hB,by rw [hs];exact h.room,fun j hj=>by rw [hC _ (by omega) (by omega)];exact h.boot j hj,by rw [hC _ (by omega) (by omega)];exact h.off,v,by rw [hC _ (by omega) (by omega)];exact hv,?_⟩;rcases hb with h1 | ⟨h1,h2,h3,h4⟩ | ⟨g,cap,G,h1,h2,h3,h4,h5⟩
 ·exact .inl h1
 ·exact .inr (.inl ⟨h1,h2,h3,fun j hj=>by rw [hC _ (by omega) (by omega)];exact h4 j hj⟩)
 ·exact .inr (.inr ⟨g,cap,G,h1,h2,h3,(hF g h2).trans h4,h5⟩)
structure BW (w:World) (b:Nat) (C:Array Value) (T o so:Nat) (O:Own) (s:BWS):Prop where
 ub:UB w b C T (o+1) O.f s.buf
 size:o+71≤C.size
 ri:C[o]?=some (.int .i64 s.ri)
 n:C[o+67]?=some (.int .i64 s.n)
 prev:∃ v,C[o+68]?=some v∧w.ownsRow 0 5 1 v s.prev.length (bv s.prev)∧v.ownBlock=O.p
 rs:∃ v,C[o+69]?=some v∧w.ownsRow 0 201 1 v s.rs.length (rv s.rs)∧v.ownBlock=O.r
 scr:C[o+70]?=some (.slice (some ⟨b,so,none⟩) 30 30)
 scrs:so+30≤C.size
 scra:so+30≤o∨o+71≤so
 dis:O.dis b
theorem own_keep {w w2:World} {e size n:Nat} {v:Value} {xs:List Value} (h:w.ownsRow 0 e size v n xs) (hk:∀ k,v.ownBlock=some k→w2.heap[k]?=w.heap[k]?):w2.ownsRow 0 e size v n xs:=by
 obtain ⟨h1,h⟩:=h;refine ⟨h1,?_⟩;rcases h with ⟨rfl,rfl⟩ | ⟨g,cap,cur,rfl,h0,hg,hn',hm,hs,ht⟩
 ·exact .inl ⟨rfl,rfl⟩
 ·exact .inr ⟨g,cap,cur,rfl,h0,(hk g rfl).trans hg,hn',hm,hs,ht⟩
theorem BW.lt {w:World} {b:Nat} {C:Array Value} {T o so:Nat} {O:Own} {s:BWS} (h:BW w b C T o so O s) {k:Nat} (hk:O.has k):k < w.heap.size:=by
 rcases hk with hk | hk | hk
 ·exact (h.ub.lt hk).1
 ·obtain ⟨v,_,ho,e⟩:=h.prev;exact own_lt ho (e.trans hk)
 ·obtain ⟨v,_,ho,e⟩:=h.rs;exact own_lt ho (e.trans hk)
theorem BW.keep {w w2:World} {b:Nat} {C C2:Array Value} {T o so:Nat} {O:Own} {s:BWS} (h:BW w b C T o so O s) (hB:Blk w2 b C2 T) (hs:C2.size=C.size)
  (hC:∀ k,o≤k→k < o+71→C2[k]?=C[k]?) (hF:∀ k,O.has k→w2.heap[k]?=w.heap[k]?):BW w2 b C2 T o so O s:=by
 obtain ⟨v,hv,hp,hpo⟩:=h.prev;obtain ⟨v',hv',hr,hro⟩:=h.rs;exact ⟨h.ub.keep hB hs (fun k h1 h2=>hC k (by omega) (by omega)) (fun k hk=>hF k (.inl hk)),by rw [hs];exact h.size,by rw [hC _ (by omega) (by omega)];exact h.ri,by rw [hC _ (by omega) (by omega)];exact h.n,
  ⟨v,by rw [hC _ (by omega) (by omega)];exact hv,own_keep hp (fun k hk=>hF k (.inr (.inl (hpo.symm.trans hk)))),hpo⟩,
  ⟨v',by rw [hC _ (by omega) (by omega)];exact hv',own_keep hr (fun k hk=>hF k (.inr (.inr (hro.symm.trans hk)))),hro⟩,
  by rw [hC _ (by omega) (by omega)];exact h.scr,by rw [hs];exact h.scrs,h.scra,h.dis⟩
def BWTo (b:Nat) (C:Array Value) (T o so:Nat) (O:Own) (s':BWS) (w w':World):Prop :=
 ∃ C' O',BW w' b C' T o so O' s'∧C'.size=C.size∧(∀ k,¬ (o≤k∧k < o+71)→¬ (so≤k∧k < so+30)→C'[k]?=C[k]?)∧Fr (fun k=>k=b∨O.has k) w w'∧(∀ k,O'.has k→O.has k∨w.heap.size≤k)
def Away (b o so:Nat) (O:Own) (a:Option Addr) (n:Nat):Prop :=
 ∀ g p,a=some ⟨g,p,none⟩→0 < n→¬ O.has g∧(g=b→(p+n≤o∨o+71≤p)∧(p+n≤so∨so+30≤p))
theorem Sl.lt {w:World} {g p n c:Nat} {l:List UInt8} (h:Sl w (some ⟨g,p,none⟩) n c l) (hn:0 < n):g < w.heap.size:=lt_of_cell (h.cellAt (j:=0) (by have:=h.len;omega))
theorem Away.sl {w w':World} {b o so n c:Nat} {O:Own} {a:Option Addr} {l:List UInt8} {C C':Array Value} {T:Nat} (h:Away b o so O a n) (hs:Sl w a n c l) (hB:Blk w b C T) (hB':Blk w' b C' T)
  (hC:∀ k,¬ (o≤k∧k < o+71)→¬ (so≤k∧k < so+30)→C'[k]?=C[k]?) (hf:Fr (fun k=>k=b∨O.has k) w w'):Sl w' a n c l :=
 hs.fr' fun g p ha j hj=>by
  obtain ⟨hF,hb⟩:=h g p ha (by omega);by_cases e:g=b
  ·subst e;have:=hb rfl;rw [hB'.cell',hB.cell',hC _ (by omega) (by omega)]
  ·subst ha;exact hf.cell (hs.lt (by omega)) (by simp [e,hF])
theorem BWTo.sl {w w':World} {b o so n c:Nat} {O:Own} {a:Option Addr} {l:List UInt8} {C:Array Value} {T:Nat} {s s':BWS} (hb:BW w b C T o so O s) (h:BWTo b C T o so O s' w w') (haw:Away b o so O a n) (hs:Sl w a n c l):Sl w' a n c l:=by
 obtain ⟨C',O',h1,_,h3,h4,_⟩:=h;exact haw.sl hs hb.ub.blk h1.ub.blk h3 h4
theorem Away.new {w:World} {b o so n c:Nat} {O O':Own} {a:Option Addr} {l:List UInt8} (h:Away b o so O a n) (hs:Sl w a n c l) (hn:∀ k,O'.has k→O.has k∨w.heap.size≤k):Away b o so O' a n:=by
 intro g p ha h0;subst ha;obtain ⟨h1,h2⟩:=h g p rfl h0;have:=hs.lt h0;exact ⟨fun hk=>(hn g hk).elim h1 (fun h=>by omega),h2⟩
theorem BWTo.refl {w:World} {b:Nat} {C:Array Value} {T o so:Nat} {O:Own} {s:BWS} (h:BW w b C T o so O s):BWTo b C T o so O s w w :=
 ⟨C,O,h,rfl,fun _ _ _=>rfl,Fr.refl _ _,fun _ h=>.inl h⟩
theorem BWTo.trans {w w1 w2:World} {b:Nat} {C C1:Array Value} {T o so:Nat} {O O1:Own} {s2:BWS} (hs:C1.size=C.size)
  (hC:∀ k,¬ (o≤k∧k < o+71)→¬ (so≤k∧k < so+30)→C1[k]?=C[k]?) (hf:Fr (fun k=>k=b∨O.has k) w w1) (hn:∀ k,O1.has k→O.has k∨w.heap.size≤k)
  (h2:BWTo b C1 T o so O1 s2 w1 w2):BWTo b C T o so O s2 w w2:=by
 obtain ⟨C2,O2,g1,g2,g3,g4,g5⟩:=h2;refine ⟨C2,O2,g1,by omega,fun k h1 h2=>by rw [g3 k h1 h2,hC k h1 h2],hf.trans g4 (fun k hk h=>?_),fun k hk=>?_⟩
 ·rcases h with h | h
  ·exact .inl h
  ·rcases hn k h with h | h
   ·exact .inr h
   ·omega
 ·have:=hf.size;rcases g5 k hk with h | h
  ·exact hn k h
  ·exact .inr (by omega)
theorem BW.scrTo {w:World} {b:Nat} {C:Array Value} {T o so:Nat} {O:Own} {s:BWS} (h:BW w b C T o so O s) (j:Nat) (x:List Value) (hx:j+x.length≤30):BWTo b C T o so O s w (w.setRow b (splice C (so+j) x)):=by
 have hsc:=h.scrs;have hf:so+j+x.length≤C.size:=by omega
 have hra:=h.scra;have hout:∀ k,¬ (so≤k∧k < so+30)→(splice C (so+j) x)[k]?=C[k]?:=fun k hk=>splice_out hf (by omega)
 refine ⟨splice C (so+j) x,O,h.keep (h.ub.blk.setRow _) (splice_size hf) (fun k h1 h2=>hout k (by omega)) (fun k hk=>setRow_other _ _ _ _ ?_),splice_size hf,fun k _ hk=>hout k hk,(Fr.refl (fun k=>k=b∨O.has k) w).setRow (fun _=>.inl rfl) _,fun _ h=>.inl h⟩;rcases hk with hk | hk | hk
 ·exact h.dis.fb k hk
 ·exact h.dis.pb k hk
 ·exact h.dis.rb k hk
theorem BW.bufTo {w w':World} {b:Nat} {C:Array Value} {T o so:Nat} {O:Own} {s:BWS} (h:BW w b C T o so O s) {l':List UInt8} (hb:BufTo b C T (o+1) O.f l' w w'):BWTo b C T o so O { s with buf:=l' } w w':=by
 obtain ⟨C',F',hu,hsz,hC,hf,hF⟩:=hb;obtain ⟨v,hv,hp,hpo⟩:=h.prev;obtain ⟨v',hv',hr,hro⟩:=h.rs;have hd:=h.dis;have hsame:∀ k,k < w.heap.size→k≠b→O.f≠some k→w'.heap[k]?=w.heap[k]?:=fun k h1 h2 h3=>hf.block k h1 (by simp [h2,h3])
 have hpk:∀ k,v.ownBlock=some k→w'.heap[k]?=w.heap[k]?:=fun k hk=>hsame k (own_lt hp hk) (hd.pb k (hpo.symm.trans hk)) (fun e=>hd.fp k e (hpo.symm.trans hk))
 have hrk:∀ k,v'.ownBlock=some k→w'.heap[k]?=w.heap[k]?:=fun k hk=>hsame k (own_lt hr hk) (hd.rb k (hro.symm.trans hk)) (fun e=>hd.fr k e (hro.symm.trans hk))
 have hfresh:∀ k,F'=some k→O.f=some k∨w.heap.size≤k:=hF;refine ⟨C',{ O with f:=F' },⟨hu,by rw [hsz];exact h.size,by rw [hC _ (by omega)];exact h.ri,by rw [hC _ (by omega)];exact h.n,⟨v,by rw [hC _ (by omega)];exact hv,own_keep hp hpk,hpo⟩,⟨v',by rw [hC _ (by omega)];exact hv',own_keep hr hrk,hro⟩,
  by rw [hC _ (by omega)];exact h.scr,by rw [hsz];exact h.scrs,h.scra,⟨fun k hk=>(hu.lt hk).2,hd.pb,hd.rb,fun k hk e=>?_,fun k hk e=>?_,hd.pr⟩⟩,hsz,fun k hk _=>hC k (by omega),hf.mono fun k _ hk=>?_,fun k hk=>?_⟩
 ·rcases hfresh k hk with h1 | h1
  ·exact hd.fp k h1 e
  ·have:=own_lt hp (hpo.trans e);omega
 ·rcases hfresh k hk with h1 | h1
  ·exact hd.fr k h1 e
  ·have:=own_lt hr (hro.trans e);omega
 ·rcases hk with hk | hk
  ·exact .inl hk
  ·exact .inr (.inl hk)
 ·rcases hk with hk | hk | hk
  ·rcases hfresh k hk with h1 | h1
   ·exact .inl (.inl h1)
   ·exact .inr h1
  ·exact .inl (.inr (.inl hk))
  ·exact .inl (.inr (.inr hk))
theorem BW.nTo {w:World} {b:Nat} {C:Array Value} {T o so:Nat} {O:Own} {s:BWS} (h:BW w b C T o so O s) (n':Nat):BWTo b C T o so O { s with n:=n' } w (w.setCell ⟨b,o+67,none⟩ (.int .i64 n')):=by
 have hsz:=h.size;have hne:∀ k,k≠o+67→(C.setIfInBounds (o+67) (.int .i64 n'))[k]?=C[k]?:=fun k hk=>Array.getElem?_setIfInBounds_ne (by omega)
 obtain ⟨v,hv,hp,hpo⟩:=h.prev;obtain ⟨v',hv',hr,hro⟩:=h.rs;have hd:=h.dis;have hk:∀ k,k≠b→(w.setCell ⟨b,o+67,none⟩ (.int .i64 n')).heap[k]?=w.heap[k]?:=fun k hk=>Below.heap_setCell w _ _ k hk
 refine ⟨C.setIfInBounds (o+67) (.int .i64 n'),O,⟨h.ub.keep (h.ub.blk.set _ _) (by simp) (fun k h1 h2=>hne k (by omega)) (fun k hF=>hk k (hd.fb k hF)),by simpa using hsz,by rw [hne _ (by omega)];exact h.ri,Array.getElem?_setIfInBounds_self_of_lt (by omega),
  ⟨v,by rw [hne _ (by omega)];exact hv,own_keep hp (fun k hx=>hk k (hd.pb k (hpo.symm.trans hx))),hpo⟩,⟨v',by rw [hne _ (by omega)];exact hv',own_keep hr (fun k hx=>hk k (hd.rb k (hro.symm.trans hx))),hro⟩,
  by rw [hne _ (by omega)];exact h.scr,by simpa using h.scrs,h.scra,hd⟩,by simp,fun k h1 _=>hne k (by omega),(Fr.refl (fun k=>k=b∨O.has k) w).setC b (o+67) _ (.inl rfl),fun _ h=>.inl h⟩
theorem BW.prevTo {w w1:World} {b:Nat} {C:Array Value} {T o so:Nat} {O:Own} {s:BWS} (h:BW w b C T o so O s) {v v1:Value} (hv:C[o+68]?=some v) {key:List UInt8} (ho:w1.ownsRow 0 5 1 v1 key.length (bv key))
  (hg:w.grownBy w1 v.ownBlock) (hl:Lies w v v1):BWTo b C T o so O { s with prev:=key } w (w1.setCell ⟨b,o+68,none⟩ v1):=by
 have hsz:=h.size;obtain ⟨v0,hv0,hp,hpo⟩:=h.prev;rw [hv] at hv0;obtain rfl:=Option.some.inj hv0;obtain ⟨v',hv',hr,hro⟩:=h.rs;have hd:=h.dis;have hnb:v.ownBlock≠some b:=fun e=>hd.pb b (hpo.symm.trans e) rfl
 have hf1:Fr (fun k=>k=b∨O.has k) w w1:=(Fr.refl _ w).grown hg (fun k hk _=>.inr (.inr (.inl (hpo.symm.trans hk))));have hB1:Blk w1 b C T:=(hg.block b h.ub.blk.lt (fun e=>hnb e.symm)).trans h.ub.blk;have hne:∀ k,k≠o+68→(C.setIfInBounds (o+68) v1)[k]?=C[k]?:=fun k hk=>Array.getElem?_setIfInBounds_ne (by omega)
 have hk:∀ k,k < w.heap.size→k≠b→v.ownBlock≠some k→(w1.setCell ⟨b,o+68,none⟩ v1).heap[k]?=w.heap[k]?:=fun k h1 h2 h3=>(Below.heap_setCell w1 _ _ k h2).trans (hg.block k h1 (fun e=>h3 e.symm))
 have hnew:∀ k,v1.ownBlock=some k→O.p=some k∨w.heap.size≤k:=fun k hk=>by
  rcases hl with e | e
  ·exact .inl (hpo.symm.trans (e.symm.trans hk))
  ·rw [e] at hk;cases hk;exact .inr (Nat.le_refl _)
 have hb0:=h.ub.blk.lt;have h1b:∀ k,v1.ownBlock=some k→k≠b:=fun k hk=>by
  rcases hnew k hk with e | e
  ·exact hd.pb k e
  ·omega
 refine ⟨C.setIfInBounds (o+68) v1,{ O with p:=v1.ownBlock },⟨h.ub.keep (hB1.set _ _) (by simp) (fun k h1 h2=>hne k (by omega)) (fun k hF=>hk k (h.ub.lt hF).1 (hd.fb k hF) (fun e=>hd.fp k hF (hpo.symm.trans e))),by simpa using hsz,by rw [hne _ (by omega)];exact h.ri,by rw [hne _ (by omega)];exact h.n,
  ⟨v1,Array.getElem?_setIfInBounds_self_of_lt (by omega),own_keep ho (fun k hx=>Below.heap_setCell w1 _ _ k (h1b k hx)),rfl⟩,
  ⟨v',by rw [hne _ (by omega)];exact hv',own_keep hr (fun k hx=>hk k (own_lt hr hx) (hd.rb k (hro.symm.trans hx)) (fun e=>hd.pr k (hpo.symm.trans e) (hro.symm.trans hx))),hro⟩,
  by rw [hne _ (by omega)];exact h.scr,by simpa using h.scrs,h.scra,⟨hd.fb,h1b,hd.rb,fun k hF e=>?_,hd.fr,fun k hx e=>?_⟩⟩,by simp,fun k h1 _=>hne k (by omega),hf1.setC b (o+68) _ (.inl rfl),fun k hx=>?_⟩
 ·rcases hnew k e with e | e
  ·exact hd.fp k hF e
  ·have:=(h.ub.lt hF).1;omega
 ·rcases hnew k hx with e' | e'
  ·exact hd.pr k e' e
  ·have:=own_lt hr (hro.trans e);omega
 ·rcases hx with hx | hx | hx
  ·exact .inl (.inl hx)
  ·rcases hnew k hx with e | e
   ·exact .inl (.inr (.inl e))
   ·exact .inr e
  ·exact .inl (.inr (.inr hx))
theorem BW.rsTo {w w0 w1:World} {b:Nat} {C:Array Value} {T o so:Nat} {O:Own} {s:BWS} (h:BW w b C T o so O s) (hw0:Fr (fun _=>False) w w0) {v v1:Value} (hv:C[o+69]?=some v) {rs':List Nat} (ho:w1.ownsRow 0 201 1 v1 rs'.length (rv rs'))
  (hg:w0.grownBy w1 v.ownBlock) (hl:Lies w0 v v1):BWTo b C T o so O { s with rs:=rs' } w (w1.setCell ⟨b,o+69,none⟩ v1):=by
 have hsz:=h.size;obtain ⟨v0,hv0,hr,hro⟩:=h.rs;rw [hv] at hv0;obtain rfl:=Option.some.inj hv0;obtain ⟨v',hv',hp,hpo⟩:=h.prev;have hd:=h.dis;have h0s:=hw0.size;have hnb:v.ownBlock≠some b:=fun e=>hd.rb b (hro.symm.trans e) rfl
 have hf1:Fr (fun k=>k=b∨O.has k) w w1:=(hw0.mono (S':=fun k=>k=b∨O.has k) fun _ _ h=>h.elim).grown hg (fun k hk _=>.inr (.inr (.inr (hro.symm.trans hk))));have hB1:Blk w1 b C T:=(hg.block b (by have:=h.ub.blk.lt;omega) (fun e=>hnb e.symm)).trans (h.ub.blk.fr hw0 (fun h=>h));have hne:∀ k,k≠o+69→(C.setIfInBounds (o+69) v1)[k]?=C[k]?:=fun k hk=>Array.getElem?_setIfInBounds_ne (by omega)
 have hk:∀ k,k < w.heap.size→k≠b→v.ownBlock≠some k→(w1.setCell ⟨b,o+69,none⟩ v1).heap[k]?=w.heap[k]?:=fun k h1 h2 h3=>(Below.heap_setCell w1 _ _ k h2).trans ((hg.block k (by omega) (fun e=>h3 e.symm)).trans (hw0.block k h1 (fun h=>h)))
 have hnew:∀ k,v1.ownBlock=some k→O.r=some k∨w.heap.size≤k:=fun k hk=>by
  rcases hl with e | e
  ·exact .inl (hro.symm.trans (e.symm.trans hk))
  ·rw [e] at hk;cases hk;exact .inr h0s
 have hb0:=h.ub.blk.lt;have h1b:∀ k,v1.ownBlock=some k→k≠b:=fun k hk=>by
  rcases hnew k hk with e | e
  ·exact hd.rb k e
  ·omega
 refine ⟨C.setIfInBounds (o+69) v1,{ O with r:=v1.ownBlock },⟨h.ub.keep (hB1.set _ _) (by simp) (fun k h1 h2=>hne k (by omega)) (fun k hF=>hk k (h.ub.lt hF).1 (hd.fb k hF) (fun e=>hd.fr k hF (hro.symm.trans e))),by simpa using hsz,by rw [hne _ (by omega)];exact h.ri,by rw [hne _ (by omega)];exact h.n,
  ⟨v',by rw [hne _ (by omega)];exact hv',own_keep hp (fun k hx=>hk k (own_lt hp hx) (hd.pb k (hpo.symm.trans hx)) (fun e=>hd.pr k (hpo.symm.trans hx) (hro.symm.trans e))),hpo⟩,
  ⟨v1,Array.getElem?_setIfInBounds_self_of_lt (by omega),own_keep ho (fun k hx=>Below.heap_setCell w1 _ _ k (h1b k hx)),rfl⟩,
  by rw [hne _ (by omega)];exact h.scr,by simpa using h.scrs,h.scra,⟨hd.fb,hd.pb,h1b,hd.fp,fun k hF e=>?_,fun k hx e=>?_⟩⟩,by simp,fun k h1 _=>hne k (by omega),hf1.setC b (o+69) _ (.inl rfl),fun k hx=>?_⟩
 ·rcases hnew k e with e | e
  ·exact hd.fr k hF e
  ·have:=(h.ub.lt hF).1;omega
 ·rcases hnew k e with e' | e'
  ·exact hd.pr k hx e'
  ·have:=own_lt hp (hpo.trans hx);omega
 ·rcases hx with hx | hx | hx
  ·exact .inl (.inl hx)
  ·exact .inl (.inr (.inl hx))
  ·rcases hnew k hx with e | e
   ·exact .inl (.inr (.inr e))
   ·exact .inr e
theorem len_cells (b o:Nat) (a:Option Addr) (n c:Nat) (w:World) (h0:w.cell? ⟨b,o,none⟩=some (.slice a n c)) (h1:w.cell? ⟨b,o+1,none⟩=some (.int .i64 0)) (hn:n≤4294967296) :
  Calls Tryz.prog 49 #[.pointer (some ⟨b,o,none⟩)] w fun e w'=>e=.returned (.int .i64 n)∧∃ k,w'=w.drewN k:=by
 go_enter Tryz.func49,Tryz.ntmps49
 go_wp2
 go_quiet (fail)
 go_wp2
 go_ret
 exact ⟨by simp,_,rfl⟩
theorem Blk.undrew {w:World} {b k:Nat} {C:Array Value} {T:Nat} (h:Blk (w.drewN k) b C T):Blk w b C T:=h
theorem Sl.drewN {w:World} {a:Option Addr} {n c:Nat} {l:List UInt8} (h:Sl w a n c l) (k:Nat):Sl (w.drewN k) a n c l:=⟨h.len,h.cap,h.max,h.nil,h.cell⟩
theorem UB.drewN {w:World} {b:Nat} {C:Array Value} {T o:Nat} {F:Option Nat} {l:List UInt8} (h:UB w b C T o F l) (k:Nat):UB (w.drewN k) b C T o F l :=
 h.keep (h.blk.drewN k) rfl (fun _ _ _=>rfl) (fun _ _=>rfl)
theorem BW.drewN {w:World} {b:Nat} {C:Array Value} {T o so:Nat} {O:Own} {s:BWS} (h:BW w b C T o so O s) (k:Nat):BW (w.drewN k) b C T o so O s :=
 h.keep (h.ub.blk.drewN k) rfl (fun _ _ _=>rfl) (fun _ _=>rfl)
theorem Fr.undrew {S:Nat→Prop} {w w':World} {k:Nat} (h:Fr S (w.drewN k) w'):Fr S w w':=⟨h.os,h.tape,h.output,h.size,h.block⟩
theorem BWTo.drewL {w w':World} {b:Nat} {C:Array Value} {T o so k:Nat} {O:Own} {s':BWS} (h:BWTo b C T o so O s' (w.drewN k) w'):BWTo b C T o so O s' w w':=by
 obtain ⟨C',O',h1,h2,h3,h4,h5⟩:=h;exact ⟨C',O',h1,h2,h3,h4.undrew,h5⟩
theorem BWTo.drewR {w w':World} {b:Nat} {C:Array Value} {T o so:Nat} {O:Own} {s':BWS} (h:BWTo b C T o so O s' w w') (k:Nat):BWTo b C T o so O s' w (w'.drewN k):=by
 obtain ⟨C',O',h1,h2,h3,h4,h5⟩:=h;exact ⟨C',O',h1.drewN k,h2,h3,h4.drewN k,h5⟩
theorem Away.b {b o so n:Nat} {O:Own} {a:Option Addr} (h:Away b o so O a n):AwayB b (o+1) O.f a n:=by
 intro g p ha h0;obtain ⟨h1,h2⟩:=h g p ha h0;exact ⟨fun e=>h1 (.inl e),fun e=>by have:=(h2 e).1;omega⟩
theorem Away.cut {w:World} {b o so n c lo:Nat} {O:Own} {a:Option Addr} {l:List UInt8} (h:Away b o so O a n) (hs:Sl w a n c l):AwayB b (o+1) O.f (cutA a c lo) (n - lo):=by
 intro g p ha h0;have hc:=hs.cap;obtain ⟨gb,go,rfl⟩:=hs.form (by omega);rw [cutA_some (by omega)] at ha;simp only [Option.some.injEq,Addr.mk.injEq] at ha;obtain ⟨rfl,rfl,_⟩:=ha;obtain ⟨h1,h2⟩:=h.b gb go rfl (by omega);exact ⟨h1,fun e=>by have:=h2 e;omega⟩
end
end Go.Proofs.YtmkdpjicgjhhjaaGreatDoor
