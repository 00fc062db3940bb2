/- Part 15 of the proof of FnTableComesBack: contracts and lemmas, each under the conditions that it states. Texts: WSeal, WSet, WFl, Ord2. -/
import Derived.Test.YtmkdpjicgjhhjaaGreatDoorC14
import Derived.Test.YtmkdpjicgjhhjaaGreatDoorC05
namespace Go.Proofs.YtmkdpjicgjhhjaaGreatDoor
open Go.Lib (hid)
set_option maxRecDepth 100000
set_option linter.all false
section
open Go Go.RowKit Go.Shelf
theorem BW.bufKeep {w w':World} {b:Nat} {C C':Array Value} {T o so:Nat} {O:Own} {s:BWS} (h:BW w b C T o so O s) {F':Option Nat} {l':List UInt8} (hu:UB w' b C' T (o+1) F' l') (hsz:C'.size=C.size)
  (hC:∀ k,o≤k→k < o+71→¬ (o+1≤k∧k < o+67)→C'[k]?=C[k]?) (hk:∀ k,O.p=some k∨O.r=some k→w'.heap[k]?=w.heap[k]?) (hF:∀ k,F'=some k→O.f=some k∨w.heap.size≤k):BW w' b C' T o so { O with f:=F' } { s with buf:=l' }:=by
 obtain ⟨v,hv,hp,hpo⟩:=h.prev;obtain ⟨v',hv',hr,hro⟩:=h.rs;have hd:=h.dis;refine ⟨hu,by rw [hsz];exact h.size,by rw [hC _ (by omega) (by omega) (by omega)];exact h.ri,by rw [hC _ (by omega) (by omega) (by omega)];exact h.n,
  ⟨v,by rw [hC _ (by omega) (by omega) (by omega)];exact hv,own_keep hp (fun k hx=>hk k (.inl (hpo.symm.trans hx))),hpo⟩,⟨v',by rw [hC _ (by omega) (by omega) (by omega)];exact hv',own_keep hr (fun k hx=>hk k (.inr (hro.symm.trans hx))),hro⟩,
  by rw [hC _ (by omega) (by omega) (by omega)];exact h.scr,by rw [hsz];exact h.scrs,h.scra,⟨fun k hk=>(hu.lt hk).2,hd.pb,hd.rb,fun k hk e=>?_,fun k hk e=>?_,hd.pr⟩⟩
 ·rcases hF k hk with h1 | h1
  ·exact hd.fp k h1 e
  ·have:=own_lt hp (hpo.trans e);omega
 ·rcases hF k hk with h1 | h1
  ·exact hd.fr k h1 e
  ·have:=own_lt hr (hro.trans e);omega
theorem WW.sealData {base:Nat} {w w':World} {b bb bs n:Nat} {lab:Nat→Nat} {C:Array Value} {OD OI:Own} {OF:FOwn} {s:WS} (h:WW base w b bb bs n lab C OD OI OF s) {v:Value} (hv0:BB w bb s.file v) (hvl:∀ k,v.ownBlock=some k→lab k=6)
  (hd:WRes b bb 7 s.file.length C OD.f s.data.buf v s.file w w') :
  WOut base w w' b bb bs n lab { s with data:={ s.data with buf:=sealB s.data.buf },file:=s.file++sealB s.data.buf }:=by
 obtain ⟨C',F',v',hu,hsz,hC,h219,hbv,hf,hF,hv',hFv,hv'b⟩:=hd;have hbl:=h.data.ub.blk.lt;obtain ⟨v4,m4,cs4,hv4,ho4,hl4⟩:=h.cscr;have hbbl:bb < w.heap.size:=by obtain ⟨lr,hx⟩:=hv0.blk;exact hx.lt
 have hDl:∀ k,OD.has k→k < w.heap.size:=fun k hk=>h.data.lt hk
 have hk:∀ k,k < w.heap.size→lab k≠7→OD.f≠some k→lab k≠5→lab k≠6→w'.heap[k]?=w.heap[k]?:=fun k h1 h2 h3 h4 h5=>hf.block k h1 (by
  rintro (e | e | e | e)
  ·exact h2 (e ▸ h.labB)
  ·exact h3 e
  ·exact h4 (e ▸ h.labF)
  ·exact h5 (hvl k e))
 have hnD:∀ k,lab k≠1→OD.f≠some k:=fun k h1 e=>h1 (h.labD k (.inl e))
 have hIl:∀ k,OI.has k→k < w.heap.size:=fun k hk=>h.index.lt hk
 have hLl:∀ k,FiltHas OF s.filt k→k < w.heap.size:=fun k hk=>h.filt.lt hk
 have hbase:base≤b:=h.low b (by rw [h.labB];decide);have hpr:∀ k,OD.p=some k∨OD.r=some k→w'.heap[k]?=w.heap[k]?:=fun k hk'=>by
  have hh:OD.has k:=hk'.elim (fun e=>.inr (.inl e)) (fun e=>.inr (.inr e));have hl:=h.labD k hh;refine hk k (hDl k hh) (by rw [hl];decide) (fun e=>?_) (by rw [hl];decide) (by rw [hl];decide);rcases hk' with h1 | h1
  ·exact h.data.dis.fp k e h1
  ·exact h.data.dis.fr k e h1
 have hne:s.file++sealB s.data.buf≠[]:=by
  intro e;have:=congrArg List.length e;rw [List.length_append,sealB_length] at this;simp at this
 refine ⟨⟨fun k=>if k < w.heap.size then lab k else if v'.ownBlock=some k then 6 else 1,C',{ OD with f:=F' },OI,OF,⟨h.data.bufKeep hu hsz (fun k h1 h2 h3=>hC k (by omega) (by omega)) hpr hF,
  h.index.keep hu.blk hsz (fun k h1 h2=>hC k (by omega) (by omega)) (fun k hk'=>hk k (hIl k hk') (by rw [h.labI k hk'];decide) (hnD k (by rw [h.labI k hk'];decide)) (by rw [h.labI k hk'];decide) (by rw [h.labI k hk'];decide)),
  h.filt.keep hu.blk hsz (fun k h1 h2=>hC k (by omega) (by omega)) (hC 3 (by omega) (by omega)) (fun k hk'=>hk k (hLl k hk') (by rw [h.labL k hk'];decide) (hnD k (by rw [h.labL k hk'];decide)) (by rw [h.labL k hk'];decide) (by rw [h.labL k hk'];decide)),hsz.trans h.size,
  (hC _ (by omega) (by omega)).trans h.wr,(hC _ (by omega) (by omega)).trans h.err,(hC _ (by omega) (by omega)).trans h.cmp,(hC _ (by omega) (by omega)).trans h.comp,(hC _ (by omega) (by omega)).trans h.bsz,(hC _ (by omega) (by omega)).trans h.po,(hC _ (by omega) (by omega)).trans h.pl,
  by rw [h219];simp [sealB_length],(hC _ (by omega) (by omega)).trans h.ent,
  ⟨v4,m4,cs4,(hC _ (by omega) (by omega)).trans hv4,own_keep ho4 (fun k hk'=>hk k (own_lt ho4 hk') (by rw [hl4 k hk'];decide) (hnD k (by rw [hl4 k hk'];decide)) (by rw [hl4 k hk'];decide) (by rw [hl4 k hk'];decide)),fun k hk'=>(if_pos (own_lt ho4 hk')).trans (hl4 k hk')⟩,
  ⟨v',hbv,fun e=>absurd e hne,fun k hk'=>?_⟩,
  (if_pos hbl).trans h.labB,(if_pos hbbl).trans h.labF,fun k hk'=>?_,fun k hk'=>(if_pos (hIl k hk')).trans (h.labI k hk'),fun k hk'=>(if_pos (hLl k hk')).trans (h.labL k hk'),fun k hk'=>?_⟩,fun _ h=>if_pos h⟩,?_⟩
 ·by_cases e:k < w.heap.size
  ·rw [if_pos e];exact (hv' k hk').elim (hvl k) (fun h'=>absurd h' (by omega))
  ·rw [if_neg e,if_pos hk']
 ·by_cases e:k < w.heap.size
  ·rw [if_pos e];rcases hk' with h1 | h1
   ·exact h.labD k (.inl ((hF k h1).elim id (fun h'=>absurd h' (by omega))))
   ·exact h.labD k (.inr h1)
  ·rw [if_neg e];rcases hk' with h1 | h1
   ·exact if_neg (hFv k h1)
   ·exact absurd (hDl k (.inr h1)) e
 ·by_cases e:k < w.heap.size
  ·rw [if_pos e] at hk';exact h.low k hk'
  ·omega
 ·exact ⟨hf.os,hf.tape,hf.output,hf.size,fun k hk'=>hf.block k (by omega) (by
   rintro (e | e | e | e)
   ·omega
   ·have:=h.low k (by rw [h.labD k (.inl e)];decide);omega
   ·have:=h.low bb (by rw [h.labF];decide);omega
   ·have:=h.low k (by rw [hvl k e];decide);omega)⟩
theorem WW.sealIndex {base:Nat} {w w':World} {b bb bs n:Nat} {lab:Nat→Nat} {C:Array Value} {OD OI:Own} {OF:FOwn} {s:WS} (h:WW base w b bb bs n lab C OD OI OF s) {v:Value} (hv0:BB w bb s.file v) (hvl:∀ k,v.ownBlock=some k→lab k=6)
  (hd:WRes b bb 78 s.file.length C OI.f s.index.buf v s.file w w') :
  WOut base w w' b bb bs n lab { s with index:={ s.index with buf:=sealB s.index.buf },file:=s.file++sealB s.index.buf }:=by
 obtain ⟨C',F',v',hu,hsz,hC,h219,hbv,hf,hF,hv',hFv,hv'b⟩:=hd;have hbl:=h.data.ub.blk.lt;obtain ⟨v4,m4,cs4,hv4,ho4,hl4⟩:=h.cscr;have hbbl:bb < w.heap.size:=by obtain ⟨lr,hx⟩:=hv0.blk;exact hx.lt
 have hDl:∀ k,OD.has k→k < w.heap.size:=fun k hk=>h.data.lt hk
 have hk:∀ k,k < w.heap.size→lab k≠7→OI.f≠some k→lab k≠5→lab k≠6→w'.heap[k]?=w.heap[k]?:=fun k h1 h2 h3 h4 h5=>hf.block k h1 (by
  rintro (e | e | e | e)
  ·exact h2 (e ▸ h.labB)
  ·exact h3 e
  ·exact h4 (e ▸ h.labF)
  ·exact h5 (hvl k e))
 have hnD:∀ k,lab k≠2→OI.f≠some k:=fun k h1 e=>h1 (h.labI k (.inl e))
 have hIl:∀ k,OI.has k→k < w.heap.size:=fun k hk=>h.index.lt hk
 have hLl:∀ k,FiltHas OF s.filt k→k < w.heap.size:=fun k hk=>h.filt.lt hk
 have hbase:base≤b:=h.low b (by rw [h.labB];decide);have hpr:∀ k,OI.p=some k∨OI.r=some k→w'.heap[k]?=w.heap[k]?:=fun k hk'=>by
  have hh:OI.has k:=hk'.elim (fun e=>.inr (.inl e)) (fun e=>.inr (.inr e));have hl:=h.labI k hh;refine hk k (hIl k hh) (by rw [hl];decide) (fun e=>?_) (by rw [hl];decide) (by rw [hl];decide);rcases hk' with h1 | h1
  ·exact h.index.dis.fp k e h1
  ·exact h.index.dis.fr k e h1
 have hne:s.file++sealB s.index.buf≠[]:=by
  intro e;have:=congrArg List.length e;rw [List.length_append,sealB_length] at this;simp at this
 refine ⟨⟨fun k=>if k < w.heap.size then lab k else if v'.ownBlock=some k then 6 else 2,C',OD,{ OI with f:=F' },OF,⟨h.data.keep hu.blk hsz (fun k h1 h2=>hC k (by omega) (by omega)) (fun k hk'=>hk k (hDl k hk') (by rw [h.labD k hk'];decide) (hnD k (by rw [h.labD k hk'];decide)) (by rw [h.labD k hk'];decide) (by rw [h.labD k hk'];decide)),
  h.index.bufKeep hu hsz (fun k h1 h2 h3=>hC k (by omega) (by omega)) hpr hF,
  h.filt.keep hu.blk hsz (fun k h1 h2=>hC k (by omega) (by omega)) (hC 3 (by omega) (by omega)) (fun k hk'=>hk k (hLl k hk') (by rw [h.labL k hk'];decide) (hnD k (by rw [h.labL k hk'];decide)) (by rw [h.labL k hk'];decide) (by rw [h.labL k hk'];decide)),hsz.trans h.size,
  (hC _ (by omega) (by omega)).trans h.wr,(hC _ (by omega) (by omega)).trans h.err,(hC _ (by omega) (by omega)).trans h.cmp,(hC _ (by omega) (by omega)).trans h.comp,(hC _ (by omega) (by omega)).trans h.bsz,(hC _ (by omega) (by omega)).trans h.po,(hC _ (by omega) (by omega)).trans h.pl,
  by rw [h219];simp [sealB_length],(hC _ (by omega) (by omega)).trans h.ent,
  ⟨v4,m4,cs4,(hC _ (by omega) (by omega)).trans hv4,own_keep ho4 (fun k hk'=>hk k (own_lt ho4 hk') (by rw [hl4 k hk'];decide) (hnD k (by rw [hl4 k hk'];decide)) (by rw [hl4 k hk'];decide) (by rw [hl4 k hk'];decide)),fun k hk'=>(if_pos (own_lt ho4 hk')).trans (hl4 k hk')⟩,
  ⟨v',hbv,fun e=>absurd e hne,fun k hk'=>?_⟩,
  (if_pos hbl).trans h.labB,(if_pos hbbl).trans h.labF,fun k hk'=>(if_pos (hDl k hk')).trans (h.labD k hk'),fun k hk'=>?_,fun k hk'=>(if_pos (hLl k hk')).trans (h.labL k hk'),fun k hk'=>?_⟩,fun _ h=>if_pos h⟩,?_⟩
 ·by_cases e:k < w.heap.size
  ·rw [if_pos e];exact (hv' k hk').elim (hvl k) (fun h'=>absurd h' (by omega))
  ·rw [if_neg e,if_pos hk']
 ·by_cases e:k < w.heap.size
  ·rw [if_pos e];rcases hk' with h1 | h1
   ·exact h.labI k (.inl ((hF k h1).elim id (fun h'=>absurd h' (by omega))))
   ·exact h.labI k (.inr h1)
  ·rw [if_neg e];rcases hk' with h1 | h1
   ·exact if_neg (hFv k h1)
   ·exact absurd (hIl k (.inr h1)) e
 ·by_cases e:k < w.heap.size
  ·rw [if_pos e] at hk';exact h.low k hk'
  ·omega
 ·exact ⟨hf.os,hf.tape,hf.output,hf.size,fun k hk'=>hf.block k (by omega) (by
   rintro (e | e | e | e)
   ·omega
   ·have:=h.low k (by rw [h.labI k (.inl e)];decide);omega
   ·have:=h.low bb (by rw [h.labF];decide);omega
   ·have:=h.low k (by rw [hvl k e];decide);omega)⟩
end
section
open Go Go.RowKit Go.Shelf
theorem WW.setNum {base:Nat} {w:World} {b bb bs n:Nat} {lab:Nat→Nat} {C:Array Value} {OD OI:Own} {OF:FOwn} {s:WS} (h:WW base w b bb bs n lab C OD OI OF s) (j:Nat) (x:Value) (hj:j=217∨j=218∨j=220) (po pl ent:Nat)
  (h1:(C.setIfInBounds j x)[217]?=some (.int .u64 po)) (h2:(C.setIfInBounds j x)[218]?=some (.int .u64 pl)) (h3:(C.setIfInBounds j x)[220]?=some (.int .i64 ent)) :
  WW base (w.setCell ⟨b,j,none⟩ x) b bb bs n lab (C.setIfInBounds j x) OD OI OF { s with po:=po,pl:=pl,ent:=ent }∧Below base w (w.setCell ⟨b,j,none⟩ x):=by
 have hB:=h.data.ub.blk.set j x;have hC:∀ k,k≠j→(C.setIfInBounds j x)[k]?=C[k]?:=fun k hk=>Array.getElem?_setIfInBounds_ne (by omega)
 have hk:∀ k,lab k≠7→(w.setCell ⟨b,j,none⟩ x).heap[k]?=w.heap[k]?:=fun k hk=>Below.heap_setCell _ _ _ k (by simp;intro e;exact hk (e ▸ h.labB))
 obtain ⟨v4,m4,cs4,hv4,ho4,hl4⟩:=h.cscr;obtain ⟨v6,hB6,hp6,hl6⟩:=h.bf;have hbase:base≤b:=h.low b (by rw [h.labB];decide);refine ⟨⟨h.data.keep hB (by simp) (fun k h1 h2=>hC k (by omega)) (fun k hk'=>hk k (by rw [h.labD k hk'];decide)),h.index.keep hB (by simp) (fun k h1 h2=>hC k (by omega)) (fun k hk'=>hk k (by rw [h.labI k hk'];decide)),
  h.filt.keep hB (by simp) (fun k h1 h2=>hC k (by omega)) (hC 3 (by omega)) (fun k hk'=>hk k (by rw [h.labL k hk'];decide)),by simpa using h.size,(hC _ (by omega)).trans h.wr,(hC _ (by omega)).trans h.err,(hC _ (by omega)).trans h.cmp,(hC _ (by omega)).trans h.comp,(hC _ (by omega)).trans h.bsz,
  h1,h2,(hC _ (by omega)).trans h.off,h3,⟨v4,m4,cs4,(hC _ (by omega)).trans hv4,own_keep ho4 (fun k hk'=>hk k (by rw [hl4 k hk'];decide)),hl4⟩,
  ⟨v6,hB6.keep (hk bb (by rw [h.labF];decide)) (fun k hk'=>hk k (by rw [hl6 k hk'];decide)),hp6,hl6⟩,h.labB,h.labF,h.labD,h.labI,h.labL,h.low⟩,?_⟩
 exact ⟨rfl,rfl,rfl,by simp,fun k hk'=>Below.heap_setCell _ _ _ k (by simp;omega)⟩
theorem WW.setScr {base:Nat} {w w':World} {b bb bs n:Nat} {lab:Nat→Nat} {C:Array Value} {OD OI:Own} {OF:FOwn} {s:WS} (h:WW base w b bb bs n lab C OD OI OF s) {v0:Value} (hv0:C[271]?=some v0) (hf:Fr (fun k=>v0.ownBlock=some k) w w') {v:Value} {m:Nat} {cs:List Value}
  (ho:w'.ownsRow 0 5 1 v m cs) (hn:∀ k,v.ownBlock=some k→v0.ownBlock=some k∨w.heap.size≤k):WOut base w (w'.setCell ⟨b,271,none⟩ v) b bb bs n lab s:=by
 obtain ⟨v4,m4,cs4,hv4,ho4,hl4⟩:=h.cscr;obtain rfl:v0=v4:=Option.some.inj (hv0.symm.trans hv4);obtain ⟨v6,hB6,hp6,hl6⟩:=h.bf;have hbl:=h.data.ub.blk.lt;have hbbl:bb < w.heap.size:=by obtain ⟨lr,hx⟩:=hB6.blk;exact hx.lt
 have hB:=(h.data.ub.blk.fr hf (fun e=>by have:=hl4 b e;rw [h.labB] at this;cases this)).set 271 v;have hC:∀ k,k≠271→(C.setIfInBounds 271 v)[k]?=C[k]?:=fun k hk=>Array.getElem?_setIfInBounds_ne (by omega)
 have hk:∀ k,k < w.heap.size→lab k≠7→lab k≠4→(w'.setCell ⟨b,271,none⟩ v).heap[k]?=w.heap[k]?:=fun k h0 h1 h2=>(Below.heap_setCell _ _ _ k (by simp;intro e;exact h1 (e ▸ h.labB))).trans (hf.block k h0 (fun e=>h2 (hl4 k e)))
 have hbase:base≤b:=h.low b (by rw [h.labB];decide);have hIl:∀ k,OI.has k→k < w.heap.size:=fun k hk=>h.index.lt hk
 have hLl:∀ k,FiltHas OF s.filt k→k < w.heap.size:=fun k hk=>h.filt.lt hk
 have hDl:∀ k,OD.has k→k < w.heap.size:=fun k hk=>h.data.lt hk
 have hvb:∀ k,v.ownBlock=some k→k≠b:=fun k hk' e=>by
  subst e;rcases hn k hk' with e | e
  ·have:=hl4 k e;rw [h.labB] at this;cases this
  ·omega
 have hsz:=h.size;refine ⟨⟨relab w lab 4,C.setIfInBounds 271 v,OD,OI,OF,⟨h.data.keep hB (by simp) (fun k h1 h2=>hC k (by omega)) (fun k hk'=>hk k (hDl k hk') (by rw [h.labD k hk'];decide) (by rw [h.labD k hk'];decide)),h.index.keep hB (by simp) (fun k h1 h2=>hC k (by omega)) (fun k hk'=>hk k (hIl k hk') (by rw [h.labI k hk'];decide) (by rw [h.labI k hk'];decide)),
  h.filt.keep hB (by simp) (fun k h1 h2=>hC k (by omega)) (hC 3 (by omega)) (fun k hk'=>hk k (hLl k hk') (by rw [h.labL k hk'];decide) (by rw [h.labL k hk'];decide)),by simpa using h.size,(hC _ (by omega)).trans h.wr,(hC _ (by omega)).trans h.err,(hC _ (by omega)).trans h.cmp,(hC _ (by omega)).trans h.comp,(hC _ (by omega)).trans h.bsz,
  (hC _ (by omega)).trans h.po,(hC _ (by omega)).trans h.pl,(hC _ (by omega)).trans h.off,(hC _ (by omega)).trans h.ent,
  ⟨v,m,cs,Array.getElem?_setIfInBounds_self_of_lt (by omega),own_keep ho (fun k hk'=>Below.heap_setCell _ _ _ k (by simpa using hvb k hk')),fun k hk'=>?_⟩,
  ⟨v6,hB6.keep (hk bb hbbl (by rw [h.labF];decide) (by rw [h.labF];decide)) (fun k hk'=>hk k (own_lt hB6.own hk') (by rw [hl6 k hk'];decide) (by rw [hl6 k hk'];decide)),hp6,fun k hk'=>(relab_old (own_lt hB6.own hk')).trans (hl6 k hk')⟩,
  (relab_old hbl).trans h.labB,(relab_old hbbl).trans h.labF,fun k hk'=>(relab_old (hDl k hk')).trans (h.labD k hk'),fun k hk'=>(relab_old (hIl k hk')).trans (h.labI k hk'),fun k hk'=>(relab_old (hLl k hk')).trans (h.labL k hk'),fun k hk'=>?_⟩,fun _ h=>relab_old h⟩,?_⟩
 ·by_cases e:k < w.heap.size
  ·rw [relab_old e];exact (hn k hk').elim (hl4 k) (fun h'=>absurd h' (by omega))
  ·exact relab_new (by omega)
 ·by_cases e:k < w.heap.size
  ·rw [relab_old e] at hk';exact h.low k hk'
  ·omega
 ·exact ⟨hf.os,hf.tape,hf.output,by simpa using hf.size,fun k hk'=>(Below.heap_setCell _ _ _ k (by simp;omega)).trans (hf.block k (by omega) (fun e=>by
   have:=h.low k (by rw [hl4 k e];decide);omega))⟩
theorem WW.ext {base:Nat} {w w':World} {b bb bs n:Nat} {lab:Nat→Nat} {C:Array Value} {OD OI:Own} {OF:FOwn} {s:WS} (h:WW base w b bb bs n lab C OD OI OF s) (hk:∀ k,k < w.heap.size→w'.heap[k]?=w.heap[k]?):WW base w' b bb bs n lab C OD OI OF s:=by
 obtain ⟨v4,m4,cs4,hv4,ho4,hl4⟩:=h.cscr;obtain ⟨v6,hB6,hp6,hl6⟩:=h.bf;have hbbl:bb < w.heap.size:=by obtain ⟨lr,hx⟩:=hB6.blk;exact hx.lt
 have hB:Blk w' b C 117:=(hk b h.data.ub.blk.lt).trans h.data.ub.blk;exact ⟨h.data.keep hB rfl (fun _ _ _=>rfl) (fun k hk'=>hk k (h.data.lt hk')),h.index.keep hB rfl (fun _ _ _=>rfl) (fun k hk'=>hk k (h.index.lt hk')),
  h.filt.keep hB rfl (fun _ _ _=>rfl) rfl (fun k hk'=>hk k (h.filt.lt hk')),h.size,h.wr,h.err,h.cmp,h.comp,h.bsz,h.po,h.pl,h.off,h.ent,⟨v4,m4,cs4,hv4,own_keep ho4 (fun k hk'=>hk k (own_lt ho4 hk')),hl4⟩,
  ⟨v6,hB6.keep (hk bb hbbl) (fun k hk'=>hk k (own_lt hB6.own hk')),hp6,hl6⟩,h.labB,h.labF,h.labD,h.labI,h.labL,h.low⟩
theorem WW.ext0 {base:Nat} {w w':World} {b bb bs n:Nat} {lab:Nat→Nat} {C:Array Value} {OD OI:Own} {OF:FOwn} {s:WS} (h:WW base w b bb bs n lab C OD OI OF s) (hk:∀ k,lab k≠0→w'.heap[k]?=w.heap[k]?):WW base w' b bb bs n lab C OD OI OF s:=by
 obtain ⟨v4,m4,cs4,hv4,ho4,hl4⟩:=h.cscr;obtain ⟨v6,hB6,hp6,hl6⟩:=h.bf;have hB:Blk w' b C 117:=(hk b (by rw [h.labB];decide)).trans h.data.ub.blk;exact ⟨h.data.keep hB rfl (fun _ _ _=>rfl) (fun k hk'=>hk k (by rw [h.labD k hk'];decide)),h.index.keep hB rfl (fun _ _ _=>rfl) (fun k hk'=>hk k (by rw [h.labI k hk'];decide)),
  h.filt.keep hB rfl (fun _ _ _=>rfl) rfl (fun k hk'=>hk k (by rw [h.labL k hk'];decide)),h.size,h.wr,h.err,h.cmp,h.comp,h.bsz,h.po,h.pl,h.off,h.ent,⟨v4,m4,cs4,hv4,own_keep ho4 (fun k hk'=>hk k (by rw [hl4 k hk'];decide)),hl4⟩,
  ⟨v6,hB6.keep (hk bb (by rw [h.labF];decide)) (fun k hk'=>hk k (by rw [hl6 k hk'];decide)),hp6,hl6⟩,h.labB,h.labF,h.labD,h.labI,h.labL,h.low⟩
theorem WW.zero {base:Nat} {w:World} {b bb bs n:Nat} {lab:Nat→Nat} {C:Array Value} {OD OI:Own} {OF:FOwn} {s:WS} (h:WW base w b bb bs n lab C OD OI OF s) (p:Nat) (hp:w.heap.size≤p):WW base w b bb bs n (fun k=>if k=p then 0 else lab k) C OD OI OF s:=by
 obtain ⟨v4,m4,cs4,hv4,ho4,hl4⟩:=h.cscr;obtain ⟨v6,hB6,hp6,hl6⟩:=h.bf;have hbbl:bb < w.heap.size:=by obtain ⟨lr,hx⟩:=hB6.blk;exact hx.lt
 have hbl:=h.data.ub.blk.lt;have ho:∀ k,k < w.heap.size→(if k=p then 0 else lab k)=lab k:=fun k hk=>if_neg (by omega)
 refine ⟨h.data,h.index,h.filt,h.size,h.wr,h.err,h.cmp,h.comp,h.bsz,h.po,h.pl,h.off,h.ent,⟨v4,m4,cs4,hv4,ho4,fun k hk=>(ho k (own_lt ho4 hk)).trans (hl4 k hk)⟩,⟨v6,hB6,hp6,fun k hk=>(ho k (own_lt hB6.own hk)).trans (hl6 k hk)⟩,
  (ho b hbl).trans h.labB,(ho bb hbbl).trans h.labF,fun k hk=>(ho k (h.data.lt hk)).trans (h.labD k hk),fun k hk=>(ho k (h.index.lt hk)).trans (h.labI k hk),fun k hk=>(ho k (h.filt.lt hk)).trans (h.labL k hk),fun k hk=>?_⟩
 by_cases e:k=p
 ·rw [if_pos e] at hk;exact absurd rfl hk
 ·rw [if_neg e] at hk;exact h.low k hk
end
section
open Go Go.RowKit Go.Shelf
def FtOk (n:Nat):Option FS→Prop
 | none=>True
 | some fs=>fs.ok n∧n≤20∧fs.cs.length≤16777216∧ktot fs.ks≤67108864
def FtTo (n x:Nat):Option FS→Option FS→Prop
 | none,none=>True
 | some fs,some fs'=>fs'.ok n∧fs'.ks=kflush x fs.ks
 | _,_=>False
theorem fflush_ww {base:Nat} {w:World} {b bb bs n:Nat} {lab:Nat→Nat} {C:Array Value} {OD OI:Own} {OF:FOwn} {s:WS} (h:WW base w b bb bs n lab C OD OI OF s) (hf:FtOk n s.filt) (off:Nat) (hoff:off≤34359738368) :
  Calls Tryz.prog 40 #[.pointer (some ⟨b,148,none⟩),.int .u64 off] w fun e w'=>e=.returned (.tuple #[])∧∃ ft',WIn base w' b bb bs n { s with filt:=ft' }∧FtTo n (off / 2048) s.filt ft'∧Below base w w':=by
 cases hs:s.filt with
 | none =>
  have h3:=h.filt;rw [hs] at h3;refine (fflush_nil w b 148 (.int .u64 off) (h.data.ub.blk.cell h3.1)).mono ?_;rintro e w' ⟨rfl,rfl⟩;refine ⟨rfl,none,⟨lab,C,OD,OI,OF,?_⟩,trivial,Below.refl _ _⟩;have:({ s with filt:=none }:WS)=s:=by rw [← hs]
  rw [this];exact h
 | some fs =>
  have h3:=h.filt;rw [hs] at h3 hf;obtain ⟨f1,f2,f3,f4⟩:=hf;refine (fflush_any w b 148 n C 117 OF fs h3.1 f1 f2 off (by omega) (by omega) f3 f4).mono ?_;rintro e w' ⟨rfl,s',hx,ho,hk⟩;exact ⟨rfl,some s',(h.filtTo hs hx).win,⟨ho,hk⟩,(h.filtTo hs hx).2⟩
end
section
open Go
section
variable {P:Program} {Q:Exit→Act→World→Prop} {S:World→Prop} {stop:Nat}
def PosG (P:Program) (l:List Oper) (Q:Exit→Act→World→Prop) (S:World→Prop) (stop fuel:Nat) (listed:Array Bool) (a:Act) (w:World):Prop:=wpAnyT P l.toArray Q S stop fuel listed a w
theorem Pos.toG {l:List Oper} {k:Nat} {a:Act} {w:World} (fuel:Nat) (listed:Array Bool) (hf:l.length - k=fuel) (hl:upto l.length k=listed) (h:PosG P l Q S stop fuel listed a w):Pos P l Q S stop k a w:=by
 subst hf hl;exact h
def takeOkG (l:List Oper) (stop:Nat) (listed:Array Bool) (k:Nat):Bool :=
 Region.noSelect l.toArray && Region.free .any l.toArray listed k && (Region.ready .any l.toArray listed).contains k && decide (k≠stop) && Region.waitsFor .any l.toArray stop k
theorem PosG.takeK {l:List Oper} {k fuel:Nat} {listed:Array Bool} {a:Act} {w:World} {o:Oper} {v:Value} (hS:S w) (ho:l[k]?=some o) (hc:takeOkG l stop listed k=true)
  (hQ:∀ c a w,Q (.panic c) (a.put o.dst v) w→Q (.panic c) a w) (hg:Region.wanted o (yielded l.toArray a.tmps)=true)
  (hy:∀ W,S W→(execOp a.eval o).run P W=.ok (.value v) W) (h:∀ K:Act→Prop,(∀ a',PosG P l Q S stop fuel (listed.setIfInBounds k true) a' w→K a')→K (a.put o.dst v)):PosG P l Q S stop (fuel+1) listed a w:=by
 simp only [takeOkG,Bool.and_eq_true,decide_eq_true_eq] at hc;obtain ⟨⟨⟨⟨c1,c2⟩,c3⟩,c4⟩,c5⟩:=hc;have ho':l.toArray[k]?=some o:=by simpa using ho
 exact wpAnyT_first ho' (Region.noSelect_spec c1) hQ c4 c5 _ _ a w (Region.free_spec ho' c2) (by simpa using c3) (.inl ⟨hg,hy⟩) hS (h _ fun _ h=>h)
def PosG.after (P:Program) (l:List Oper) (Q:Exit→Act→World→Prop) (S:World→Prop) (stop fuel:Nat) (listed:Array Bool):Exit→Act→World→Prop
 | .normal,a,w=>S w∧PosG P l Q S stop fuel listed a w
 | e,a,w=>Q e a w
theorem PosG.one {l:List Oper} {i fuel:Nat} {listed:Array Bool} {a:Act} {w:World} {o:Oper} (ho:l[i]?=some o) (c2:i≠stop)
  (h:wpList P l.toArray (PosG.after P l Q S stop fuel (listed.setIfInBounds i true)) [o] a w) :
  wpOp P l.toArray Q i (fun a' w'=>if i=stop then wpAny P .any l.toArray Q fuel (listed.setIfInBounds i true) a' w' else S w'∧wpAnyT P l.toArray Q S stop fuel (listed.setIfInBounds i true) a' w') a w:=by
 simp only [if_neg c2];have ho':l.toArray[i]?=some o:=by simpa using ho
 unfold wpOp;simp only [ho'];have hq:∀ (a':Act) (w':World),wpList P l.toArray (PosG.after P l Q S stop fuel (listed.setIfInBounds i true)) [] a' w'→S w'∧wpAnyT P l.toArray Q S stop fuel (listed.setIfInBounds i true) a' w':=fun a' w' h=>h
 simp only [wpList] at h;split
 ·rename_i hw
  rw [if_pos hw] at h;rcases h with h | ⟨h1,a0,w0,h2⟩
  ·refine .inl ?_;unfold Oper.wp at *;generalize (execOp a.eval o).run P w=r at *;cases r with
   | ok n w' =>
    cases n <;> simp only [Oper.upon] at h ⊢
    case value u=>exact hq _ _ h
    case skip=>exact hq _ _ h
    case defer d=>exact hq _ _ h
    case enter f args =>
     refine Calls.mono h fun e w'' he=>?_
     cases e with
     | returned u=>exact hq _ _ he
     | panicked c=>exact he
     | outgrown=>obtain ⟨a1,w1,h1⟩:=he;exact ⟨a1,w1,h1⟩
    case row row args=>exact Rows.mono h fun u w'' he=>hq _ _ he
   | halt x w' =>
    cases x <;> simp only [Oper.upon] at h ⊢
    case panic u=>exact h
  ·exact .inr ⟨h1,a0,w0,h2⟩
 ·rename_i hw
  rw [if_neg hw] at h;exact hq _ _ h
theorem PosG.eff {l:List Oper} {k fuel:Nat} {listed:Array Bool} {a:Act} {w:World} {o:Oper} (ho:l[k]?=some o) (hc:(decide (Region.ready .any l.toArray listed=[k]) && decide (k≠stop))=true)
  (h:wpList P l.toArray (PosG.after P l Q S stop fuel (listed.setIfInBounds k true)) [o] a w):PosG P l Q S stop (fuel+1) listed a w:=by
 simp only [Bool.and_eq_true,decide_eq_true_eq] at hc;refine ⟨fun h=>(by rw [hc.1] at h;cases h),fun i hi=>?_⟩;rw [hc.1] at hi;obtain rfl:i=k:=by simpa using hi
 exact PosG.one ho hc.2 h
theorem PosG.split {l:List Oper} {i j fuel:Nat} {listed:Array Bool} {a:Act} {w:World} {oi oj:Oper} (hoi:l[i]?=some oi) (hoj:l[j]?=some oj) (hc:(decide (Region.ready .any l.toArray listed=[i,j]) && decide (i≠stop) && decide (j≠stop))=true)
  (hi:wpList P l.toArray (PosG.after P l Q S stop fuel (listed.setIfInBounds i true)) [oi] a w) (hj:wpList P l.toArray (PosG.after P l Q S stop fuel (listed.setIfInBounds j true)) [oj] a w):PosG P l Q S stop (fuel+1) listed a w:=by
 simp only [Bool.and_eq_true,decide_eq_true_eq] at hc;refine ⟨fun h=>(by rw [hc.1.1] at h;cases h),fun k hk=>?_⟩;rw [hc.1.1] at hk;simp only [List.mem_cons,List.not_mem_nil,or_false] at hk;rcases hk with rfl | rfl
 ·exact PosG.one hoi hc.1.2 hi
 ·exact PosG.one hoj hc.2 hj
theorem PosG.tail {l:List Oper} {fuel:Nat} {listed:Array Bool} {a:Act} {w:World} (hf:fuel=l.length - stop) (hl:listed=upto l.length stop) (hc:tailOk l stop=true) (hs:stop < l.length) (h:wpList P l.toArray Q (l.drop stop) a w):PosG P l Q S stop fuel listed a w:=by
 subst hf hl;exact Pos.tail (S:=S) hc hs h
end
end
end Go.Proofs.YtmkdpjicgjhhjaaGreatDoor
