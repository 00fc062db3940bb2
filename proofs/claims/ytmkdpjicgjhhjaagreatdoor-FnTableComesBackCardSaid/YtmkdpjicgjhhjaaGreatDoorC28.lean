/- Part 28 of the proof of FnTableComesBack: contracts and lemmas, each under the conditions that it states. Texts: BCur, NBI, RBl. -/
import Derived.Test.YtmkdpjicgjhhjaaGreatDoorC27
import Derived.Test.YtmkdpjicgjhhjaaGreatDoorC19
import Derived.Test.YtmkdpjicgjhhjaaGreatDoorC25
namespace Go.Proofs.YtmkdpjicgjhhjaaGreatDoor
open Go.Lib (hid)
set_option maxRecDepth 100000
set_option linter.all false
section
open Go Go.RowKit Go.Shelf
structure DBk where
 q:Nat
 off:Nat
 len:Nat
 ri:Nat
 p0:Bs
 es:List KV
 fw:Bool
structure BRan (c:IC) (d:DBk) (lo hi st:Nat):Prop where
 oR:c.oR=eoff d.ri d.p0 d.es lo
 oL:c.oL=eoff d.ri d.p0 d.es hi
 lh:lo≤hi
 hm:hi≤d.es.length
 oS:c.oS=eoff d.ri d.p0 d.es st
 sr:st < d.es.length→st % d.ri=0
 sl:st≤lo
 rs:lo < hi→c.riS*d.ri≤lo
def BAt (d:DBk) (lo hi:Nat) (s:IS) (key:Bs) (nodes:List Nat) (pk:Bs) (cur:Nat):Prop :=
 (cur=0∧s.dir=0∧nodes=[]∧pk=[])∨(cur=hi+1∧s.dir=1∧nodes=[]∧pk=[]) ∨
 (∃ k e,cur=k+1∧lo≤k∧k < hi∧d.es[k]?=some e∧key=e.1∧s.vv=eval' d.q d.ri d.p0 d.es k∧s.off=eoff d.ri d.p0 d.es (k+1) ∧
  ((s.dir=3∧s.poff=eoff d.ri d.p0 d.es k∧nodes=[]∧pk=[]∧s.rix*d.ri≤k)∨(s.dir=2∧d.fw=false∧s.rix=k / d.ri∧nodes=nodesOf d.ri d.p0 d.es (k / d.ri*d.ri) k∧pk=keysOf d.es (k / d.ri*d.ri) k)))
def BC (w:World) (g:Nat) (S:Nat→Prop) (c:IC) (d:DBk) (lo hi st cur:Nat):Prop :=
 ∃ s O key nodes pk,BI w g c s O key nodes pk∧BE w c.p d.q d.off d.len d.ri d.p0 d.es∧(c.p≠g∧d.q≠g∧¬ O.has c.p∧¬ O.has d.q)∧(∀ k,k=g∨O.has k→S k)∧BRan c d lo hi st∧BAt d lo hi s key nodes pk cur
def grow (S:Nat→Prop) (w w':World) (k:Nat):Prop:=S k∨(w.heap.size≤k∧k < w'.heap.size)
theorem BC.keep {w w':World} {g:Nat} {S:Nat→Prop} {c:IC} {d:DBk} {lo hi st cur:Nat} (h:BC w g S c d lo hi st cur) (hk:∀ k,k < w.heap.size→S k∨k=c.p∨k=d.q→w'.heap[k]?=w.heap[k]?):BC w' g S c d lo hi st cur:=by
 obtain ⟨s,O,key,nodes,pk,h1,h2,h3,h4,h5,h6⟩:=h;exact ⟨s,O,key,nodes,pk,h1.keep (fun k hk'=>hk k (by rcases hk' with e | e;rw [e];exact h1.blk.lt;exact h1.lt e) (.inl (h4 k hk'))),h2.keep (hk _ h2.rb.blk.lt (.inr (.inl rfl))) (hk _ h2.rb.qlt (.inr (.inr rfl))),h3,h4,h5,h6⟩
theorem BC.mono {w:World} {g:Nat} {S S':Nat→Prop} {c:IC} {d:DBk} {lo hi st cur:Nat} (h:BC w g S c d lo hi st cur) (hs:∀ k,k < w.heap.size→S k→S' k):BC w g S' c d lo hi st cur:=by
 obtain ⟨s,O,key,nodes,pk,h1,h2,h3,h4,h5,h6⟩:=h;exact ⟨s,O,key,nodes,pk,h1,h2,h3,fun k hk=>hs k (by rcases hk with e | e;rw [e];exact h1.blk.lt;exact h1.lt e) (h4 k hk),h5,h6⟩
theorem BC.of_to {w w':World} {g:Nat} {S:Nat→Prop} {c:IC} {d:DBk} {lo hi st cur:Nat} {O:Own} {P:IS→Bs→List Nat→Bs→Prop} (hE:BE w c.p d.q d.off d.len d.ri d.p0 d.es) (hap:c.p≠g∧d.q≠g∧¬ O.has c.p∧¬ O.has d.q) (hS:∀ k,k=g∨O.has k→S k) (hR:BRan c d lo hi st)
  (h:BITo g c O w w' P) (hP:∀ s k n p,P s k n p→BAt d lo hi s k n p cur):BC w' g (grow S w w') c d lo hi st cur∧Fr S w w':=by
 obtain ⟨s',O',k',n',p',h1,h2,h3,h4⟩:=h;have hpl:=hE.rb.blk.lt;have hql:=hE.rb.qlt;refine ⟨⟨s',O',k',n',p',h1,hE.keep (h3.block _ hpl (by rintro (e | e);exact hap.1 e;exact hap.2.2.1 e)) (h3.block _ hql (by rintro (e | e);exact hap.2.1 e;exact hap.2.2.2 e)),⟨hap.1,hap.2.1,fun e=>(h4 _ e).elim hap.2.2.1 (fun h=>by omega),fun e=>(h4 _ e).elim hap.2.2.2 (fun h=>by omega)⟩,fun k hk=>?_,hR,hP _ _ _ _ h2⟩,h3.mono (fun k _ h=>hS k h)⟩
 rcases hk with e | e
 ·exact .inl (hS k (.inl e))
 ·rcases h4 k e with h | h
  ·exact .inl (hS k (.inr h))
  ·exact .inr ⟨h,h1.lt e⟩
theorem bnext_eoi {w:World} {g:Nat} {c:IC} {s:IS} {O:Own} {key:Bs} {nodes:List Nat} {pk:Bs} (h:BI w g c s O key nodes pk) (hd:s.dir=1):Calls Tryz.prog 60 #[.pointer (some ⟨g,0,none⟩)] w fun e w'=>e=.returned (.bool false)∧w'=w:=by
 have hz11:=h.dirCell;rw [hd] at hz11;clear h hd;go_enter Tryz.func60,Tryz.ntmps60
 go_wp2
 go_ret
 exact ⟨rfl,rfl⟩
def nxt (lo hi cur:Nat):Nat:=if cur=0 then lo+1 else min (cur+1) (hi+1)
section
variable {w:World} {g:Nat} {S:Nat→Prop} {c:IC} {d:DBk} {lo hi st cur:Nat}
theorem BC.next (h:BC w g S c d lo hi st cur):Calls Tryz.prog 60 #[.pointer (some ⟨g,0,none⟩)] w fun e w'=>e=.returned (.bool (decide (nxt lo hi cur≤hi)))∧BC w' g (grow S w w') c d lo hi st (nxt lo hi cur)∧Fr S w w':=by
 have h0:=h;obtain ⟨s,O,key,nodes,pk,h1,h2,h3,h4,h5,h6⟩:=h;have hNext:∀ st',(s.dir=0∨s.dir=2∨s.dir=3)→(if s.dir=0 then c.oS else s.off)=eoff d.ri d.p0 d.es st'→KeyAt d.ri d.es st' key→st'≤hi→(s.dir≠2→nodes=[]∧pk=[])→(max st' lo < hi→(if s.dir=0 then c.riS else s.rix)*d.ri≤max st' lo)→nxt lo hi cur=max st' lo+1 →
   Calls Tryz.prog 60 #[.pointer (some ⟨g,0,none⟩)] w fun e w'=>e=.returned (.bool (decide (nxt lo hi cur≤hi)))∧BC w' g (grow S w w') c d lo hi st (nxt lo hi cur)∧Fr S w w':=fun st' a1 a2 a3 a4 a5 a6 a7=>by
  refine (bnext_any w g c s O key nodes pk h1 d.q d.off d.len d.ri d.p0 d.es h2 h3 lo hi st' h5.oR h5.oL h5.lh h5.hm a1 a2 a3 a4).mono ?_;rintro e w' ⟨rfl,hb⟩;refine ⟨?_,BC.of_to h2 h3 h4 h5 hb ?_⟩
  ·rw [a7];exact congrArg (fun b=>Ending.returned (.bool b)) (decide_eq_decide.2 (by omega))
  ·rintro s' k' n' p' ⟨q1,q2,q3,q4,q5⟩;have hn:n'=[]∧p'=[]:=by
    by_cases hd:s.dir=2
    ·rw [if_pos hd] at q2 q3;exact ⟨q2,q3⟩
    ·rw [if_neg hd] at q2 q3;rw [q2,q3];exact a5 hd
   rw [a7];by_cases hl:max st' lo < hi
   ·obtain ⟨r1,r2,r3,r4,e,r5,r6⟩:=q4 hl;exact .inr (.inr ⟨_,e,rfl,by omega,hl,r5,r6,r4,r3,.inl ⟨r1,r2,hn.1,hn.2,by rw [q1];exact a6 hl⟩⟩)
   ·obtain ⟨r1,_⟩:=q5 hl;refine .inr (.inl ⟨?_,r1,hn.1,hn.2⟩);have:=h5.lh;omega
 rcases h6 with ⟨rfl,e1,e2,e3⟩ | ⟨rfl,e1,e2,e3⟩ | ⟨k,e,rfl,b1,b2,b3,b4,b5,b6,b7⟩
 ·refine hNext st (.inl e1) (by rw [if_pos e1];exact h5.oS) (fun hl=>.inl (h5.sr hl)) (by have:=h5.sl;have:=h5.lh;omega) (fun _=>⟨e2,e3⟩) (fun hl=>by rw [if_pos e1];have:=h5.sl;have:=h5.rs (by omega);omega) ?_;unfold nxt;rw [if_pos rfl];have:=h5.sl;omega
 ·refine (bnext_eoi h1 e1).mono ?_;rintro e w' ⟨rfl,rfl⟩;have hn:nxt lo hi (hi+1)=hi+1:=by unfold nxt;rw [if_neg (by omega)];omega
  rw [hn];exact ⟨by rw [decide_eq_false (by omega)],h0.mono (fun k _ h=>.inl h),Fr.refl _ _⟩
 ·have hn:nxt lo hi (k+1)=k+1+1:=by unfold nxt;rw [if_neg (by omega)];omega
  have hka:KeyAt d.ri d.es (k+1) key:=fun hl=>.inr ⟨e,by omega,by rw [Nat.add_sub_cancel];exact b3,b4⟩
  rcases b7 with ⟨f1,f2,f3,f4,f5⟩ | ⟨f1,_,f2,f3,f4⟩
  ·exact hNext (k+1) (.inr (.inr f1)) (by rw [if_neg (by omega)];exact b6) hka (by omega) (fun _=>⟨f3,f4⟩) (fun _=>by rw [if_neg (by omega)];omega) (by rw [hn];omega)
  ·exact hNext (k+1) (.inr (.inl f1)) (by rw [if_neg (by omega)];exact b6) hka (by omega) (fun h=>absurd f1 h) (fun _=>by rw [if_neg (by omega),f2];have:=Nat.div_mul_le_self k d.ri;omega) (by rw [hn];omega)
theorem BC.first (h:BC w g S c d lo hi st cur):Calls Tryz.prog 171 #[.pointer (some ⟨g,0,none⟩)] w fun e w'=>e=.returned (.bool (decide (lo < hi)))∧BC w' g (grow S w w') c d lo hi st (lo+1)∧Fr S w w':=by
 obtain ⟨s,O,key,nodes,pk,h1,h2,h3,h4,h5,h6⟩:=h;have hd:s.dir≤3∧(s.dir≠2→nodes=[]∧pk=[]):=by
  rcases h6 with ⟨_,e1,e2,e3⟩ | ⟨_,e1,e2,e3⟩ | ⟨k,e,_,_,_,_,_,_,_,⟨f1,f2,f3,f4,f5⟩ | ⟨f1,_⟩⟩
  ·exact ⟨by omega,fun _=>⟨e2,e3⟩⟩
  ·exact ⟨by omega,fun _=>⟨e2,e3⟩⟩
  ·exact ⟨by omega,fun _=>⟨f3,f4⟩⟩
  ·exact ⟨by omega,fun h=>absurd f1 h⟩
 refine (bfirst_any w g c s O key nodes pk h1 d.q d.off d.len d.ri d.p0 d.es h2 h3 lo hi st h5.oR h5.oL h5.lh h5.hm hd.1 hd.2 h5.oS h5.sr h5.sl).mono ?_;rintro e w' ⟨rfl,hb⟩;refine ⟨rfl,BC.of_to h2 h3 h4 h5 hb ?_⟩;rintro s' k' n' p' ⟨q1,q2,q3,q4,q5⟩;by_cases hl:lo < hi
 ·obtain ⟨r1,r2,r3,r4,e,r5,r6⟩:=q4 hl;exact .inr (.inr ⟨_,e,rfl,Nat.le_refl _,hl,r5,r6,r4,r3,.inl ⟨r1,r2,q2,q3,by rw [q1];exact h5.rs hl⟩⟩)
 ·have:=h5.lh;exact .inr (.inl ⟨by omega,(q5 hl).1,q2,q3⟩)
theorem BC.seek (h:BC w g S c d lo hi st cur) (hT:w.cell? ⟨c.tr,6,none⟩=some (.iface 192 (.agg #[]))) (hTa:¬ S c.tr) (ka:Option Addr) (kn kc:Nat) (tk:Bs) (hk:Sl w ka kn kc tk) (hka:∀ x p,ka=some ⟨x,p,none⟩→0 < kn→¬ S x) (hr:Rising d.es)
  (hhm:hi=d.es.length) (hs:SRange d.ri d.p0 d.es c lo) (j:Nat) (hj1:lo≤j) (hj2:j≤hi) (hj3:∀ i e,lo≤i→i < j→d.es[i]?=some e→Lib.compareBytes e.1 tk=-1) (hj4:∀ e,j < hi→d.es[j]?=some e→0≤Lib.compareBytes e.1 tk) :
  Calls Tryz.prog 77 #[.pointer (some ⟨g,0,none⟩),.slice ka kn kc] w fun e w'=>e=.returned (.bool (decide (j < hi)))∧BC w' g (grow S w w') c d lo hi st (j+1)∧Fr S w w':=by
 obtain ⟨s,O,key,nodes,pk,h1,h2,h3,h4,h5,h6⟩:=h;have hd:s.dir≤3∧(s.dir≠2→nodes=[]∧pk=[]):=by
  rcases h6 with ⟨_,e1,e2,e3⟩ | ⟨_,e1,e2,e3⟩ | ⟨k,e,_,_,_,_,_,_,_,⟨f1,f2,f3,f4,f5⟩ | ⟨f1,_⟩⟩
  ·exact ⟨by omega,fun _=>⟨e2,e3⟩⟩
  ·exact ⟨by omega,fun _=>⟨e2,e3⟩⟩
  ·exact ⟨by omega,fun _=>⟨f3,f4⟩⟩
  ·exact ⟨by omega,fun h=>absurd f1 h⟩
 refine (bseek_any w g c s O key nodes pk h1 d.q d.off d.len d.ri d.p0 d.es h2 h3 hT ⟨fun e=>hTa (h4 _ (.inl e)),fun e=>hTa (h4 _ (.inr e))⟩ ka kn kc tk hk (fun x p e h0=>⟨fun e'=>hka x p e h0 (h4 _ (.inl e')),fun e'=>hka x p e h0 (h4 _ (.inr e'))⟩) hr lo hi j h5.oR h5.oL hhm hs hd.1 hd.2 hj1 hj2 hj3 hj4).mono ?_;rintro e w' ⟨rfl,hb⟩;refine ⟨rfl,BC.of_to h2 h3 h4 h5 hb ?_⟩;rintro s' k' n' p' ⟨q2,q3,q4,q5⟩
 by_cases hl:j < hi
 ·obtain ⟨r1,r2,r3,r4,r7,e,r5,r6⟩:=q4 hl;exact .inr (.inr ⟨_,e,rfl,hj1,hl,r5,r6,r4,r3,.inl ⟨r1,r2,q2,q3,r7⟩⟩)
 ·exact .inr (.inl ⟨by omega,q5 hl,q2,q3⟩)
theorem BC.key (h:BC w g S c d lo hi st cur) {k:Nat} (hc:cur=k+1) (hk:k < hi):∃ e v n c',d.es[k]?=some e∧Sl w v n c' e.1∧(∀ x p,v=some ⟨x,p,none⟩→S x∧x≠g∧x≠c.p)∧Calls Tryz.prog 61 #[.pointer (some ⟨g,0,none⟩)] w fun r w'=>r=.returned (.slice v n c')∧w'=w:=by
 obtain ⟨s,O,key,nodes,pk,h1,h2,h3,h4,h5,h6⟩:=h;rcases h6 with ⟨e0,_⟩ | ⟨e0,_⟩ | ⟨k',e,e0,b1,b2,b3,b4,b5,b6,b7⟩
 ·omega
 ·omega
 ·obtain rfl:k'=k:=by omega
  have hkey:=h1.key;obtain ⟨a,c',hv,_,_,_⟩:=own_form hkey;have hd:2≤s.dir:=by rcases b7 with ⟨f1,_⟩ | ⟨f1,_⟩ <;> omega
  have hcall:=bkey_any h1 hd;rw [hv] at hkey hcall;have hO:=h1.keyO;rw [hv] at hO;refine ⟨e,a,key.length,c',b3,by rw [← b4];exact own_sl hkey,fun x p hx=>?_,hcall⟩;subst hx;have hOx:O.f=some x:=by rw [← hO];rfl
  exact ⟨h4 x (.inr (.inl hOx)),h1.dis.fb x hOx,fun e=>h3.2.2.1 (by rw [← e];exact .inl hOx)⟩
theorem BC.value (h:BC w g S c d lo hi st cur) {k:Nat} (hc:cur=k+1) (hk:k < hi):∃ e o c',d.es[k]?=some e∧Sl w (some ⟨d.q,o,none⟩) e.2.length c' e.2∧Calls Tryz.prog 64 #[.pointer (some ⟨g,0,none⟩)] w fun r w'=>r=.returned (.slice (some ⟨d.q,o,none⟩) e.2.length c')∧w'=w:=by
 obtain ⟨s,O,key,nodes,pk,h1,h2,h3,h4,h5,h6⟩:=h;rcases h6 with ⟨e0,_⟩ | ⟨e0,_⟩ | ⟨k',e,e0,b1,b2,b3,b4,b5,b6,b7⟩
 ·omega
 ·omega
 ·obtain rfl:k'=k:=by omega
  have hd:2≤s.dir:=by rcases b7 with ⟨f1,_⟩ | ⟨f1,_⟩ <;> omega
  have hcall:=bvalue_any h1 hd;obtain ⟨o,c',hv,hsl,_,_⟩:=h2.valSl b3;rw [b5,hv] at hcall;exact ⟨e,o,c',b3,hsl,hcall⟩
theorem BC.valid (h:BC w g S c d lo hi st cur) {k:Nat} (hc:cur=k+1) (hk:k < hi):Calls Tryz.prog 175 #[.pointer (some ⟨g,0,none⟩)] w fun r w'=>r=.returned (.bool true)∧w'=w:=by
 obtain ⟨s,O,key,nodes,pk,h1,h2,h3,h4,h5,h6⟩:=h;rcases h6 with ⟨e0,_⟩ | ⟨e0,_⟩ | ⟨k',e,e0,b1,b2,b3,b4,b5,b6,b7⟩
 ·omega
 ·omega
 ·exact bvalid_any h1 (by rcases b7 with ⟨f1,_⟩ | ⟨f1,_⟩ <;> omega)
theorem BC.lohi (h:BC w g S c d lo hi st cur):lo≤hi∧hi≤d.es.length:=by
 obtain ⟨_,_,_,_,_,_,_,_,_,h5,_⟩:=h;exact ⟨h5.lh,h5.hm⟩
theorem BC.curOk (h:BC w g S c d lo hi st cur):cur=0∨cur=hi+1∨(lo < cur∧cur≤hi):=by
 obtain ⟨_,_,_,_,_,_,_,_,_,_,h6⟩:=h;rcases h6 with ⟨e0,_⟩ | ⟨e0,_⟩ | ⟨k',e,e0,b1,b2,_⟩
 ·exact .inl e0
 ·exact .inr (.inl e0)
 ·exact .inr (.inr ⟨by omega,by omega⟩)
theorem BC.error (h:BC w g S c d lo hi st cur):Calls Tryz.prog 79 #[.pointer (some ⟨g,0,none⟩)] w fun r w'=>r=.returned .nilIface∧w'=w:=by
 obtain ⟨s,O,key,nodes,pk,h1,_⟩:=h;exact berror_any h1
end
end
section
open Go Go.RowKit Go.Shelf
def icN (r p:Nat) (x2:Value) (d:DBk):IC:=⟨r,p,x2,0,(bends d.ri d.p0 d.es).length,0,0,eoff d.ri d.p0 d.es d.es.length⟩
def isN (a:Option Addr):IS:=⟨.slice a 0 0,.slice none 0 0,0,0,.slice none 0 0,.slice none 0 0,0,0⟩
theorem newBI_bc {w w':World} {r p:Nat} {x2:Value} {d:DBk} (hE:BE w p d.q d.off d.len d.ri d.p0 d.es) (hw:∃ k,w'=((w.alloc (.cells #[] 5)).alloc (.cells (bic (icN r p x2 d) (isN (some ⟨w.heap.size,0,none⟩))) 226)).drewN k) :
  BC w' (w.heap.size+1) (fun k=>w.heap.size≤k∧k < w'.heap.size) (icN r p x2 d) d 0 d.es.length 0 0∧Below w.heap.size w w':=by
 obtain ⟨kk,rfl⟩:=hw;have hb:Below w.heap.size w (((w.alloc (.cells #[] 5)).alloc (.cells (bic (icN r p x2 d) (isN (some ⟨w.heap.size,0,none⟩))) 226)).drewN kk):=(((Below.refl _ w).alloc (Nat.le_refl _) _).alloc (by simp) _).trans (Below.drewN' _ _ _);have hpl:=hE.rb.blk.lt;have hql:=hE.rb.qlt;have hr:Blk (((w.alloc (.cells #[] 5)).alloc (.cells (bic (icN r p x2 d) (isN (some ⟨w.heap.size,0,none⟩))) 226)).drewN kk) w.heap.size #[] 5:=((Blk.new w #[] 5).alloc _).drewN kk
 have hB:=(Blk.new (w.alloc (.cells #[] 5)) (bic (icN r p x2 d) (isN (some ⟨w.heap.size,0,none⟩))) 226).drewN kk;rw [show (w.alloc (.cells #[] 5)).heap.size=w.heap.size+1 by simp] at hB;refine ⟨⟨isN (some ⟨w.heap.size,0,none⟩),⟨some w.heap.size,none,none⟩,[],[],[],⟨hB,⟨rfl,.inr ⟨w.heap.size,0,#[],rfl,Nat.zero_le _,hr,Nat.le_refl _,Nat.zero_le _,rfl,rfl⟩⟩,rfl,⟨rfl,.inl ⟨rfl,rfl⟩⟩,rfl,⟨rfl,.inl ⟨rfl,rfl⟩⟩,rfl,⟨fun k hk e=>?_,fun _ h=>(nomatch h),fun _ h=>(nomatch h),fun _ _ h=>(nomatch h),fun _ _ h=>(nomatch h),fun _ h=>(nomatch h)⟩⟩,hE.keep (hb.block _ hpl) (hb.block _ hql),⟨by show p≠_;omega,by omega,fun h=>?_,fun h=>?_⟩,fun k hk=>?_,⟨rfl,rfl,by omega,by omega,rfl,fun _=>Nat.zero_mod _,by omega,fun _=>by show 0*_≤_;omega⟩,.inl ⟨rfl,rfl,rfl,rfl⟩⟩,hb⟩
 ·have:w.heap.size=k:=Option.some.inj hk;omega
 ·have hp:(icN r p x2 d).p=p:=rfl;rw [hp] at h;rcases h with h | h | h
  ·have:w.heap.size=p:=Option.some.inj h;omega
  ·cases h
  ·cases h
 ·rcases h with h | h | h
  ·have:w.heap.size=d.q:=Option.some.inj h;omega
  ·cases h
  ·cases h
 ·have hsz:(((w.alloc (.cells #[] 5)).alloc (.cells (bic (icN r p x2 d) (isN (some ⟨w.heap.size,0,none⟩))) 226)).drewN kk).heap.size=w.heap.size+2:=by show (World.alloc (World.alloc _ _) _).heap.size=_;simp
  simp only at hk ⊢;rcases hk with h | h | h | h
  ·omega
  ·have:w.heap.size=_:=Option.some.inj h;omega
  ·cases h
  ·cases h
set_option maxHeartbeats 4000000 in
theorem newBI_any (w:World) (r p:Nat) (x2:Value) (incl:Bool) (d:DBk) (hE:BE w p d.q d.off d.len d.ri d.p0 d.es) (hx:x2=.nilIface∨x2=.iface 246 (.agg #[])∨x2=.iface 141 (.pointer (some ⟨p,0,none⟩))) :
  Calls Tryz.prog 59 #[.pointer (some ⟨r,0,none⟩),.pointer (some ⟨p,0,none⟩),x2,.pointer none,.bool incl] w fun e w'=>e=.returned (.pointer (some ⟨w.heap.size+1,0,none⟩)) ∧
   BC w' (w.heap.size+1) (fun k=>w.heap.size≤k∧k < w'.heap.size) (icN r p x2 d) d 0 d.es.length 0 0∧Below w.heap.size w w':=by
 have hz4:w.cell? ⟨p,4,none⟩=some (.int .i64 (bends d.ri d.p0 d.es).length):=hE.rb.blk.cell (k:=4) rfl;have hz5:w.cell? ⟨p,5,none⟩=some (.int .i64 (eoff d.ri d.p0 d.es d.es.length)):=hE.rb.blk.cell (k:=5) rfl;have hfin:=fun w'=>newBI_bc (w':=w') (r:=r) (x2:=x2) hE
 have hpl:=lt_of_cell hz4;have hpn:p≠w.heap.size:=by omega
 have hpn1:p≠w.heap.size+1:=by omega
 have HFIN:=hid hfin;clear hE hfin;have hpt:∀ x:Value,x2=x→Hid (x2=x):=fun _ h=>hid h
 have hmk:=mk0;unfold icN bic isN at HFIN;generalize hN:(bends d.ri d.p0 d.es).length=N at *;generalize hE:eoff d.ri d.p0 d.es d.es.length=E at *;have HN:=hid hN;have HE:=hid hE;clear hN hE;clear hpt;rcases hx with rfl | rfl | rfl;all_goals
  go_enter Tryz.func59,Tryz.ntmps59
  go_upto_region 1 with fail
  refine Pos.start (fun W:World=>W.cell? ⟨p,4,none⟩=some (.int .i64 N)∧W.cell? ⟨p,5,none⟩=some (.int .i64 (E))) 14 (by kernel_rfl) ?_;have hS:(fun W:World=>W.cell? ⟨p,4,none⟩=some (.int .i64 N)∧W.cell? ⟨p,5,none⟩=some (.int .i64 (E))) (w.drewN 1):=⟨hz4,hz5⟩;iterate 3
   refine' Pos.takeK hS rfl (by kernel_rfl) (fun _ _ _ h=>h) (by rfl) ?_ ?_;rotate_left
   ·intro W hW;obtain ⟨s1,s2⟩:=hW;go_simp;try with_reducible rfl
   intro K hK;go_simp;refine hK _ ?_;clear hK K
  refine Pos.toG 12 #[true,true,true,false,false,false,false,false,false,false,false,false,false,false,false] rfl (by kernel_rfl) ?_;refine' PosG.takeK (k:=4) hS rfl (by kernel_rfl) (fun _ _ _ h=>h) (by rfl) ?_ ?_;rotate_left
  ·intro W hW;obtain ⟨s1,s2⟩:=hW;go_simp;try with_reducible rfl
  intro K hK;go_simp;refine hK _ ?_;clear hK K;refine' PosG.takeK (k:=5) hS rfl (by kernel_rfl) (fun _ _ _ h=>h) (by rfl) ?_ ?_;rotate_left
  ·intro W hW;obtain ⟨s1,s2⟩:=hW;go_simp;try with_reducible rfl
  intro K hK;go_simp;refine hK _ ?_;clear hK K;refine' PosG.takeK (k:=6) hS rfl (by kernel_rfl) (fun _ _ _ h=>h) (by rfl) ?_ ?_;rotate_left
  ·intro W hW;obtain ⟨s1,s2⟩:=hW;go_simp;try with_reducible rfl
  intro K hK;go_simp;refine hK _ ?_;clear hK K;refine' PosG.takeK (k:=7) hS rfl (by kernel_rfl) (fun _ _ _ h=>h) (by rfl) ?_ ?_;rotate_left
  ·intro W hW;obtain ⟨s1,s2⟩:=hW;go_simp;try with_reducible rfl
  intro K hK;go_simp;refine hK _ ?_;clear hK K;refine' PosG.takeK (k:=8) hS rfl (by kernel_rfl) (fun _ _ _ h=>h) (by rfl) ?_ ?_;rotate_left
  ·intro W hW;obtain ⟨s1,s2⟩:=hW;go_simp;try with_reducible rfl
  intro K hK;go_simp;refine hK _ ?_;clear hK K;refine' PosG.takeK (k:=9) hS rfl (by kernel_rfl) (fun _ _ _ h=>h) (by rfl) ?_ ?_;rotate_left
  ·intro W hW;obtain ⟨s1,s2⟩:=hW;go_simp;try with_reducible rfl
  intro K hK;go_simp;refine hK _ ?_;clear hK K;refine' PosG.takeK (k:=10) hS rfl (by kernel_rfl) (fun _ _ _ h=>h) (by rfl) ?_ ?_;rotate_left
  ·intro W hW;obtain ⟨s1,s2⟩:=hW;go_simp;try with_reducible rfl
  intro K hK;go_simp;refine hK _ ?_;clear hK K;refine' PosG.takeK (k:=11) hS rfl (by kernel_rfl) (fun _ _ _ h=>h) (by rfl) ?_ ?_;rotate_left
  ·intro W hW;obtain ⟨s1,s2⟩:=hW;go_simp;try with_reducible rfl
  intro K hK;go_simp;refine hK _ ?_;clear hK K;clear hS;refine PosG.eff (k:=3) rfl (by kernel_rfl) ?_;go_wp2_with fail
  have hS:(fun W:World=>W.cell? ⟨p,4,none⟩=some (.int .i64 N)∧W.cell? ⟨p,5,none⟩=some (.int .i64 (E))) ((w.alloc (Obj.cells #[] 5)).drewN 1):=⟨by go_simp,by go_simp⟩;refine ⟨hS,?_⟩;refine' PosG.takeK (k:=12) hS rfl (by kernel_rfl) (fun _ _ _ h=>h) (by rfl) ?_ ?_;rotate_left
  ·intro W hW;obtain ⟨s1,s2⟩:=hW;go_simp;try with_reducible rfl
  intro K hK;go_simp;refine hK _ ?_;clear hK K;refine PosG.eff (k:=13) rfl (by kernel_rfl) ?_;go_wp2_with fail
  clear hS;refine ⟨⟨by go_simp,by go_simp⟩,?_⟩;refine PosG.tail rfl (by kernel_rfl) (by kernel_rfl) (by decide) ?_;simp only [List.drop_succ_cons,List.drop_zero];go_wp2_with fail
  go_ret
  obtain ⟨q1,q2⟩:=HFIN.out _ ⟨1,rfl⟩;refine ⟨by simp,?_,q2⟩;unfold icN;rw [HN.out,HE.out];exact q1
end
section
open Go Go.RowKit Go.Shelf
theorem bdata_last {ri:Nat} {p0:Bs} {es:List KV}:∃ r,(bdata ri p0 es).drop ((bdata ri p0 es).length - 4)=Lib.leBytes 4 (bends ri p0 es).length++r:=by
 have h:=bdata_end (ri:=ri) (p:=p0) (es:=es) (j:=(bends ri p0 es).length) (x:=(bends ri p0 es).length) (by rw [List.getElem?_append_right (Nat.le_refl _)];simp);rwa [show (bdata ri p0 es).length - 4=eoff ri p0 es es.length+4*(bends ri p0 es).length by rw [bdata_length];omega]
set_option maxHeartbeats 4000000 in
theorem readBlock_any (w:World) (r rd fc off:Nat) (fa:Option Addr) (F:Bs) (h:FR' w rd fa fc F) (hF:F.length≤2147483647) (h2:w.cell? ⟨r,2,none⟩=some (.iface 64 (.pointer (some ⟨rd,0,none⟩)))) (h4:w.cell? ⟨r,4,none⟩=some (.pointer none))
  (ri:Nat) (p0:Bs) (es:List KV) (hs:Sealed F off (bdata ri p0 es)) (hri:0 < ri) (hks:∀ e∈es,e.1.length≤1073741824) :
  Calls Tryz.prog 57 #[.pointer (some ⟨r,0,none⟩),.agg #[.int .u64 off,.int .u64 (bdata ri p0 es).length],.bool true] w fun e w'=>∃ p q,e=.returned (.tuple #[.pointer (some ⟨p,0,none⟩),.nilIface]) ∧
   BE w' p q off (bdata ri p0 es).length ri p0 es∧w.heap.size≤p∧w.heap.size≤q∧p≠q∧Below w.heap.size w w':=by
 have hlen:=hs.len;have hrl:=lt_of_cell h2;obtain ⟨w1,hw1⟩:∃ w1,w1=w.alloc (.cells #[.int .u64 off,.int .u64 (bdata ri p0 es).length] 114):=⟨_,rfl⟩;have hs1:w1.heap.size=w.heap.size+1:=by rw [hw1];simp
 have hb1:Below w.heap.size w w1:=by rw [hw1];exact (Below.refl _ _).alloc (Nat.le_refl _) _
 have hbox:Blk w1 w.heap.size #[.int .u64 off,.int .u64 (bdata ri p0 es).length] 114:=by rw [hw1];exact Blk.new w _ _
 have hraw:=raw_any w1 r rd fc off fa F _ (h.fr (S:=fun _=>False) (Fr.of_below hb1) (fun h=>h) (fun _ _ h=>h)) hF ((World.cell?_of_block (a:=⟨r,2,none⟩) (hb1.block r hrl)).trans h2) ((World.cell?_of_block (a:=⟨r,4,none⟩) (hb1.block r hrl)).trans h4) hs;rw [hs1] at hraw;obtain ⟨rr,hbl⟩:=bdata_last (ri:=ri) (p0:=p0) (es:=es);have hbd:=bdata_length (ri:=ri) (p:=p0) (es:=es);have hz0:=hbox.cell (k:=0) rfl
 have hz1:=hbox.cell (k:=1) rfl;have HB1:=hid hb1;have HX:=hid hbox;clear h hb1 hs hbox;generalize hD:bdata ri p0 es=D at *;generalize hN:(bends ri p0 es).length=N at *;generalize hE:eoff ri p0 es es.length=E at *;have HD:=hid hD;have HN:=hid hN;have HE:=hid hE;clear hD hN hE;have hsl:∀ w',(Instr.slice 29 (.slice (some ⟨w.heap.size+1+1,0,none⟩) D.length (D.length+5)) (some (.int .i64 ((D.length:Int) - 4))) none none).run Tryz.prog w'=.ok (.slice (some ⟨w.heap.size+1+1,D.length - 4,none⟩) 4 9) w':=fun w'=>by
  have:=run_slice_lo (P:=Tryz.prog) 29 5 un29 sz5 .i64 (some ⟨w.heap.size+1+1,0,none⟩) D.length (D.length+5) (D.length - 4) (by omega) w';rw [cutA_some (by omega),show D.length - (D.length - 4)=4 by omega,Nat.zero_add,show D.length+5 - (D.length - 4)=9 by omega] at this;rwa [show ((D.length:Int) - 4)=((D.length - 4:Nat):Int) by omega]
 have HBD:=hid hbd;have hwr:IntKind.i64.wrap ((D.length:Int) - 4)=(D.length:Int) - 4:=IntWalk.i64_in _ (by omega);clear hbd;go_enter Tryz.func57,Tryz.ntmps57
 go_wp2_with fail
 rw [← hw1];refine hraw.mono ?_;rintro e w2 ⟨rfl,hsl2,hb2⟩;have hbd:=HBD.out;have hcut:=hsl2.cut (lo:=D.length - 4) (by omega);rw [cutA_some (by omega),show D.length - (D.length - 4)=4 by omega,Nat.zero_add,show D.length+5 - (D.length - 4)=9 by omega,hbl] at hcut;have hrr:rr=[]:=by
  have:=hcut.len;rw [List.length_append,leBytes_length] at this;exact List.length_eq_zero_iff.1 (by omega)
 subst hrr;rw [List.append_nil] at hcut;have hu:=fun k=>uint32_any _ _ _ _ (w2.drewN k) (hcut.drewN k) (Nat.le_refl _)
 have hle:Lib.leNat ((Lib.leBytes 4 N).take 4)=N:=by
  rw [List.take_of_length_le (by rw [leBytes_length];omega),leNat_leBytes 4 _ (by omega)]
 rw [hle] at hu;have hb2':Below (w.heap.size+1) w1 w2:=by rw [← hs1];exact hb2.mono (by omega)
 have hbx2:Blk w2 w.heap.size #[.int .u64 off,.int .u64 D.length] 114:=(hb2'.block _ (by omega)).trans HX.out;have HSL:=hid hsl2;have HB2:=hid hb2';have HX2:=hid hbx2;clear hraw hbd hsl2 hb2 hcut hle hbl hb2' hbx2 hw1 hz0 hz1;dsimp only;go_wp2_with fail
 refine wp_tail 6 (by kernel_rfl) ?_;simp only [List.take_succ_cons,List.take_zero,List.drop_succ_cons,List.drop_zero];repeat still_step
 refine wpStill_nil ?_;go_wp2_with fail
 refine (hu _).mono ?_;rintro e w3 ⟨rfl,hb3⟩;have hbd:=HBD.out;have hNb:N≤2147483647:=by omega
 have hwN:wrap64 (N:Int)=(N:Int):=IntWalk.wrap64_in _ ⟨by omega,by omega⟩;clear hu hsl hwr;have hb3':Below w2.heap.size w2 w3:=⟨hb3.os,hb3.tape,hb3.output,hb3.size,fun k hk=>hb3.block k hk⟩;have hsz2:=HB2.out.size;have hw23:=hb3'.size;have hq2:w.heap.size+2 < w2.heap.size:=lt_of_cell (HSL.out.cellAt (j:=0) (by omega));have hbx3:Blk w3 w.heap.size #[.int .u64 off,.int .u64 D.length] 114:=(hb3'.block _ HX2.out.lt).trans HX2.out
 have hz0:=hbx3.cell (k:=0) rfl;have hz1:=hbx3.cell (k:=1) rfl;have hbb:Below w.heap.size w w3:=(HB1.out.trans (HB2.out.mono (by omega))).trans (hb3'.mono (by omega));have hr4:w3.cell? ⟨r,4,none⟩=some (.pointer none):=(World.cell?_of_block (a:=⟨r,4,none⟩) (hbb.block r hrl)).trans h4;have HSL3:Hid (Sl w3 (some ⟨w.heap.size+1+1,0,none⟩) D.length (D.length+5) D):=hid (HSL.out.fr (S:=fun _=>False) (Fr.of_below hb3') (fun _ _ h=>h))
 have HB:=hid hbb;have hw4:IntKind.i64.wrap (((N:Int)+1)*4)=((N:Int)+1)*4:=IntWalk.i64_in _ (by omega);have hw5:IntKind.i64.wrap ((D.length:Int) - ((N:Int)+1)*4)=(E:Int):=by rw [show (D.length:Int) - ((N:Int)+1)*4=(E:Int) by omega];exact IntWalk.i64_in _ (by omega)
 clear hb3 hb3' hbx3 hbb h2;clear hbd;dsimp only;go_upto_region 5 with fail
 refine wp_tail 14 (by kernel_rfl) ?_;simp only [List.take_succ_cons,List.take_zero,List.drop_succ_cons,List.drop_zero];repeat still_step
 refine wpStill_nil ?_;go_wp2_with fail
 go_returns
 have hbd:=HBD.out;have he:((D.length:Int) - ((N:Int)+1)*4)=(E:Int):=by omega
 rw [he];have hlt3:w.heap.size+1+1 < w3.heap.size:=by omega
 have hblk:=Blk.new w3 #[Value.pointer none,Value.int IntKind.u64 off,Value.int IntKind.u64 D.length,Value.slice (some ⟨w.heap.size+1+1,0,none⟩) D.length (D.length+5),Value.int IntKind.i64 N,Value.int IntKind.i64 E] 221;refine ⟨w3.heap.size,w.heap.size+1+1,rfl,⟨?_,hri,hks⟩,by omega,by omega,by omega,?_⟩
 ·rw [HD.out,HN.out,HE.out];refine ⟨hblk.drewN 1,(HSL3.out.fr (S:=fun _=>False) (((Fr.refl _ _).alloc _).drewN 1) (fun _ _ h=>h)),by omega,by omega⟩
 ·exact (HB.out.alloc (by omega) _).trans (Below.drewN' _ _ _)
end
end Go.Proofs.YtmkdpjicgjhhjaaGreatDoor
