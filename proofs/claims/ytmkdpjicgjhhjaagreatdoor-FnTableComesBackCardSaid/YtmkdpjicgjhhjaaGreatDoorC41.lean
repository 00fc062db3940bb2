/- Part 41 of the proof of FnTableComesBack: contracts and lemmas, each under the conditions that it states. Texts: RTa, L2, L3. -/
import Derived.Test.YtmkdpjicgjhhjaaGreatDoorC39
import Derived.Test.YtmkdpjicgjhhjaaGreatDoorC40
import Derived.Test.YtmkdpjicgjhhjaaGreatDoorC36
namespace Go.Proofs.YtmkdpjicgjhhjaaGreatDoor
open Go.Lib (hid)
set_option maxRecDepth 100000
set_option linter.all false
section
open Go Go.RowKit Go.Shelf
structure OpV where
 kind:Int
 key:Bs
 val:Bs
 n:Int
structure Ans where
 ps:List KV
 fs:List Bool
 n:Int
 ok:Bool
def optB (l:Bs):Option Bs:=if l=[] then none else some l
def rEnd (l:List KV):Option Bs→Nat
 | none=>l.length
 | some t=>sidx l t
structure AnsOk (l:List KV) (o:OpV) (a:Ans):Prop where
 get:o.kind=2→(a.ok=true∧∃ ev:KV,l[sidx l o.key]?=some ev∧ev.1=o.key∧a.ps=[ev])∨(a.ok=false∧∀ ev:KV,l[sidx l o.key]?=some ev→ev.1≠o.key)
 find:o.kind=3→(a.ok=true∧∃ ev:KV,l[sidx l o.key]?=some ev∧a.ps=[ev])∨(a.ok=false∧(sidx l o.key=l.length∨(o.n=1∧∀ ev:KV,l[sidx l o.key]?=some ev→ev.1≠o.key)))
 fwd:o.kind=7→a.ps=l
 bwd:o.kind=8→a.ps=l.reverse
 rng:o.kind=9→a.ps=(l.take (rEnd l (optB o.val))).drop (rLo l (optB o.key))
 scr:o.kind=10→a.ps=sPrs l (sidx l o.key) 0 o.val o.val.length∧a.fs=sFls l.length (sidx l o.key) 0 o.val o.val.length
structure OpsAt (B:Nat) (w:World) (a:Option Addr) (n c:Nat) (l:List OpV):Prop where
 len:l.length=n
 cap:n≤c
 at':∀ i o,l[i]?=some o→∃ g p k1 n1 c1 k2 n2 c2,a=some ⟨g,p,none⟩∧g < B∧w.cell? ⟨g,p+i*4,none⟩=some (.int .i64 o.kind)∧w.cell? ⟨g,p+i*4+1,none⟩=some (.slice k1 n1 c1)∧w.cell? ⟨g,p+i*4+2,none⟩=some (.slice k2 n2 c2)∧w.cell? ⟨g,p+i*4+3,none⟩=some (.int .i64 o.n)∧Key B w k1 n1 c1 o.key∧Key B w k2 n2 c2 o.val
theorem OpsAt.below {B:Nat} {w w':World} {a:Option Addr} {n c:Nat} {l:List OpV} (h:OpsAt B w a n c l) (hb:Below B w w'):OpsAt B w' a n c l :=
 ⟨h.len,h.cap,fun i o ho=>by
  obtain ⟨g,p,k1,n1,c1,k2,n2,c2,h1,h2,h3,h4,h5,h6,h7,h8⟩:=h.at' i o ho;have hc:∀ j,w'.cell? ⟨g,j,none⟩=w.cell? ⟨g,j,none⟩:=fun j=>World.cell?_of_block (a:=⟨g,j,none⟩) (hb.block g h2)
  exact ⟨g,p,k1,n1,c1,k2,n2,c2,h1,h2,(hc _).trans h3,(hc _).trans h4,(hc _).trans h5,(hc _).trans h6,h7.below hb,h8.below hb⟩⟩
def acells (c:Value × Value) (a:Ans):List Value:=[c.1,c.2,.int .i64 a.n,.bool a.ok]
def flatA:List (Value × Value)→List Ans→List Value
 | c :: cs,a :: l=>acells c a++flatA cs l
 | _,_=>[]
theorem flatA_app:∀ (cs:List (Value × Value)) (l:List Ans) (c:Value × Value) (a:Ans),cs.length=l.length→flatA (cs++[c]) (l++[a])=flatA cs l++acells c a
 | [],[],c,a,_=>by simp [flatA]
 | x :: cs,y :: l,c,a,h=>by
  simp only [List.cons_append,flatA,List.append_assoc];rw [flatA_app cs l c a (by simpa using h)]
 | [],_ :: _,_,_,h=>by simp at h
 | _ :: _,[],_,_,h=>by simp at h
theorem flatA_len:∀ (cs:List (Value × Value)) (l:List Ans),cs.length=l.length→(flatA cs l).length=l.length*4
 | [],[],_=>rfl
 | x :: cs,y :: l,h=>by
  simp only [flatA,List.length_append,acells,List.length_cons,List.length_nil];rw [flatA_len cs l (by simpa using h)];omega
 | [],_ :: _,h=>by simp at h
 | _ :: _,[],h=>by simp at h
def ARow (S:Nat→Prop) (w:World) (c:Value × Value) (a:Ans):Prop:=∃ rs,PairsAt S w c.1 a.ps rs∧w.ownsRow 0 4 1 c.2 a.fs.length (bools a.fs)∧∀ g,c.2.ownBlock=some g→S g
theorem ARow.keep {S S':Nat→Prop} {w w':World} {c:Value × Value} {a:Ans} (h:ARow S w c a) (hk:∀ k,S k→w'.heap[k]?=w.heap[k]?) (hS:∀ k,S k→S' k):ARow S' w' c a:=by
 obtain ⟨rs,h1,h2,h3⟩:=h;exact ⟨rs,h1.keep hk hS,own_same h2 (fun g e=>hk g (h3 g e)),fun g e=>hS g (h3 g e)⟩
theorem un32:Tryz.prog.underlying 32=some (.slice 71):=by kernel_rfl
theorem info71:(Tryz.prog.info? 71).map (fun i=>(i.zero,i.size,i.bytes))=some (some (.agg #[.slice none 0 0,.slice none 0 0,.int .i64 0,.bool false]),4,64):=by kernel_rfl
structure AnssAt (w:World) (v:Value) (l:List Ans) (cs:List (Value × Value)):Prop where
 len:cs.length=l.length
 own:w.ownsRow 0 71 4 v l.length (flatA cs l)
 at':∀ (i:Nat) (c:Value × Value) (a:Ans),cs[i]?=some c→l[i]?=some a→ARow (fun k=>k < w.heap.size∧v.ownBlock≠some k) w c a
theorem AnssAt.nil (w:World):AnssAt w (.slice none 0 0) [] []:=⟨rfl,World.ownsRow_nil w 0 71 4,fun i c a h=>by simp at h⟩
theorem AnssAt.below {w w':World} {v:Value} {l:List Ans} {cs:List (Value × Value)} (h:AnssAt w v l cs) (hb:Below w.heap.size w w'):AnssAt w' v l cs :=
 ⟨h.len,own_same h.own (fun g e=>hb.block g (own_lt h.own e)),fun i c a h1 h2=>(h.at' i c a h1 h2).keep (fun k hk=>hb.block k hk.1) (fun k hk=>⟨Nat.lt_of_lt_of_le hk.1 hb.size,hk.2⟩)⟩
theorem AnssAt.app {w w2:World} {v:Value} {l:List Ans} {cs:List (Value × Value)} (h:AnssAt w v l cs) {c:Value × Value} {a:Ans} (hb:Below w.heap.size w w2) (hr:ARow (fun k=>w.heap.size≤k∧k < w2.heap.size) w2 c a) :
  (w2.alloc (.cells #[c.1,c.2,.int .i64 a.n,.bool a.ok] 71)).ownsRow 0 71 4 v l.length (flatA cs l)∧∀ v8 w8,w8.ownsRow 0 71 4 v8 (l.length+1) (flatA cs l++acells c a)→(w2.alloc (.cells #[c.1,c.2,.int .i64 a.n,.bool a.ok] 71)).grownBy w8 v.ownBlock→Lies (w2.alloc (.cells #[c.1,c.2,.int .i64 a.n,.bool a.ok] 71)) v v8→AnssAt w8 v8 (l++[a]) (cs++[c])∧∀ B,B≤w.heap.size→(∀ g,v.ownBlock=some g→B≤g)→Below B w w8∧∀ g,v8.ownBlock=some g→B≤g:=by
 have hb3:Below w2.heap.size w2 (w2.alloc (.cells #[c.1,c.2,.int .i64 a.n,.bool a.ok] 71)):=(Below.refl _ _).alloc (Nat.le_refl _) _;have hs3:(w2.alloc (.cells #[c.1,c.2,.int .i64 a.n,.bool a.ok] 71)).heap.size=w2.heap.size+1:=by simp
 have hs2:=hb.size;generalize (w2.alloc (.cells #[c.1,c.2,.int .i64 a.n,.bool a.ok] 71))=w3 at *;have hbb:Below w.heap.size w w3:=hb.trans (hb3.mono hs2);refine ⟨own_same h.own (fun g e=>hbb.block g (own_lt h.own e)),fun v8 w8 g1 g2 g3=>?_⟩;have hs8:=g2.size;have hv8:∀ g,v8.ownBlock=some g→v.ownBlock=some g∨g=w3.heap.size:=fun g hg=>by
  rcases g3 with e | e
  ·exact .inl (e.symm.trans hg)
  ·rw [hg] at e;exact .inr (by simpa using e)
 have hold:∀ g,v.ownBlock=some g→g < w.heap.size:=fun g e=>own_lt h.own e
 refine ⟨⟨by simp [h.len],by rw [List.length_append,flatA_app _ _ _ _ h.len];simpa using g1,fun i c' a' h1 h2=>?_⟩,fun B hB hv=>⟨?_,fun g hg=>?_⟩⟩
 ·by_cases hi:i < l.length
  ·rw [List.getElem?_append_left (by rw [h.len];exact hi)] at h1;rw [List.getElem?_append_left hi] at h2;refine (h.at' i c' a' h1 h2).keep (fun k hk=>(g2.block k (by omega) (fun e=>hk.2 e.symm)).trans (hbb.block k hk.1)) (fun k hk=>⟨by omega,fun e=>?_⟩);rcases hv8 k e with e | e
   ·exact hk.2 e
   ·omega
  ·have h3:=lt_of_some h2;rw [List.length_append,List.length_singleton] at h3;have:i=l.length:=by omega
   subst this;rw [List.getElem?_append_right (by rw [h.len];exact Nat.le_refl _),h.len] at h1;rw [List.getElem?_append_right (Nat.le_refl _)] at h2;simp at h1 h2;subst h1 h2;refine hr.keep (fun k hk=>(g2.block k (by omega) (fun e=>by have:=hold k e.symm;omega)).trans (hb3.block k hk.2)) (fun k hk=>⟨by omega,fun e=>?_⟩);rcases hv8 k e with e | e
   ·have:=hold k e;omega
   ·omega
 ·exact (hbb.mono hB).trans ⟨g2.os,g2.tape,g2.output,g2.size,fun k hk=>g2.block k (by have:=hbb.size;omega) (fun e=>by have:=hv k e.symm;omega)⟩
 ·rcases hv8 g hg with e | e
  ·exact hv g e
  ·omega
theorem pairs_one {S:Nat→Prop} {w:World} {r:Value × Value} {ev:KV} (h:PrV S w r ev) (hS:∀ k,S k→k < w.heap.size):PairsAt (fun k=>S k∨k=w.heap.size) (w.alloc (.cells #[r.1,r.2] 40)) (.slice (some ⟨w.heap.size,0,none⟩) 1 1) [ev] [r]:=by
 refine ⟨rfl,?_,fun g hg=>.inr (by cases hg;rfl),fun i r' ev' h1 h2=>?_⟩
 ·exact World.ownsRow_lit w #[r.1,r.2] 1 (Nat.zero_le _) (by unfold maxLen;omega) rfl
 ·have hi:=lt_of_some h2;have:i=0:=by simp at hi;omega
  subst this;simp at h1 h2;subst h1 h2;refine h.keep (fun g hg=>?_) (fun k hk=>.inl hk);obtain ⟨_,_,_,_,_,_,_,_,q⟩:=id h;exact Below.heap_alloc w _ g (hS g (q g hg))
theorem TI.ok.kvb {T:TI} (h:T.ok):(∀ e∈T.l,e.1.length≤4294967295∧e.2.length≤4294967295)∧T.l.length≤2147483647:=by
 have h1:=h.tot;refine ⟨fun e he=>?_,by have:=len_le_tot T.l;omega⟩;have h2:=tot_mem he;unfold kvs at h2;omega
theorem bndAt_of {B:Nat} {w:World} {a:Option Addr} {n c:Nat} {l:Bs} (h:Key B w a n c l) (hB:B≤w.heap.size):BndAt w (bnd a n c) (optB l):=by
 have hl:=h.sl.len;unfold bnd optB;by_cases h0:0 < n
 ·rw [if_pos h0,if_neg (fun e=>by rw [e] at hl;simp at hl;omega)];obtain ⟨b,o,rfl⟩:=h.sl.form h0;exact ⟨b,o,n,c,rfl,Nat.lt_of_lt_of_le (h.low b o rfl h0) hB,h.sl⟩
 ·rw [if_neg h0,if_pos (List.length_eq_zero_iff.1 (by omega))];rfl
theorem Key.up {B B':Nat} {w:World} {a:Option Addr} {n c:Nat} {l:Bs} (h:Key B w a n c l) (hB:B≤B'):Key B' w a n c l:=⟨h.sl,fun g p e h0=>Nat.lt_of_lt_of_le (h.low g p e h0) hB⟩
theorem key_vis' {P:IP} (hok:P.T.ok) {s t:Option Bs} {sl:Option Addr} (hR:P.R=keyIR P.T s t sl):vis P=(P.T.l.take (rEnd P.T.l t)).drop (rLo P.T.l s):=by
 have h:=key_vis hok hR;cases t <;> exact h
theorem optB_ne (l:Bs):optB l≠some []:=fun e=>by
 unfold optB at e;split at e
 ·cases e
 ·rename_i h;exact h (Option.some.inj e)
def AnsNew (l:List KV) (o:OpV) (ab:Nat) (wr wx:World):Prop:=∃ (c:Value × Value) (a:Ans),Blk wx ab #[c.1,c.2,.int .i64 a.n,.bool a.ok] 71∧ARow (fun k=>wr.heap.size≤k∧k < wx.heap.size) wx c a∧AnsOk l o a∧Below wr.heap.size wr wx
theorem ansOk_none {l:List KV} {o:OpV} {a:Ans} (h:o.kind≠2∧o.kind≠3∧o.kind≠7∧o.kind≠8∧o.kind≠9∧o.kind≠10):AnsOk l o a:=⟨fun e=>absurd e h.1,fun e=>absurd e h.2.1,fun e=>absurd e h.2.2.1,fun e=>absurd e h.2.2.2.1,fun e=>absurd e h.2.2.2.2.1,fun e=>absurd e h.2.2.2.2.2⟩
theorem aRow_nil (S:Nat→Prop) (w:World) (n:Int) (ok:Bool):ARow S w (.slice none 0 0,.slice none 0 0) ⟨[],[],n,ok⟩:=⟨[],PairsAt.nil S w,World.ownsRow_nil w 0 4 1,fun g e=>(nomatch e)⟩
section
variable {l:List KV} {o:OpV} {ab:Nat} {wr w7 w8 w9:World}
theorem sl_set {w:World} {a:Option Addr} {n c j:Nat} {bs:Bs} {v:Value} (h:Sl w a n c bs) (hB:Blk w ab zA 71):Sl (w.setCell ⟨ab,j,none⟩ v) a n c bs :=
 ⟨h.len,h.cap,h.max,h.nil,fun i hi=>by
  obtain ⟨b,o,rfl,hc⟩:=h.cell i hi;refine ⟨b,o,rfl,?_⟩;have hne:b≠ab:=by
   rintro rfl;have h1:=hB.cell' (o+i);rw [hc] at h1;rcases Nat.lt_or_ge (o+i) 4 with h2 | h2
   ·rcases (show o+i=0∨o+i=1∨o+i=2∨o+i=3 by omega) with h3 | h3 | h3 | h3 <;> rw [h3] at h1 <;> simp [zA] at h1
   ·rw [Array.getElem?_eq_none (by simpa [zA] using h2)] at h1;cases h1
  rw [World.cell?_of_block (a:=⟨b,o+i,none⟩) (Below.heap_setCell w ⟨ab,j,none⟩ v b hne)];exact hc⟩
theorem prv_copies {a1 a2:Option Addr} {c1 c2:Nat} {ev:KV} (h1:w8.ownsRow 0 5 1 (.slice a1 ev.1.length c1) ev.1.length (bv ev.1)) (b1:∀ k,(Value.slice a1 ev.1.length c1).ownBlock=some k→w7.heap.size≤k) (hb:Below w8.heap.size w8 w9) (h78:w7.heap.size≤w8.heap.size)
  (h2:w9.ownsRow 0 5 1 (.slice a2 ev.2.length c2) ev.2.length (bv ev.2)) (b2:∀ k,(Value.slice a2 ev.2.length c2).ownBlock=some k→w8.heap.size≤k):PrV (fun g=>w7.heap.size≤g∧g < w9.heap.size) w9 (.slice a1 ev.1.length c1,.slice a2 ev.2.length c2) ev :=
 ⟨a1,c1,a2,c2,rfl,rfl,own_same h1 (fun g e=>hb.block g (own_lt h1 e)),h2,fun g hg=>by
  rcases hg with e | e
  ·exact ⟨b1 g e,Nat.lt_of_lt_of_le (own_lt h1 e) hb.size⟩
  ·exact ⟨Nat.le_trans h78 (b2 g e),own_lt h2 e⟩⟩
theorem ans_none (hB:Blk w7 ab zA 71) (hab:wr.heap.size≤ab) (hbl:Below wr.heap.size wr w7) (b:Bool) (hok:AnsOk l o ⟨[],[],0,b⟩):AnsNew l o ab wr (w7.setCell ⟨ab,3,none⟩ (.bool b)) :=
 ⟨(.slice none 0 0,.slice none 0 0),⟨[],[],0,b⟩,by have:=hB.set 3 (.bool b);simpa [zA] using this,aRow_nil _ _ 0 b,hok,hbl.setCell (p:=⟨ab,3,none⟩) hab _⟩
theorem ans_pair (hB:Blk w7 ab zA 71) (hab:wr.heap.size≤ab) (hbl:Below wr.heap.size wr w7) {w7':World} (h7:w7'=w7.setCell ⟨ab,3,none⟩ (.bool true)) (h9:Below w7'.heap.size w7' w9) {x y:Value} {ev:KV} (hp:PrV (fun g=>w7'.heap.size≤g∧g < w9.heap.size) w9 (x,y) ev) (hok:AnsOk l o ⟨[ev],[],0,true⟩) :
  AnsNew l o ab wr ((w9.setCell ⟨ab,0,none⟩ (.slice (some ⟨w9.heap.size,0,none⟩) 1 1)).alloc (.cells #[x,y] 40)):=by
 have hB7:Blk w7' ab #[.slice none 0 0,.slice none 0 0,.int .i64 0,.bool true] 71:=by rw [h7];have:=hB.set 3 (.bool true);simpa [zA] using this
 have hbl7:Below wr.heap.size wr w7':=by rw [h7];exact hbl.setCell (p:=⟨ab,3,none⟩) hab _
 have hl7:=hB7.lt;have hs9:=h9.size;have hs7:=hbl7.size;have hB8:Blk w9 ab #[.slice none 0 0,.slice none 0 0,.int .i64 0,.bool true] 71:=(h9.block ab hl7).trans hB7;rw [← World.setCell_alloc_past (w:=w9) (.cells #[x,y] 40) ab 0 _ hB8.lt];have hB9:=hB8.alloc (.cells #[x,y] 40);have hbl9:Below wr.heap.size wr (w9.alloc (.cells #[x,y] 40)):=(hbl7.trans (h9.mono hs7)).alloc (by omega) _;refine ⟨(.slice (some ⟨w9.heap.size,0,none⟩) 1 1,.slice none 0 0),⟨[ev],[],0,true⟩,by have:=hB9.set 0 (.slice (some ⟨w9.heap.size,0,none⟩) 1 1);simpa using this,⟨_,(pairs_one hp (fun k hk=>hk.2)).keep (fun k hk=>?_) (fun k hk=>?_),World.ownsRow_nil _ 0 4 1,fun g e=>(nomatch e)⟩,hok,hbl9.setCell (p:=⟨ab,0,none⟩) hab _⟩
 ·refine Below.heap_setCell _ _ _ k ?_;show k≠ab
  rcases hk with hk | hk <;> omega
 ·have hsz:((w9.alloc (.cells #[x,y] 40)).setCell ⟨ab,0,none⟩ (.slice (some ⟨w9.heap.size,0,none⟩) 1 1)).heap.size=w9.heap.size+1:=by simp [World.setCell]
  rw [hsz];rcases hk with hk | hk
  ·exact ⟨by omega,by omega⟩
  ·exact ⟨by omega,by omega⟩
theorem ans_agg {va:Value} (hB:Blk w8 ab #[va,.slice none 0 0,.int .i64 0,.bool false] 71) (hab:wr.heap.size≤ab) (hbl:Below wr.heap.size wr w8) {pv fv:Value} {ps:List KV} {fs:List Bool} (hr:ARow (fun k=>wr.heap.size≤k∧k < w8.heap.size∧k≠ab) w8 (pv,fv) ⟨ps,fs,0,true⟩) (hok:AnsOk l o ⟨ps,fs,0,true⟩) :
  AnsNew l o ab wr ((((w8.setCell ⟨ab,0,none⟩ pv).setCell ⟨ab,1,none⟩ fv).setCell ⟨ab,2,none⟩ (.int .i64 0)).setCell ⟨ab,3,none⟩ (.bool true)):=by
 have hf:Fr (fun k=>k=ab) w8 ((((w8.setCell ⟨ab,0,none⟩ pv).setCell ⟨ab,1,none⟩ fv).setCell ⟨ab,2,none⟩ (.int .i64 0)).setCell ⟨ab,3,none⟩ (.bool true)):=Fr.setC (S:=fun k=>k=ab) (Fr.setC (S:=fun k=>k=ab) (Fr.setC (S:=fun k=>k=ab) (Fr.setC (S:=fun k=>k=ab) (Fr.refl _ w8) ab 0 _ rfl) ab 1 _ rfl) ab 2 _ rfl) ab 3 _ rfl;refine ⟨(pv,fv),⟨ps,fs,0,true⟩,by have:=(((hB.set 0 pv).set 1 fv).set 2 (.int .i64 0)).set 3 (.bool true);simpa using this,hr.keep (fun k hk=>hf.block k hk.2.1 hk.2.2) (fun k hk=>⟨hk.1,Nat.lt_of_lt_of_le hk.2.1 hf.size⟩),hok,hbl.trans (hf.below hbl.size (fun k hk e=>by omega))⟩
end
theorem newBytes_any (w:World) (a:Option Addr) (n c:Nat):Calls Tryz.prog 24 #[.slice a n c] w fun e w'=>e=.returned (.pointer (some ⟨w.heap.size,0,none⟩))∧w'=w.alloc (.cells #[.slice a n c,.int .i64 0,.int .i64 (-1)] 161):=by
 go_enter Tryz.func24,Tryz.ntmps24
 go_wp2
 go_ret
 exact ⟨rfl,rfl⟩
end
section
open Go Go.RowKit Go.Shelf
theorem fits7_any (w:World) (ka va:Option Addr) (kn kc vn vc:Nat):Calls Tryz.prog 13 #[.agg #[.slice ka kn kc,.slice va vn vc]] w fun e w'=>e=.returned (.bool (decide (kn≤2147483647∧vn≤2147483647)))∧Below w.heap.size w w':=by
 have hb:Below w.heap.size w (w.alloc (.cells #[.slice ka kn kc,.slice va vn vc] 40)):=(Below.refl _ _).alloc (Nat.le_refl _) _;have HB:=hid hb;clear hb;by_cases h1:kn≤2147483647
 ·by_cases h2:vn≤2147483647
  ·rw [decide_eq_true (show kn≤2147483647∧vn≤2147483647 from ⟨h1,h2⟩)];go_enter Tryz.func13,Tryz.ntmps13
   go_wp2
   go_ret
   exact ⟨rfl,HB.out⟩
  ·rw [decide_eq_false (show ¬ (kn≤2147483647∧vn≤2147483647) from fun h=>h2 h.2)];go_enter Tryz.func13,Tryz.ntmps13
   go_wp2
   go_ret
   exact ⟨rfl,HB.out⟩
 ·rw [decide_eq_false (show ¬ (kn≤2147483647∧vn≤2147483647) from fun h=>h1 h.1)];go_enter Tryz.func13,Tryz.ntmps13
  go_wp2
  go_ret
  exact ⟨rfl,HB.out⟩
theorem fits5_any (w:World) (ka va:Option Addr) (kn kc vn vc:Nat) (kind n:Int):Calls Tryz.prog 14 #[.agg #[.int .i64 kind,.slice ka kn kc,.slice va vn vc,.int .i64 n]] w fun e w'=>e=.returned (.bool (decide (kn≤2147483647∧vn≤2147483647)))∧Below w.heap.size w w':=by
 have hb:Below w.heap.size w (w.alloc (.cells #[.int .i64 kind,.slice ka kn kc,.slice va vn vc,.int .i64 n] 43)):=(Below.refl _ _).alloc (Nat.le_refl _) _;have HB:=hid hb;clear hb;by_cases h1:kn≤2147483647
 ·by_cases h2:vn≤2147483647
  ·rw [decide_eq_true (show kn≤2147483647∧vn≤2147483647 from ⟨h1,h2⟩)];go_enter Tryz.func14,Tryz.ntmps14
   go_wp2
   go_ret
   exact ⟨rfl,HB.out⟩
  ·rw [decide_eq_false (show ¬ (kn≤2147483647∧vn≤2147483647) from fun h=>h2 h.2)];go_enter Tryz.func14,Tryz.ntmps14
   go_wp2
   go_ret
   exact ⟨rfl,HB.out⟩
 ·rw [decide_eq_false (show ¬ (kn≤2147483647∧vn≤2147483647) from fun h=>h1 h.1)];go_enter Tryz.func14,Tryz.ntmps14
  go_wp2
  go_ret
  exact ⟨rfl,HB.out⟩
set_option maxHeartbeats 4000000 in
theorem fits6_any (w:World) (a:Option Addr) (n c:Nat) (l:List KV) (hP:Pairs w.heap.size w a n c l):Calls Tryz.prog 4 #[.slice a n c] w fun e w'=>∃ b,e=.returned (.bool b)∧(b=true→n≤2147483647∧∀ e∈l,e.1.length≤2147483647∧e.2.length≤2147483647)∧Below w.heap.size w w':=by
 have HP:=hid hP;have hlen:=hP.len;clear hP;by_cases hn:n≤2147483647
 ·go_enter Tryz.func4,Tryz.ntmps4
  go_wp2_with fail
  go_loopw [10] (fun i wr=>∃ j:Nat,i=.int .i64 j∧j≤n∧Hid ((∀ e∈l.take j,e.1.length≤2147483647∧e.2.length≤2147483647)∧Below w.heap.size w wr)) (fun i _=>n - (intOf i).toNat)
  case atStart=>exact ⟨0,rfl,Nat.zero_le _,hid ⟨fun e he=>by simp at he,Below.refl _ _⟩⟩
  case round =>
   obtain ⟨j,rfl,hj,hr⟩:=hrel;by_cases hlt:j < n
   ·obtain ⟨ev,hev⟩:∃ ev,l[j]?=some ev:=⟨_,List.getElem?_eq_getElem (by rw [hlen];exact hlt)⟩;obtain ⟨g,o,k1,n1,c1,k2,n2,c2,rfl,hgB,hq0,hq1,hk1,hk2⟩:=HP.out.at' j ev hev;have hc:∀ j,wr.cell? ⟨g,j,none⟩=w.cell? ⟨g,j,none⟩:=fun j=>World.cell?_of_block (a:=⟨g,j,none⟩) (hr.out.2.block g hgB)
    rw [← hc] at hq0 hq1;obtain ⟨wb,hwb⟩:∃ wb,wb=wr.alloc (.cells #[.slice k1 n1 c1,.slice k2 n2 c2] 40):=⟨_,rfl⟩;have hbb:Below w.heap.size w wb:=by rw [hwb];exact hr.out.2.alloc hr.out.2.size _
    have hone:=fits7_any wb k1 k2 n1 c1 n2 c2;have hl1:=hk1.sl.len;have hl2:=hk2.sl.len;have HX:=hid (show (∀ e∈l.take j,e.1.length≤2147483647∧e.2.length≤2147483647)∧Below w.heap.size w wb∧l[j]?=some ev∧ev.1.length=n1∧ev.2.length=n2 from ⟨hr.out.1,hbb,hev,hl1,hl2⟩);have HWB:=hid hwb;clear hwb hbb hl1 hl2 hk1 hk2 hev hr hc;go_wp2_with fail
    rw [← HWB.out];refine hone.mono ?_;rintro e w2 ⟨rfl,hb2⟩;have HB2:=hid (HX.out.2.1.trans (hb2.mono HX.out.2.1.size));clear hone hb2;by_cases hok:n1≤2147483647∧n2≤2147483647
    ·rw [decide_eq_true hok];have HN:Hid (∀ e∈l.take (j+1),e.1.length≤2147483647∧e.2.length≤2147483647):=hid (fun e he=>by
      obtain ⟨x1,_,x3,x4,x5⟩:=HX.out;rw [List.take_add_one,x3] at he;rcases List.mem_append.1 he with he | he
      ·exact x1 e he
      ·have:e=ev:=by simpa using he
       subst this;exact ⟨by omega,by omega⟩)
     try dsimp only
     go_wp2_with fail
     go_roundw
     case rel=>exact ⟨j+1,by go_num,hlt,hid ⟨HN.out,HB2.out⟩⟩
     case measure=>simp [intOf];omega
    ·rw [decide_eq_false hok];try dsimp only
     go_wp2
     go_ret
     exact ⟨false,rfl,fun h=>(nomatch h),HB2.out⟩
   ·have hjn:j=n:=by omega
    have HF:=hid (show (∀ e∈l,e.1.length≤2147483647∧e.2.length≤2147483647)∧Below w.heap.size w wr from ⟨fun e he=>hr.out.1 e (by rw [List.take_of_length_le (by omega)];exact he),hr.out.2⟩);subst hjn;clear hr;go_wp2
    go_ret
    exact ⟨true,rfl,fun _=>⟨hn,HF.out.1⟩,HF.out.2⟩
 ·go_enter Tryz.func4,Tryz.ntmps4
  go_wp2
  go_ret
  exact ⟨false,rfl,fun h=>(nomatch h),Below.refl _ _⟩
set_option maxHeartbeats 4000000 in
theorem fits4_any (w:World) (a:Option Addr) (n c:Nat) (l:List OpV) (hP:OpsAt w.heap.size w a n c l):Calls Tryz.prog 5 #[.slice a n c] w fun e w'=>∃ b,e=.returned (.bool b)∧(b=true→n≤2147483647∧∀ e∈l,e.key.length≤2147483647∧e.val.length≤2147483647)∧Below w.heap.size w w':=by
 have HP:=hid hP;have hlen:=hP.len;clear hP;by_cases hn:n≤2147483647
 ·go_enter Tryz.func5,Tryz.ntmps5
  go_wp2_with fail
  go_loopw [10] (fun i wr=>∃ j:Nat,i=.int .i64 j∧j≤n∧Hid ((∀ e∈l.take j,e.key.length≤2147483647∧e.val.length≤2147483647)∧Below w.heap.size w wr)) (fun i _=>n - (intOf i).toNat)
  case atStart=>exact ⟨0,rfl,Nat.zero_le _,hid ⟨fun e he=>by simp at he,Below.refl _ _⟩⟩
  case round =>
   obtain ⟨j,rfl,hj,hr⟩:=hrel;by_cases hlt:j < n
   ·obtain ⟨ev,hev⟩:∃ ev,l[j]?=some ev:=⟨_,List.getElem?_eq_getElem (by rw [hlen];exact hlt)⟩;obtain ⟨g,p,k1,n1,c1,k2,n2,c2,rfl,hgB,hq0,hq1,hq2,hq3,hk1,hk2⟩:=HP.out.at' j ev hev;have hc:∀ j,wr.cell? ⟨g,j,none⟩=w.cell? ⟨g,j,none⟩:=fun j=>World.cell?_of_block (a:=⟨g,j,none⟩) (hr.out.2.block g hgB)
    rw [← hc] at hq0 hq1 hq2 hq3;obtain ⟨wb,hwb⟩:∃ wb,wb=wr.alloc (.cells #[.int .i64 ev.kind,.slice k1 n1 c1,.slice k2 n2 c2,.int .i64 ev.n] 43):=⟨_,rfl⟩;have hbb:Below w.heap.size w wb:=by rw [hwb];exact hr.out.2.alloc hr.out.2.size _
    have hone:=fits5_any wb k1 k2 n1 c1 n2 c2 ev.kind ev.n;have hl1:=hk1.sl.len;have hl2:=hk2.sl.len;have HX:=hid (show (∀ e∈l.take j,e.key.length≤2147483647∧e.val.length≤2147483647)∧Below w.heap.size w wb∧l[j]?=some ev∧ev.key.length=n1∧ev.val.length=n2 from ⟨hr.out.1,hbb,hev,hl1,hl2⟩);have HWB:=hid hwb;clear hwb hbb hl1 hl2 hk1 hk2 hev hr hc;go_wp2_with fail
    rw [← HWB.out];refine hone.mono ?_;rintro e w2 ⟨rfl,hb2⟩;have HB2:=hid (HX.out.2.1.trans (hb2.mono HX.out.2.1.size));clear hone hb2;by_cases hok:n1≤2147483647∧n2≤2147483647
    ·rw [decide_eq_true hok];have HN:Hid (∀ e∈l.take (j+1),e.key.length≤2147483647∧e.val.length≤2147483647):=hid (fun e he=>by
      obtain ⟨x1,_,x3,x4,x5⟩:=HX.out;rw [List.take_add_one,x3] at he;rcases List.mem_append.1 he with he | he
      ·exact x1 e he
      ·have:e=ev:=by simpa using he
       subst this;exact ⟨by omega,by omega⟩)
     try dsimp only
     go_wp2_with fail
     go_roundw
     case rel=>exact ⟨j+1,by go_num,hlt,hid ⟨HN.out,HB2.out⟩⟩
     case measure=>simp [intOf];omega
    ·rw [decide_eq_false hok];try dsimp only
     go_wp2
     go_ret
     exact ⟨false,rfl,fun h=>(nomatch h),HB2.out⟩
   ·have hjn:j=n:=by omega
    have HF:=hid (show (∀ e∈l,e.key.length≤2147483647∧e.val.length≤2147483647)∧Below w.heap.size w wr from ⟨fun e he=>hr.out.1 e (by rw [List.take_of_length_le (by omega)];exact he),hr.out.2⟩);subst hjn;clear hr;go_wp2
    go_ret
    exact ⟨true,rfl,fun _=>⟨hn,HF.out.1⟩,HF.out.2⟩
 ·go_enter Tryz.func5,Tryz.ntmps5
  go_wp2
  go_ret
  exact ⟨false,rfl,fun h=>(nomatch h),Below.refl _ _⟩
end
section
open Go Go.RowKit Go.Shelf
def okv (o:OpV):Nat:=o.key.length+o.val.length+1
def otot:List OpV→Nat
 | []=>0
 | o :: l=>okv o+otot l
theorem otot_append:∀ a b:List OpV,otot (a++b)=otot a+otot b
 | [],b=>by simp [otot]
 | o :: a,b=>by rw [List.cons_append,otot,otot,otot_append a b];omega
theorem otot_one (o:OpV):otot [o]=okv o:=by simp [otot]
set_option maxHeartbeats 4000000 in
theorem few_any (w:World) (a:Option Addr) (n c:Nat) (l:List KV) (hP:Pairs w.heap.size w a n c l) (hn:n≤2147483647) (hls:∀ e∈l,e.1.length≤2147483647∧e.2.length≤2147483647):Calls Tryz.prog 15 #[.slice a n c] w fun e w'=>e=.returned (.bool (decide (tot l≤1048576)))∧Below w.heap.size w w':=by
 have HP:=hid hP;have hlen:=hP.len;have HLS:=hid hls;clear hP hls;go_enter Tryz.func15,Tryz.ntmps15
 go_wp2_with fail
 go_loopw [8,3] (fun i s wr=>∃ j S:Nat,i=.int .i64 j∧s=.int .i64 S∧j≤n∧S≤j*4294967295∧Hid (S=tot (l.take j)∧Below w.heap.size w wr)) (fun i _ _=>n - (intOf i).toNat)
 case atStart=>exact ⟨0,0,rfl,rfl,Nat.zero_le _,Nat.zero_le _,hid ⟨rfl,Below.refl _ _⟩⟩
 case round =>
  obtain ⟨j,S,rfl,rfl,hj,hS,hr⟩:=hrel;by_cases hlt:j < n
  ·obtain ⟨ev,hev⟩:∃ ev,l[j]?=some ev:=⟨_,List.getElem?_eq_getElem (by rw [hlen];exact hlt)⟩;obtain ⟨g,o,k1,n1,c1,k2,n2,c2,rfl,hgB,hq0,hq1,hk1,hk2⟩:=HP.out.at' j ev hev;have hc:∀ j,wr.cell? ⟨g,j,none⟩=w.cell? ⟨g,j,none⟩:=fun j=>World.cell?_of_block (a:=⟨g,j,none⟩) (hr.out.2.block g hgB)
   rw [← hc] at hq0 hq1;have hl1:=hk1.sl.len;have hl2:=hk2.sl.len;have hle:=HLS.out ev (List.mem_of_getElem? hev);rw [hl1,hl2] at hle;have hS2:S+(n1+n2+1)≤(j+1)*4294967295:=by omega
   have hS3:S+(n1+n2+1)≤9223372036854775807:=by omega
   have HN:Hid (S+(n1+n2+1)=tot (l.take (j+1))∧Below w.heap.size w (wr.alloc (.cells #[.slice k1 n1 c1,.slice k2 n2 c2] 40))):=hid ⟨by
    rw [List.take_add_one,hev,show ((some ev).toList:List KV)=[ev] from rfl,tot_append,tot_one,← hr.out.1];unfold kvs;omega,hr.out.2.alloc hr.out.2.size _⟩
   clear hk1 hk2 hl1 hl2 hev hr hc;go_wp2
   go_roundw
   case rel=>exact ⟨j+1,S+(n1+n2+1),by go_num,by go_num,hlt,hS2,HN⟩
   case measure=>simp [intOf];omega
  ·have hjn:j=n:=by omega
   have HF:=hid (show S=tot l∧Below w.heap.size w wr from ⟨by rw [hr.out.1,List.take_of_length_le (by omega)],hr.out.2⟩);subst hjn;clear hr hS;go_wp2
   go_ret
   exact ⟨congrArg (fun b=>Ending.returned (.bool b)) (decide_eq_decide.2 (by rw [← HF.out.1];omega)),HF.out.2⟩
set_option maxHeartbeats 4000000 in
theorem small_any (w:World) (a:Option Addr) (n c:Nat) (l:List OpV) (hP:OpsAt w.heap.size w a n c l) (hn:n≤2147483647) (hls:∀ e∈l,e.key.length≤2147483647∧e.val.length≤2147483647):Calls Tryz.prog 7 #[.slice a n c] w fun e w'=>e=.returned (.bool (decide (otot l≤1048576)))∧Below w.heap.size w w':=by
 have HP:=hid hP;have hlen:=hP.len;have HLS:=hid hls;clear hP hls;go_enter Tryz.func7,Tryz.ntmps7
 go_wp2_with fail
 go_loopw [8,3] (fun i s wr=>∃ j S:Nat,i=.int .i64 j∧s=.int .i64 S∧j≤n∧S≤j*4294967295∧Hid (S=otot (l.take j)∧Below w.heap.size w wr)) (fun i _ _=>n - (intOf i).toNat)
 case atStart=>exact ⟨0,0,rfl,rfl,Nat.zero_le _,Nat.zero_le _,hid ⟨rfl,Below.refl _ _⟩⟩
 case round =>
  obtain ⟨j,S,rfl,rfl,hj,hS,hr⟩:=hrel;by_cases hlt:j < n
  ·obtain ⟨ev,hev⟩:∃ ev,l[j]?=some ev:=⟨_,List.getElem?_eq_getElem (by rw [hlen];exact hlt)⟩;obtain ⟨g,p,k1,n1,c1,k2,n2,c2,rfl,hgB,hq0,hq1,hq2,hq3,hk1,hk2⟩:=HP.out.at' j ev hev;have hc:∀ j,wr.cell? ⟨g,j,none⟩=w.cell? ⟨g,j,none⟩:=fun j=>World.cell?_of_block (a:=⟨g,j,none⟩) (hr.out.2.block g hgB)
   rw [← hc] at hq0 hq1 hq2 hq3;have hl1:=hk1.sl.len;have hl2:=hk2.sl.len;have hle:=HLS.out ev (List.mem_of_getElem? hev);rw [hl1,hl2] at hle;have hS2:S+(n1+n2+1)≤(j+1)*4294967295:=by omega
   have hS3:S+(n1+n2+1)≤9223372036854775807:=by omega
   have HN:Hid (S+(n1+n2+1)=otot (l.take (j+1))∧Below w.heap.size w (wr.alloc (.cells #[.int .i64 ev.kind,.slice k1 n1 c1,.slice k2 n2 c2,.int .i64 ev.n] 43))):=hid ⟨by
    rw [List.take_add_one,hev,show ((some ev).toList:List OpV)=[ev] from rfl,otot_append,otot_one,← hr.out.1];unfold okv;omega,hr.out.2.alloc hr.out.2.size _⟩
   clear hk1 hk2 hl1 hl2 hev hr hc;go_wp2
   go_roundw
   case rel=>exact ⟨j+1,S+(n1+n2+1),by go_num,by go_num,hlt,hS2,HN⟩
   case measure=>simp [intOf];omega
  ·have hjn:j=n:=by omega
   have HF:=hid (show S=otot l∧Below w.heap.size w wr from ⟨by rw [hr.out.1,List.take_of_length_le (by omega)],hr.out.2⟩);subst hjn;clear hr hS;go_wp2
   go_ret
   exact ⟨congrArg (fun b=>Ending.returned (.bool b)) (decide_eq_decide.2 (by rw [← HF.out.1];omega)),HF.out.2⟩
end
end Go.Proofs.YtmkdpjicgjhhjaaGreatDoor
