/- Part 22 of the proof of FnTableComesBack: contracts and lemmas, each under the conditions that it states. Texts: PCmp, Foot. -/
import Derived.Test.YtmkdpjicgjhhjaaGreatDoorC21
import Derived.Test.YtmkdpjicgjhhjaaGreatDoorC18
import Derived.Lib.BufferWrite
namespace Go.Proofs.YtmkdpjicgjhhjaaGreatDoor
open Go.Lib (hid)
set_option maxRecDepth 100000
set_option linter.all false
section
open Go Go.RowKit Go.Shelf
open Go.Lib (compareBytes)
theorem cmp_range:∀ a b:Bs,compareBytes a b=-1∨compareBytes a b=0∨compareBytes a b=1
 | [],[]=>by simp [compareBytes]
 | [],_ :: _=>by simp [compareBytes]
 | _ :: _,[]=>by simp [compareBytes]
 | x :: a,y :: b=>by
  simp only [compareBytes];split
  ·simp
  ·split
   ·simp
   ·exact cmp_range a b
theorem cmp_eq0:∀ {a b:Bs},compareBytes a b=0→a=b
 | [],[],_=>rfl
 | [],_ :: _,h=>by simp [compareBytes] at h
 | _ :: _,[],h=>by simp [compareBytes] at h
 | x :: a,y :: b,h=>by
  simp only [compareBytes] at h;split at h
  ·simp at h
  ·split at h
   ·simp at h
   ·rename_i h1 h2
    have:x=y:=UInt8.toNat_inj.1 (by
     have h1:¬ x.toNat < y.toNat:=h1;have h2:¬ y.toNat < x.toNat:=h2;omega)
    rw [this,cmp_eq0 h]
theorem cmp_self:∀ a:Bs,compareBytes a a=0
 | []=>rfl
 | x :: a=>by
  simp only [compareBytes];have h:¬ x < x:=fun h=>Nat.lt_irrefl _ (show x.toNat < x.toNat from h)
  rw [if_neg h,if_neg h];exact cmp_self a
theorem cmp_neg:∀ a b:Bs,compareBytes b a=- compareBytes a b
 | [],[]=>rfl
 | [],_ :: _=>rfl
 | _ :: _,[]=>rfl
 | x :: a,y :: b=>by
  simp only [compareBytes];by_cases h1:x < y
  ·have h2:¬ y < x:=fun h=>by
    have h1:x.toNat < y.toNat:=h1;have h:y.toNat < x.toNat:=h;omega
   rw [if_pos h1,if_neg h2,if_pos h1];rfl
  ·by_cases h2:y < x
   ·rw [if_pos h2,if_neg h1,if_pos h2]
   ·rw [if_neg h1,if_neg h2,if_neg h2,if_neg h1];exact cmp_neg a b
theorem cmp_trans:∀ {a b c:Bs},compareBytes a b=-1→compareBytes b c=-1→compareBytes a c=-1
 | [],[],_,h,_=>by simp [compareBytes] at h
 | [],_ :: _,[],_,h=>by simp [compareBytes] at h
 | [],_ :: _,_ :: _,_,_=>rfl
 | _ :: _,[],_,h,_=>by simp [compareBytes] at h
 | _ :: _,_ :: _,[],_,h=>by simp [compareBytes] at h
 | x :: a,y :: b,z :: c,h,h'=>by
  simp only [compareBytes] at *;by_cases h1:x < y
  ·by_cases h2:y < z
   ·have:x < z:=by
     have h1:x.toNat < y.toNat:=h1;have h2:y.toNat < z.toNat:=h2;exact (show x.toNat < z.toNat by omega)
    rw [if_pos this]
   ·rw [if_neg h2] at h';split at h'
    ·simp at h'
    ·rename_i h3
     have:x < z:=by
      have h1:x.toNat < y.toNat:=h1;have h2:¬ y.toNat < z.toNat:=h2;have h3:¬ z.toNat < y.toNat:=h3;exact (show x.toNat < z.toNat by omega)
     rw [if_pos this]
  ·rw [if_neg h1] at h;split at h
   ·simp at h
   ·rename_i h2
    have hxy:x=y:=UInt8.toNat_inj.1 (by
     have h1:¬ x.toNat < y.toNat:=h1;have h2:¬ y.toNat < x.toNat:=h2;omega)
    subst hxy;split at h'
    ·rename_i h3;rw [if_pos h3]
    ·rename_i h3
     rw [if_neg h3];split at h'
     ·simp at h'
     ·rename_i h4
      rw [if_neg h4];exact cmp_trans h h'
theorem cmp_lt_of_not {a b:Bs} (h:¬ 0≤compareBytes a b):compareBytes a b=-1:=by rcases cmp_range a b with h1 | h1 | h1 <;> omega
theorem cmp_lt_le {a b c:Bs} (h:compareBytes a b=-1) (h':¬ compareBytes b c=1):compareBytes a c=-1:=by
 rcases cmp_range b c with h1 | h1 | h1
 ·exact cmp_trans h h1
 ·rw [← cmp_eq0 h1];exact h
 ·exact absurd h1 h'
theorem cmp_le_lt {a b c:Bs} (h:¬ compareBytes a b=1) (h':compareBytes b c=-1):compareBytes a c=-1:=by
 rcases cmp_range a b with h1 | h1 | h1
 ·exact cmp_trans h1 h'
 ·rw [cmp_eq0 h1];exact h'
 ·exact absurd h1 h
def Rising (es:List KV):Prop:=∀ (i j:Nat) (a b:KV),i < j→es[i]?=some a→es[j]?=some b→compareBytes a.1 b.1=-1
theorem threshold (p:Nat→Prop) [DecidablePred p]:∀ n:Nat,(∀ i j,i≤j→j < n→p i→p j)→∃ t,t≤n∧∀ i,i < n→(p i↔t≤i)
 | 0,_=>⟨0,Nat.le_refl _,fun i h=>absurd h (Nat.not_lt_zero i)⟩
 | n+1,hm=>by
  obtain ⟨t,h1,h2⟩:=threshold p n (fun i j hij hj=>hm i j hij (by omega));by_cases hp:p n
  ·by_cases ht:t=n
   ·subst ht;exact ⟨t,by omega,fun i hi=>⟨fun h=>by
     by_cases e:i < t
     ·exact (h2 i e).1 h
     ·omega,fun h=>by
     have:i=t:=by omega
     rw [this];exact hp⟩⟩
   ·exact ⟨t,by omega,fun i hi=>by
     by_cases e:i < n
     ·exact h2 i e
     ·have:i=n:=by omega
      subst this;exact ⟨fun _=>h1,fun _=>hp⟩⟩
  ·refine ⟨n+1,Nat.le_refl _,fun i hi=>⟨fun h=>?_,fun h=>by omega⟩⟩;exact absurd (hm i n (by omega) (by omega) h) hp
def rkey (ri:Nat) (es:List KV) (a:Nat):Bs:=(es[a*ri]?.map (·.1)).getD []
theorem bends_some {ri:Nat} {p0:Bs} {es:List KV} (hri:0 < ri) (hn:es≠[]) {a:Nat} (h:a < (bends ri p0 es).length):∃ e,es[a*ri]?=some e:=by
 rcases bends_lt hri h with rfl | h1
 ·exact ⟨es[0]'(List.length_pos_iff.2 hn),by rw [Nat.zero_mul];exact List.getElem?_eq_getElem _⟩
 ·exact ⟨_,List.getElem?_eq_getElem h1⟩
theorem bdata_nil (ri:Nat) (p0:Bs):bdata ri p0 []=[0,0,0,0,1,0,0,0]:=by
 have e:bdata ri p0 []=le32s ([0]++[1]):=rfl;rw [e];decide
theorem bkey {ri:Nat} {p0:Bs} {es:List KV} (hri:0 < ri) (hks:∀ e∈es,e.1.length≤1073741824) (hmax:(bdata ri p0 es).length≤2147483647) {a:Nat} (h:a < (bends ri p0 es).length) :
  ∃ o v2 n1 n2,RKey (bdata ri p0 es) (eoff ri p0 es es.length) a o (rkey ri es a) v2 n1 n2:=by
 by_cases hn:es=[]
 ·subst hn;have ha:a=0:=by simp [bends_nil] at h;exact h
  subst ha;refine ⟨0,0,1,1,?_⟩;rw [bdata_nil,show eoff ri p0 ([]:List KV) ([]:List KV).length=0 from rfl];have e:rkey ri [] 0=[]:=by simp [rkey]
  rw [e];exact ⟨⟨[1,0,0,0],by decide⟩,by decide,by decide,by decide,rfl,by decide⟩
 ·obtain ⟨e,he⟩:=bends_some hri hn h;have hk:rkey ri es a=e.1:=by unfold rkey;rw [he];rfl
  rw [hk];have hlt:=lt_of_some he;obtain ⟨r,hr⟩:=bdata_entry (ri:=ri) (p:=p0) he;have hsh:esh ri p0 es (a*ri)=0:=esh_zero (Nat.le_of_lt hlt) (Nat.mul_mod_left a ri);have h1:=eoff_succ (ri:=ri) (p:=p0) he;have h2:eoff ri p0 es (a*ri+1)≤eoff ri p0 es es.length:=eoff_mono hlt;have hl:=bdata_length (ri:=ri) (p:=p0) (es:=es);have hat:=bends_at (p:=p0) (es:=es) hri h;have hel:=entry_length 0 e.1 e.2;rw [hsh] at hr h1
  have hu0:Lib.uvarint 0=[0]:=uvarint_zero;have hkl:=hks e (List.mem_of_getElem? he);rw [hu0] at hel;simp only [List.length_singleton,Nat.sub_zero] at hel;have hent:entry 0 e.1 e.2++r=[0]++(Lib.uvarint e.1.length++(Lib.uvarint e.2.length++(e.1++(e.2++r)))):=by
   unfold entry;rw [hu0];simp
  rw [hent] at hr;have d1:(bdata ri p0 es).drop (eoff ri p0 es (a*ri)+1)=Lib.uvarint e.1.length++(Lib.uvarint e.2.length++(e.1++(e.2++r))):=by
   rw [← List.drop_drop,hr];rfl
  have d2:(bdata ri p0 es).drop (eoff ri p0 es (a*ri)+1+(Lib.uvarint e.1.length).length)=Lib.uvarint e.2.length++(e.1++(e.2++r)):=by
   rw [← List.drop_drop,d1,List.drop_left]
  have d3:(bdata ri p0 es).drop (eoff ri p0 es (a*ri)+1+(Lib.uvarint e.1.length).length+(Lib.uvarint e.2.length).length)=e.1++(e.2++r):=by
   rw [← List.drop_drop,d2,List.drop_left]
  refine ⟨eoff ri p0 es (a*ri),e.2.length,(Lib.uvarint e.1.length).length,(Lib.uvarint e.2.length).length,?_,by omega,?_,?_,?_,by omega⟩
  ·exact bdata_end (by rw [List.getElem?_append_left h];exact hat)
  ·rw [d1,uvarintDec_uvarint _ (by omega)]
  ·rw [d2,uvarintDec_uvarint _ (by omega)]
  ·rw [d3,List.take_left]
theorem bseek {ri:Nat} {p0:Bs} {es:List KV} (hri:0 < ri) (hr:Rising es) (key:Bs) (a0:Nat) (ha:a0 < (bends ri p0 es).length) :
  ∃ j,j≤(bends ri p0 es).length - a0∧(∀ i,i < (bends ri p0 es).length - a0→(0 < compareBytes (rkey ri es (a0+i)) key↔j≤i)) ∧
   (∀ i e,a0*ri≤i→i < (if j=0 then a0 else a0+j - 1)*ri→es[i]?=some e→compareBytes e.1 key=-1):=by
 by_cases hn:es=[]
 ·subst hn;have h0:a0=0:=by simp [bends_nil] at ha;exact ha
  subst h0;refine ⟨1,by simp [bends_nil],fun i hi=>?_,fun i e _ _ he=>by simp at he⟩;have hi0:i=0:=by simp [bends_nil] at hi;omega
  subst hi0;have e:rkey ri [] (0+0)=[]:=by simp [rkey]
  rw [e];refine ⟨fun h=>?_,fun h=>by omega⟩;cases key <;> simp [compareBytes] at h
 ·have hsome:∀ i,i < (bends ri p0 es).length - a0→∃ e,es[(a0+i)*ri]?=some e∧rkey ri es (a0+i)=e.1:=fun i hi=>by
   obtain ⟨e,he⟩:=bends_some (p0:=p0) hri hn (a:=a0+i) (by omega);exact ⟨e,he,by unfold rkey;rw [he];rfl⟩
  obtain ⟨t,h1,h2⟩:=threshold (fun i=>0 < compareBytes (rkey ri es (a0+i)) key) ((bends ri p0 es).length - a0) (fun i j hij hj hp=>by
   by_cases e:i=j
   ·rw [← e];exact hp
   ·obtain ⟨e1,he1,hk1⟩:=hsome i (by omega);obtain ⟨e2,he2,hk2⟩:=hsome j hj;have hlt:compareBytes e1.1 e2.1=-1:=hr _ _ _ _ (by exact Nat.mul_lt_mul_of_pos_right (by omega) hri) he1 he2;show 0 < compareBytes (rkey ri es (a0+j)) key
    rw [hk2];have hp:0 < compareBytes (rkey ri es (a0+i)) key:=hp;rw [hk1] at hp;rcases cmp_range e2.1 key with h | h | h
    ·have:=cmp_trans hlt h;omega
    ·have:=cmp_eq0 h;rw [← this] at hp;omega
    ·omega)
  refine ⟨t,h1,h2,fun i e hi1 hi2 he=>?_⟩;by_cases ht:t=0
  ·rw [if_pos ht] at hi2;omega
  ·rw [if_neg ht] at hi2;obtain ⟨e2,he2,hk2⟩:=hsome (t - 1) (by omega);have hnp:¬ 0 < compareBytes (rkey ri es (a0+(t - 1))) key:=fun h=>by
    have:=(h2 (t - 1) (by omega)).1 h;omega
   rw [hk2] at hnp;rw [show a0+t - 1=a0+(t - 1) by omega] at hi2;exact cmp_lt_le (hr _ _ _ _ hi2 he he2) (by omega)
end
section
open Go Go.RowKit Go.Shelf
def magic:List UInt8:=[87,251,128,139,36,117,71,219]
def footer (mo ml io il:Nat):List UInt8:=hdl mo ml++hdl io il++List.replicate (40 - (hdl mo ml++hdl io il).length) 0++magic
def ov (f:List UInt8) (i:Nat) (g:List UInt8):List UInt8:=f.take i++g++f.drop (i+g.length)
theorem ov_length {f:List UInt8} {i:Nat} {g:List UInt8} (h:i+g.length≤f.length):(ov f i g).length=f.length:=by unfold ov;simp;omega
theorem ov_get {f:List UInt8} {i:Nat} {g:List UInt8} (h:i+g.length≤f.length) (k:Nat):(ov f i g)[k]?=if k < i then f[k]? else if k < i+g.length then g[k - i]? else f[k]?:=by
 unfold ov;have h1:(f.take i).length=i:=by simp;omega
 by_cases e1:k < i
 ·rw [if_pos e1,List.append_assoc,List.getElem?_append_left (by omega),List.getElem?_take_of_lt e1]
 ·rw [if_neg e1,List.append_assoc,List.getElem?_append_right (by omega),h1];by_cases e2:k < i+g.length
  ·rw [if_pos e2,List.getElem?_append_left (by omega)]
  ·rw [if_neg e2,List.getElem?_append_right (by omega),List.getElem?_drop];congr 1;omega
theorem splice_ov {C:Array Value} {o:Nat} {f g:List UInt8} {i:Nat} (hf:o+f.length≤C.size) (h:i+g.length≤f.length):splice (splice C o (bv f)) (o+i) (bv g)=splice C o (bv (ov f i g)):=by
 have h1:o+(bv f).length≤C.size:=by rw [bv_length];exact hf
 have h2:o+i+(bv g).length≤(splice C o (bv f)).size:=by rw [splice_size h1,bv_length];omega
 have h3:o+(bv (ov f i g)).length≤C.size:=by rw [bv_length,ov_length h];exact hf
 apply Array.ext_getElem?
 intro k;rw [splice_get h2,splice_get h1,splice_get h3,bv_length,bv_length,bv_length,ov_length h,bv_get,bv_get,bv_get,ov_get h];by_cases e1:k < o
 ·rw [if_pos (by omega),if_pos e1,if_pos e1]
 ·by_cases e2:k < o+i
  ·rw [if_pos e2,if_neg e1,if_neg e1,if_pos (by omega),if_pos (by omega),if_pos (by omega)]
  ·by_cases e3:k < o+i+g.length
   ·rw [if_neg e2,if_pos e3,if_neg e1,if_pos (by omega),if_neg (by omega),if_pos (by omega)];congr 2;omega
   ·rw [if_neg e2,if_neg e3];by_cases e4:k < o+f.length
    ·rw [if_neg e1,if_pos e4,if_neg e1,if_pos e4,if_neg (by omega),if_neg (by omega)]
    ·rw [if_neg e1,if_neg e4,if_neg e1,if_neg e4]
theorem zset {w:World} {b T:Nat} {C:Array Value} (hB:Blk w b C T) {o:Nat} (l:List UInt8) (x:UInt8) (h:o+l.length+1≤C.size) :
  (w.setRow b (splice C o (bv l))).setCell ⟨b,o+l.length,none⟩ (.int .u8 x.toNat)=w.setRow b (splice C o (bv (l++[x]))):=by
 have h1:o+(bv l).length≤C.size:=by rw [bv_length];omega
 have h2:o+(bv (l++[x])).length≤C.size:=by rw [bv_length];simp;omega
 rw [setCell_eq_setRow _ b (o+l.length) (splice C o (bv l)) T (0,0) _ (hB.setRow _),setRow_setRow];congr 1
 apply Array.ext_getElem?
 intro k;rw [splice_get h2,bv_length,List.length_append,List.length_singleton];by_cases e:k=o+l.length
 ·subst e;rw [Array.getElem?_setIfInBounds_self_of_lt (by rw [splice_size h1];omega),if_neg (by omega),if_pos (by omega),bv_get];simp
 ·rw [Array.getElem?_setIfInBounds_ne (by omega),splice_get h1,bv_length];by_cases e1:k < o
  ·rw [if_pos e1,if_pos e1]
  ·rw [if_neg e1,if_neg e1];by_cases e2:k < o+l.length
   ·rw [if_pos e2,if_pos (by omega),bv_get,bv_get,List.getElem?_append_left (by omega)]
   ·rw [if_neg e2,if_neg (by omega)]
theorem footer_ov {mo ml io il:Nat} (h1:(hdl mo ml).length≤10) (h2:(hdl io il).length≤10):ov (ov (ov (List.replicate 48 0) 0 (hdl mo ml)) (hdl mo ml).length (hdl io il)) 40 magic=footer mo ml io il:=by
 have hm:magic.length=8:=rfl;have a1:0+(hdl mo ml).length≤(List.replicate 48 (0:UInt8)).length:=by simp;omega
 have l1:=ov_length a1;have a2:(hdl mo ml).length+(hdl io il).length≤(ov (List.replicate 48 0) 0 (hdl mo ml)).length:=by rw [l1];simp;omega
 have l2:=ov_length a2;have a3:40+magic.length≤(ov (ov (List.replicate 48 0) 0 (hdl mo ml)) (hdl mo ml).length (hdl io il)).length:=by rw [l2,l1];simp;omega
 have l48:(List.replicate 48 (0:UInt8)).length=48:=by simp
 apply List.ext_getElem?
 intro k;rw [ov_get a3,ov_get a2,ov_get a1];unfold footer;have hl:(hdl mo ml++hdl io il).length=(hdl mo ml).length+(hdl io il).length:=List.length_append;generalize hdl mo ml=x at *;generalize hdl io il=y at *;have hz:(x++y++List.replicate (40 - (x++y).length) (0:UInt8)).length=40:=by simp;omega
 by_cases e1:k < 40
 ·rw [if_pos e1,List.getElem?_append_left (by omega)];by_cases e2:k < x.length
  ·rw [if_pos e2,if_neg (by omega),if_pos (by omega),List.append_assoc,List.getElem?_append_left e2];congr 1
  ·rw [if_neg e2];by_cases e3:k < x.length+y.length
   ·rw [if_pos e3,List.getElem?_append_left (by omega),List.getElem?_append_right (by omega)]
   ·rw [if_neg e3,if_neg (by omega),if_neg (by omega),List.getElem?_append_right (by omega),List.getElem?_replicate,List.getElem?_replicate,if_pos (by omega),if_pos (by omega)]
 ·rw [if_neg e1,List.getElem?_append_right (by omega),hz];by_cases e2:k < 40+magic.length
  ·rw [if_pos e2]
  ·rw [if_neg e2,if_neg (by omega),if_neg (by omega),if_neg (by omega),if_neg (by omega),List.getElem?_eq_none (by omega),List.getElem?_eq_none (by omega)]
theorem WX.encAt {base:Nat} {w:World} {b bb:Nat} {lab:Nat→Nat} {C:Array Value} {OD OI:Own} {file:List UInt8} {data index:BWS} (h:WX base w b bb lab C OD OI file data index) (x y o:Nat) (ho:221≤o) (hf:o+(hdl x y).length≤273) (k:Nat) :
  WX base (((w.alloc (.cells #[.int .u64 x,.int .u64 y] 114)).setRow b (splice C o (bv (hdl x y)))).drewN k) b bb lab (splice C o (bv (hdl x y))) OD OI file data index∧Below base w (((w.alloc (.cells #[.int .u64 x,.int .u64 y] 114)).setRow b (splice C o (bv (hdl x y)))).drewN k) ∧
   (∀ j,j < w.heap.size→j≠b→(((w.alloc (.cells #[.int .u64 x,.int .u64 y] 114)).setRow b (splice C o (bv (hdl x y)))).drewN k).heap[j]?=w.heap[j]?):=by
 have hsz:=h.size;have hbl:=h.bl;have hbase:=h.baseB;have hfit:o+(bv (hdl x y)).length≤C.size:=by rw [bv_length];omega
 have g1:=h.ext (w':=w.alloc (.cells #[.int .u64 x,.int .u64 y] 114)) (fun k hk _=>Below.heap_alloc w _ k hk);obtain ⟨g2,hb2,_⟩:=g1.rowTo (C2:=splice C o (bv (hdl x y))) (splice_size hfit) (fun k hk=>splice_out hfit (by omega));have hb1:Below base w (w.alloc (.cells #[.int .u64 x,.int .u64 y] 114)):=⟨rfl,rfl,rfl,by simp,fun k hk=>Below.heap_alloc w _ k (by omega)⟩;exact ⟨g2.ext (fun _ _ _=>rfl),(hb1.trans hb2).trans (Below.drewN' _ _ _),fun j hj hjb=>(setRow_other _ b j _ hjb).trans (Below.heap_alloc w _ j hj)⟩
theorem copy_magic (w:World) (b:Nat) (G:Array Value) (hB:Blk w b G 117) (hs:G.size=273) :
  (Builtin.copy_ #[29,9] 3 #[.slice (some ⟨b,261,none⟩) 8 10,.string ⟨#[87,251,128,139,36,117,71,219]⟩]).run Tryz.prog w=.ok (.int .i64 8) (w.setRow b (splice G 261 (bv magic))):=by
 rw [Lib.run_copy_row_string (P:=Tryz.prog) w 29 9 3 5 b 261 8 10 ⟨#[87,251,128,139,36,117,71,219]⟩ G 117 un29 sz5 hB (by decide) (by rw [hs];decide)];rfl
end
end Go.Proofs.YtmkdpjicgjhhjaaGreatDoor
