/- Part 24 of the proof of FnTableComesBack: contracts and lemmas, each under the conditions that it states. Texts: Table, PTab, RRaw. -/
import Derived.Test.YtmkdpjicgjhhjaaGreatDoorC20
import Derived.Test.YtmkdpjicgjhhjaaGreatDoorC19
import Derived.Test.YtmkdpjicgjhhjaaGreatDoorC17
import Derived.Test.YtmkdpjicgjhhjaaGreatDoorC22
import Derived.Test.YtmkdpjicgjhhjaaGreatDoorC23
import Derived.Test.YtmkdpjicgjhhjaaGreatDoorC21
import Derived.Test.YtmkdpjicgjhhjaaGreatDoorC14
namespace Go.Proofs.YtmkdpjicgjhhjaaGreatDoor
open Go.Lib (hid)
set_option maxRecDepth 100000
set_option linter.all false
section
open Go Go.RowKit Go.Shelf
structure Pairs (B:Nat) (w:World) (a:Option Addr) (n c:Nat) (l:List KV):Prop where
 len:l.length=n
 cap:n≤c
 at':∀ i e,l[i]?=some e→∃ g o k1 n1 c1 k2 n2 c2,a=some ⟨g,o,none⟩∧g < B∧w.cell? ⟨g,o+i*2,none⟩=some (.slice k1 n1 c1)∧w.cell? ⟨g,o+i*2+1,none⟩=some (.slice k2 n2 c2)∧Key B w k1 n1 c1 e.1∧Key B w k2 n2 c2 e.2
theorem Pairs.below {B:Nat} {w w':World} {a:Option Addr} {n c:Nat} {l:List KV} (h:Pairs B w a n c l) (hb:Below B w w'):Pairs B w' a n c l :=
 ⟨h.len,h.cap,fun i e he=>by
  obtain ⟨g,o,k1,n1,c1,k2,n2,c2,h1,h2,h3,h4,h5,h6⟩:=h.at' i e he;exact ⟨g,o,k1,n1,c1,k2,n2,c2,h1,h2,(World.cell?_of_block (a:=⟨g,o+i*2,none⟩) (hb.block g h2)).trans h3,(World.cell?_of_block (a:=⟨g,o+i*2+1,none⟩) (hb.block g h2)).trans h4,h5.below hb,h6.below hb⟩⟩
theorem WRun.ent {bs n ri:Nat} {l:List KV} {s:WS} (h:WRun bs n ri l s):(l=[]∧s.ent=0)∨∃ e,l.getLast?=some e∧s.data.prev=e.1:=by
 cases h with
 | nil=>exact .inl ⟨rfl,rfl⟩
 | snoc hr ha=>exact .inr ⟨_,by simp,ha.prev⟩
def TableOf (bs n ri:Nat) (l:List KV) (F:Bs):Prop:=∃ s,WRun bs n ri l s∧ClZ n s F
theorem WIn.allocN {base:Nat} {w:World} {b bb bs n:Nat} {s:WS} (h:WIn base w b bb bs n s) (o:Obj):WIn base (w.alloc o) b bb bs n s∧Below base w (w.alloc o):=by
 obtain ⟨lab,C,OD,OI,OF,h⟩:=h;have hx:=h.wx;have:=hx.bl;have:=hx.baseB;exact ⟨⟨lab,C,OD,OI,OF,h.ext (fun k hk=>Below.heap_alloc w o k hk)⟩,rfl,rfl,rfl,by simp,fun k hk=>Below.heap_alloc w o k (by omega)⟩
theorem own_nil' (w:World):w.ownsRow 0 5 1 (.slice none 0 0) ([]:Bs).length (bv []):=World.ownsRow_nil w 0 5 1
set_option maxHeartbeats 8000000 in
theorem table_any (w:World) (a:Option Addr) (m c bs ri n fb:Nat) (l:List KV) (hP:Pairs w.heap.size w a m c l) (hT:tot l≤1048576) (hR:Rising l) (hbs:1≤bs∧bs≤5000) (hri:1≤ri∧ri≤20) (hn:n≤20) :
  Calls Tryz.prog 9 #[.slice a m c,.agg #[.int .i64 bs,.int .i64 ri,.int .i64 n,.int .i64 fb]] w fun e w'=>∃ F av cv,e=.returned (.tuple #[.slice av F.length cv,.bool true])∧TableOf bs n ri l F∧Sl w' av F.length cv F∧Below w.heap.size w w':=by
 have hlen:=hP.len;have hcnt:=len_le_tot l;go_enter Tryz.func9,Tryz.ntmps9
 go_wp2_with fail
 obtain ⟨W1,hW1⟩:∃ W1,W1=(w.alloc (Obj.cells #[Value.int .i64 bs,.int .i64 ri,.int .i64 n,.int .i64 fb] 24)).alloc (Obj.cells #[Value.slice none 0 0,.int .i64 0,.int .i8 0] 50):=⟨_,rfl⟩;have hs1:W1.heap.size=w.heap.size+2:=by rw [hW1];simp
 have hb1:Below w.heap.size w W1:=by
  rw [hW1];exact ((Below.refl w.heap.size w).alloc (Nat.le_refl _) _).alloc (by simp) _
 have hBB1:BB W1 (w.heap.size+1) [] (.slice none 0 0):=by
  refine ⟨⟨0,?_⟩,own_nil' W1,by simp [Value.ownBlock]⟩;rw [hW1];have:=Blk.new (w.alloc (Obj.cells #[Value.int .i64 bs,.int .i64 ri,.int .i64 n,.int .i64 fb] 24)) #[Value.slice none 0 0,.int .i64 0,.int .i8 0] 50;simpa using this
 rw [← hW1];clear hW1;refine (options_any W1 bs ri n fb).mono ?_;rintro e w2 ⟨rfl,hO2,hb2⟩;have hBB2:BB w2 (w.heap.size+1) [] (.slice none 0 0):=hBB1.keep (hb2.block _ (by omega)) (fun k h=>by cases h);have hs2:=hb2.size;have hnw:=newWriter_any w2 w.heap.size (w.heap.size+1) (W1.heap.size+1) bs ri n hO2 (by omega) (by omega) hn (by omega) (by omega) hBB2 (by omega);have HB2:=hid (hb1.trans (hb2.mono (by omega)))
 clear hO2 hb2 hBB1 hBB2 hb1 hs1 hs2;dsimp only;go_wp2_with fail
 refine hnw.mono ?_;rintro e w3 ⟨rfl,hw3,hb3⟩;have hst:∃ (j:Nat) (s:WS),(0:Int)=(j:Int)∧j≤m∧WRun bs n ri (l.take j) s∧WIn w.heap.size w3 (w2.heap.size+1) (w.heap.size+1) bs n s∧Below w.heap.size w w3:=⟨0,newWS ri n,rfl,Nat.zero_le _,.nil,hw3,HB2.out.trans hb3⟩;have HST:=hid hst;clear hnw hw3 hb3 hst;generalize w2.heap.size+1=b at *;have HP:=hid hP;have HR:=hid hR;have HT:=hid hT;clear hP hR hT;dsimp only
 go_wp2_with fail
 go_loopw [16] (fun i wr=>∃ (j:Nat) (s:WS),i=.int .i64 j∧j≤m∧WRun bs n ri (l.take j) s∧WIn w.heap.size wr b (w.heap.size+1) bs n s∧Below w.heap.size w wr) (fun i _=>m - (intOf i).toNat)
 case atStart =>
  obtain ⟨j,s,h0,h1⟩:=HST.out;exact ⟨j,s,by rw [← h0],h1⟩
 case round =>
  obtain ⟨j,s,rfl,hj,hrun,hwin,hbw⟩:=hrel;by_cases hlt:j < m
  ·have hP:=HP.out;obtain ⟨ev,hev⟩:∃ ev,l[j]?=some ev:=⟨_,List.getElem?_eq_getElem (by rw [hlen];exact hlt)⟩;obtain ⟨g,o,k1,n1,c1,k2,n2,c2,rfl,hgB,hq1,hq2,hk1,hk2⟩:=hP.at' j ev hev;have hq1':wr.cell? ⟨g,o+j*2,none⟩=some (.slice k1 n1 c1):=(World.cell?_of_block (a:=⟨g,o+j*2,none⟩) (hbw.block g hgB)).trans hq1;have hq2':wr.cell? ⟨g,o+j*2+1,none⟩=some (.slice k2 n2 c2):=(World.cell?_of_block (a:=⟨g,o+j*2+1,none⟩) (hbw.block g hgB)).trans hq2
   have hmm:m≤1048576:=by have:=HT.out;omega
   have HW:=hid hwin;have HRUN:=hid hrun;have HBW:=hid hbw;have HEV:=hid hev;clear hwin hrun hbw hev hP hq1 hq2 HST;go_wp2_with fail
   obtain ⟨WA,hWA⟩:∃ WA,WA=wr.alloc (.cells #[Value.slice k1 n1 c1,Value.slice k2 n2 c2] 40):=⟨_,rfl⟩;obtain ⟨hwA,hbA⟩:=HW.out.allocN (.cells #[Value.slice k1 n1 c1,Value.slice k2 n2 c2] 40);rw [← hWA] at hwA hbA ⊢;clear hWA;have hT:=HT.out;have htk:l.take (j+1)=l.take j++[ev]:=by rw [List.take_add_one,HEV.out];rfl
   have hsub:tot (l.take j)≤tot l:=by
    have h1:=tot_append (l.take j) (l.drop j);rw [List.take_append_drop] at h1;omega
   have hnum:=HRUN.out.num hn (by omega);have hjl:(l.take j).length=j:=by rw [List.length_take,hlen];omega
   have hwb:=hnum.wb (by omega) (by have:=len_le_tot (l.take j);omega) (by omega) (by omega);have hev1:kvs ev≤tot l:=by
    have h1:=tot_append (l.take (j+1)) (l.drop (j+1));rw [List.take_append_drop,htk,tot_append,tot_one] at h1;omega
   have hkv:kvs ev=ev.1.length+ev.2.length+1:=rfl;have hl1:=hk1.sl.len;have hl2:=hk2.sl.len;have hbwA:=HBW.out.trans hbA;have hord:s.ent=0∨Lib.compareBytes s.data.prev ev.1=-1:=by
    rcases HRUN.out.ent with ⟨_,h⟩ | ⟨ep,hep,hpr⟩
    ·exact .inl h
    ·refine .inr ?_;rw [hpr];rw [List.getLast?_eq_getElem?,hjl] at hep;have hjp:0 < j:=by
      rcases Nat.eq_zero_or_pos j with h0 | h0
      ·rw [h0] at hep;simp at hep
      ·exact h0
     rw [List.getElem?_take_of_lt (by omega)] at hep;exact HR.out (j - 1) j ep ev (by omega) hep HEV.out
   have hap:=wappend_any WA w.heap.size b (w.heap.size+1) bs n s hwA hwb (by omega) k1 n1 c1 ev.1 (hk1.below hbwA) k2 n2 c2 ev.2 (hk2.below hbwA) (by omega) (by omega) hord;have HBA:=hid hbwA;clear hwA hbA hnum hwb hord hbwA hev1 hkv;refine hap.mono ?_;rintro e w5 ⟨rfl,s',ha,hw5,hb5⟩;have HN:Hid (WRun bs n ri (l.take (j+1)) s'∧WIn w.heap.size w5 b (w.heap.size+1) bs n s'∧Below w.heap.size w w5):=hid ⟨by rw [htk];exact .snoc HRUN.out ha,hw5,HBA.out.trans hb5⟩
   clear hap ha hw5 hb5 htk hsub hjl hl1 hl2;dsimp only;go_wp2_with fail
   go_roundw
   case rel=>exact ⟨j+1,s',by go_num,by omega,HN.out⟩
   case measure =>
    simp only [intOf];omega
  ·have hjm:j=m:=by omega
   have htk:l.take j=l:=by rw [hjm,← hlen];exact List.take_length
   rw [htk] at hrun;have hT:=HT.out;have hnum:=hrun.num hn (by omega);have hwb:=hnum.wb (by omega) hcnt (by omega) (by omega);have hcl:=close_any wr w.heap.size b (w.heap.size+1) bs n s hwin hwb;have HRUN:=hid hrun;have HBW:=hid hbw;clear hrun hwin hbw hnum hwb HST htk hT hjm;go_wp2_with fail
   refine hcl.mono ?_;rintro e w5 ⟨rfl,F,v,hF,hB,hb5⟩;obtain ⟨av,cv,rfl,_,_,_⟩:=own_form hB.own;obtain ⟨hc0,hc1',_⟩:=hB.cells;have hby:=bbytes_any w5 (w.heap.size+1) av F.length cv hc0 hc1';have hfin:∀ k,TableOf bs n ri l F∧Sl (w5.drewN k) av F.length cv F∧Below w.heap.size w (w5.drewN k):=fun k=>⟨⟨s,HRUN.out,hF⟩,(own_sl hB.own).drewN k,(HBW.out.trans hb5).trans (Below.drewN' _ _ _)⟩
   have HFIN:=hid hfin;clear hcl hF hB hb5 hfin hc0 hc1';dsimp only;go_wp2_with fail
   refine hby.mono ?_;rintro e w6 ⟨rfl,k6,rfl⟩;clear hby;dsimp only;go_wp2
   go_returns
   exact ⟨F,av,cv,rfl,HFIN.out k6⟩
end
section
open Go Go.RowKit Go.Shelf
structure DB where
 p0:Bs
 off:Nat
 es:List KV
def DB.bytes (ri:Nat) (b:DB):Bs:=bdata ri b.p0 b.es
def dbytes (ri:Nat) (B:List DB):Bs:=(B.map fun b=>sealB (b.bytes ri)).flatten
def dents (B:List DB):List KV:=(B.map DB.es).flatten
def ients (ri:Nat) (B:List DB) (sp:List Bs):List KV:=List.zipWith (fun b s=>(s,hdl b.off (b.bytes ri).length)) B sp
def Placed (ri:Nat) (B:List DB):Prop:=∀ (i:Nat) (b:DB),B[i]?=some b→b.off=(dbytes ri (B.take i)).length
structure Seps (B:List DB) (sp:List Bs) (rest:List KV):Prop where
 above:∀ (i:Nat) (b:DB) (s:Bs) (e:KV),B[i]?=some b→sp[i]?=some s→e∈b.es→¬ Lib.compareBytes e.1 s=1
 below:∀ (i j:Nat) (b:DB) (s:Bs) (e:KV),i < j→B[j]?=some b→sp[i]?=some s→e∈b.es→Lib.compareBytes s e.1=-1
 rest:∀ (i:Nat) (s:Bs) (e:KV),sp[i]?=some s→e∈rest→Lib.compareBytes s e.1=-1
theorem dbytes_append (ri:Nat) (a b:List DB):dbytes ri (a++b)=dbytes ri a++dbytes ri b:=by simp [dbytes]
theorem dents_append (a b:List DB):dents (a++b)=dents a++dents b:=by simp [dents]
theorem mem_dents {B:List DB} {b:DB} {e:KV} (hb:b∈B) (he:e∈b.es):e∈dents B:=by
 unfold dents;exact List.mem_flatten.2 ⟨b.es,List.mem_map.2 ⟨b,hb,rfl⟩,he⟩
def KHas (s:KS) (x h:Nat):Prop:=(∃ g,s.1[x]?=some g∧h∈g)∨(x=s.1.length∧h∈s.2)
theorem KHas.gen {s:KS} {x h:Nat} (hk:KHas s x h):KHas (kgen s) x h:=by
 rcases hk with ⟨g,h1,h2⟩ | ⟨h1,h2⟩
 ·exact .inl ⟨g,by simp only [kgen];rw [List.getElem?_append_left (lt_of_some h1)];exact h1,h2⟩
 ·refine .inl ⟨s.2,?_,h2⟩;simp [kgen,h1]
theorem KHas.kit {s:KS} {x h:Nat} (hk:KHas s x h):∀ j,KHas (kit j s) x h
 | 0=>hk
 | j+1=>(KHas.kit hk j).gen
def FiltHasK (B:List DB) (cur:List KV) (flen:Nat):Option FS→Prop
 | none=>True
 | some fs=>fs.ks.1.length=flen / 2048∧(∀ b∈B,∀ e∈b.es,KHas fs.ks (b.off / 2048) (bhash e.1))∧∀ e∈cur,KHas fs.ks (flen / 2048) (bhash e.1)
structure WSh (ri:Nat) (l:List KV) (s:WS) (B:List DB) (sp:List Bs) (cur:List KV):Prop where
 flat:dents B++cur=l
 file:s.file=dbytes ri B
 placed:Placed ri B
 data:∃ p0,s.data=(BWS.new ri p0).adds cur
 nz:∀ (i:Nat) (b:DB),0 < i→B[i]?=some b→b.es≠[]
 index:s.index=(BWS.new 1 []).adds (ients ri B sp)
 seps:Seps B sp cur
 filt:FiltHasK B cur s.file.length s.filt
 lastp:∀ e∈cur,¬ Lib.compareBytes e.1 s.data.prev=1
def Pend0 (s:WS) (B:List DB) (sp:List Bs) (cur:List KV):Prop:=s.pl=0∧sp.length=B.length∧(cur=[]→B=[])
def Pend1 (ri:Nat) (s:WS) (B:List DB) (sp:List Bs) (cur:List KV):Prop :=
 0 < s.pl∧cur=[]∧∃ B' b,B=B'++[b]∧sp.length=B'.length∧s.po=b.off∧s.pl=(b.bytes ri).length∧∀ e∈b.es,¬ Lib.compareBytes e.1 s.data.prev=1
theorem zipWith_short {α β γ:Type} (f:α→β→γ) (a b:List α) (c:List β) (h:c.length=a.length):List.zipWith f (a++b) c=List.zipWith f a c:=by
 induction a generalizing c with
 | nil=>cases c with
  | nil=>cases b <;> rfl
  | cons x c=>simp at h
 | cons x a ih=>cases c with
  | nil=>simp at h
  | cons y c=>simp [ih c (by simpa using h)]
theorem ients_append (ri:Nat) (a b:List DB) (c d:List Bs) (h:c.length=a.length):ients ri (a++b) (c++d)=ients ri a c++ients ri b d:=by
 unfold ients;exact List.zipWith_append h.symm
theorem ients_short (ri:Nat) (a b:List DB) (c:List Bs) (h:c.length=a.length):ients ri (a++b) c=ients ri a c:=zipWith_short _ a b c h
theorem get_of_mem_ne {α:Type} {l:List α} (h:l≠[]):∃ x,x∈l:=by
 cases l with
 | nil=>exact absurd rfl h
 | cons x l=>exact ⟨x,by simp⟩
theorem flush_sh {ri:Nat} {l:List KV} {s s1:WS} {B:List DB} {sp:List Bs} {cur:List KV} {key:Bs} (h:WSh ri l s B sp cur) (hp:Pend0 s B sp cur∨Pend1 ri s B sp cur) (hf:FlTo s key s1) (hr:key≠[]→∀ e∈l,Lib.compareBytes e.1 key=-1) (hpk:key≠[]→0 < s.pl→Lib.compareBytes s.data.prev key=-1) :
  ∃ sp',WSh ri l s1 B sp' cur∧s1.pl=0∧sp'.length=B.length∧(key≠[]→∀ x∈sp',Lib.compareBytes x key=-1)∧(∀ x∈sp',x∈sp∨x.length≤s.data.prev.length):=by
 have hold:∀ i x,sp[i]?=some x→i+1 < B.length∨cur≠[]→key≠[]→Lib.compareBytes x key=-1:=fun i x hx hc hk=>by
  rcases hc with hc | hc
  ·obtain ⟨e,he⟩:=get_of_mem_ne (h.nz (i+1) B[i+1] (by omega) (List.getElem?_eq_getElem hc));have hb:B[i+1]∈B:=List.getElem_mem hc;exact cmp_trans (h.seps.below i (i+1) _ x e (by omega) (List.getElem?_eq_getElem hc) hx he) (hr hk e (by rw [← h.flat];exact List.mem_append_left _ (mem_dents hb he)))
  ·obtain ⟨e,he⟩:=get_of_mem_ne hc;exact cmp_trans (h.seps.rest i x e hx he) (hr hk e (by rw [← h.flat];exact List.mem_append_right _ he))
 rcases hf with ⟨h0,rfl⟩ | ⟨h0,sep,hsep,rfl⟩
 ·rcases hp with ⟨_,h2,h3⟩ | ⟨h1,_⟩
  ·refine ⟨sp,h,h0,h2,fun hk x hx=>?_,fun x hx=>.inl hx⟩;obtain ⟨i,hi⟩:=List.mem_iff_getElem?.1 hx;have hil:=lt_of_some hi;refine hold i x hi ?_ hk;by_cases hc:cur=[]
   ·have hB:=h3 hc;rw [hB] at h2;simp at h2;rw [h2] at hi;simp at hi
   ·exact .inr hc
  ·omega
 ·rcases hp with ⟨h1,_⟩ | ⟨_,hc,B',b,rfl,hl,hpo,hpl,hlast⟩
  ·omega
  ·subst hc;obtain ⟨p0,hd⟩:=h.data;have hsl:(sp++[sep]).length=(B'++[b]).length:=by simp [hl]
   have hget:∀ i x,(sp++[sep])[i]?=some x→(i < B'.length∧sp[i]?=some x)∨(i=B'.length∧x=sep):=fun i x hx=>by
    by_cases hi:i < sp.length
    ·rw [List.getElem?_append_left hi] at hx;exact .inl ⟨by omega,hx⟩
    ·rw [List.getElem?_append_right (by omega)] at hx;have hi2:=lt_of_some hx;simp at hi2;have:i=sp.length:=by omega
     subst this;simp at hx;exact .inr ⟨hl,hx.symm⟩
   refine ⟨sp++[sep],⟨h.flat,h.file,h.placed,⟨[],?_⟩,h.nz,?_,⟨fun i b' x e hb hx he=>?_,fun i j b' x e hij hb hx he=>?_,fun i x e _ he=>by simp at he⟩,h.filt,fun e he=>by simp at he⟩,rfl,hsl,fun hk x hx=>?_,fun x hx=>(List.mem_append.1 hx).imp id (fun e=>by rw [List.mem_singleton.1 e];exact hsep.2)⟩
   ·simp only [BWS.adds_nil] at hd ⊢;rw [hd];rfl
   ·show s.index.append sep (hdl s.po s.pl)=_
    rw [ients_append _ _ _ _ _ hl,BWS.adds_append,h.index,ients_short _ _ _ _ hl,hpo,hpl];rfl
   ·rcases hget i x hx with ⟨hi,hx'⟩ | ⟨hi,rfl⟩
    ·exact h.seps.above i b' x e hb hx' he
    ·subst hi;simp at hb;subst hb;rcases hsep.1 with rfl | ⟨hs,_⟩
     ·exact hlast e he
     ·intro hc;have:=cmp_le_lt (hlast e he) hs;rw [hc] at this;exact absurd this (by decide)
   ·rcases hget i x hx with ⟨hi,hx'⟩ | ⟨hi,rfl⟩
    ·exact h.seps.below i j b' x e hij hb hx' he
    ·have:=lt_of_some hb;simp at this;omega
   ·obtain ⟨i,hi⟩:=List.mem_iff_getElem?.1 hx;rcases hget i x hi with ⟨hi',hx'⟩ | ⟨hi',rfl⟩
    ·exact hold i x hx' (.inl (by simp;omega)) hk
    ·have hpk':=hpk hk h0;rcases hsep.1 with rfl | ⟨_,hs⟩
     ·exact hpk'
     ·exact hs hk
theorem append_sh {ri:Nat} {l:List KV} {s:WS} {B:List DB} {sp:List Bs} {cur:List KV} {k v:Bs} {ft:Option FS} (h:WSh ri l s B sp cur) (hf:FtAdd k s.filt ft) (hs:∀ x∈sp,Lib.compareBytes x k=-1) (hr:∀ e∈l,Lib.compareBytes e.1 k=-1) :
  WSh ri (l++[(k,v)]) { s with data:=s.data.append k v,filt:=ft } B sp (cur++[(k,v)]):=by
 obtain ⟨p0,hd⟩:=h.data;refine ⟨by rw [← h.flat,List.append_assoc],h.file,h.placed,⟨p0,?_⟩,h.nz,h.index,⟨h.seps.above,h.seps.below,fun i x e hx he=>?_⟩,?_,fun e he=>?_⟩
 ·show s.data.append k v=_
  rw [BWS.adds_append,hd];rfl
 ·rcases List.mem_append.1 he with he | he
  ·exact h.seps.rest i x e hx he
  ·rw [List.mem_singleton.1 he];exact hs x (List.mem_of_getElem? hx)
 ·have hfi:=h.filt;show FiltHasK B (cur++[(k,v)]) s.file.length ft
  cases hsf:s.filt with
  | none =>
   rw [hsf] at hf;cases ft with
   | none=>trivial
   | some _=>exact hf.elim
  | some fs =>
   rw [hsf] at hf hfi;cases ft with
   | none=>exact hf.elim
   | some fs' =>
    have hf:fs'={ fs with keys:=fs.keys++[bhash k] }:=hf;subst hf;obtain ⟨h1,h2,h3⟩:=hfi;have hmono:∀ x y,KHas fs.ks x y→KHas (FS.ks { fs with keys:=fs.keys++[bhash k] }) x y:=fun x y hk=>by
     rcases hk with hk | ⟨hk1,hk2⟩
     ·exact .inl hk
     ·exact .inr ⟨hk1,List.mem_append_left _ hk2⟩
    refine ⟨h1,fun b hb e he=>hmono _ _ (h2 b hb e he),fun e he=>?_⟩;rcases List.mem_append.1 he with he | he
    ·exact hmono _ _ (h3 e he)
    ·rw [List.mem_singleton.1 he];exact .inr ⟨h1.symm,List.mem_append_right _ (List.mem_singleton.2 rfl)⟩
 ·show ¬ Lib.compareBytes e.1 k=1
  rcases List.mem_append.1 he with he | he
  ·have:=hr e (by rw [← h.flat];exact List.mem_append_right _ he);rw [this];decide
  ·rw [List.mem_singleton.1 he,cmp_self];decide
theorem bdata_pos (ri:Nat) (p0:Bs) (es:List KV):4≤(bdata ri p0 es).length:=by rw [bdata_length];omega
theorem fin_sh {ri n:Nat} {l:List KV} {s s':WS} {B:List DB} {sp:List Bs} {cur:List KV} (h:WSh ri l s B sp cur) (hsp:sp.length=B.length) (hc:cur≠[]∨B=[]) (hf:FinTo n s s'):∃ B',WSh ri l s' B' sp []∧Pend1 ri s' B' sp []∧∀ b∈B',b∈B∨b.es=cur:=by
 obtain ⟨ft',hft,rfl⟩:=hf;obtain ⟨p0,hd⟩:=h.data;have hbuf:s.data.finish.buf=bdata ri p0 cur:=by rw [hd];rfl
 have hget:∀ (i:Nat) (b:DB),(B++[⟨p0,s.file.length,cur⟩])[i]?=some b→(i < B.length∧B[i]?=some b)∨(i=B.length∧b=⟨p0,s.file.length,cur⟩):=fun i b hb=>by
  by_cases hi:i < B.length
  ·rw [List.getElem?_append_left hi] at hb;exact .inl ⟨hi,hb⟩
  ·rw [List.getElem?_append_right (by omega)] at hb;have hi2:=lt_of_some hb;simp at hi2;have:i=B.length:=by omega
   subst this;simp at hb;exact .inr ⟨rfl,hb.symm⟩
 refine ⟨B++[⟨p0,s.file.length,cur⟩],⟨?_,?_,fun i b hb=>?_,⟨s.data.prev,?_⟩,fun i b hi hb=>?_,?_,⟨fun i b x e hb hx he=>?_,fun i j b x e hij hb hx he=>?_,fun i x e _ he=>by simp at he⟩,?_,fun e he=>by simp at he⟩,⟨?_,rfl,B,⟨p0,s.file.length,cur⟩,rfl,hsp,rfl,?_,?_⟩,fun b hb=>(List.mem_append.1 hb).imp id (fun e=>by rw [List.mem_singleton.1 e])⟩
 ·rw [dents_append,← h.flat];simp [dents]
 ·show s.file++sealB s.data.finish.buf=_
  rw [dbytes_append,h.file,hbuf];simp [dbytes,DB.bytes]
 ·rcases hget i b hb with ⟨hi,hb'⟩ | ⟨hi,rfl⟩
  ·rw [List.take_append_of_le_length (by omega)];exact h.placed i b hb'
  ·subst hi;rw [List.take_left,← h.file]
 ·show ({ s.data.finish with buf:=[],n:=0,rs:=[] }:BWS)=_
  have hri:s.data.ri=ri:=by rw [hd,BWS.adds_ri];rfl
  simp only [BWS.adds_nil,BWS.new,BWS.finish,hri]
 ·rcases hget i b hb with ⟨_,hb'⟩ | ⟨hi',rfl⟩
  ·exact h.nz i b hi hb'
  ·rcases hc with hc | hc
   ·exact hc
   ·subst hc;simp at hi';omega
 ·show s.index=_
  rw [ients_short _ _ _ _ hsp];exact h.index
 ·rcases hget i b hb with ⟨_,hb'⟩ | ⟨hi',rfl⟩
  ·exact h.seps.above i b x e hb' hx he
  ·have:=lt_of_some hx;omega
 ·rcases hget j b hb with ⟨_,hb'⟩ | ⟨hi',rfl⟩
  ·exact h.seps.below i j b x e hij hb' hx he
  ·exact h.seps.rest i x e hx he
 ·have hfi:=h.filt;show FiltHasK _ [] (s.file++sealB s.data.finish.buf).length ft'
  cases hsf:s.filt with
  | none =>
   rw [hsf] at hft;cases ft' with
   | none=>trivial
   | some _=>exact hft.elim
  | some fs =>
   rw [hsf] at hft hfi;cases ft' with
   | none=>exact hft.elim
   | some fs' =>
    obtain ⟨_,hks⟩:=hft;obtain ⟨h1,h2,h3⟩:=hfi;have hle:s.file.length / 2048≤(s.file++sealB s.data.finish.buf).length / 2048:=Nat.div_le_div_right (by simp);refine ⟨?_,fun b hb e he=>?_,fun e he=>by simp at he⟩
    ·rw [hks,kflush,kit_length];omega
    ·rw [hks,kflush];rcases List.mem_append.1 hb with hb | hb
     ·exact (h2 b hb e he).kit _
     ·rw [List.mem_singleton.1 hb] at he ⊢;exact (h3 e he).kit _
 ·show 0 < s.data.finish.buf.length
  rw [hbuf];have:=bdata_pos ri p0 cur;omega
 ·show s.data.finish.buf.length=_
  rw [hbuf];rfl
 ·exact h.lastp
theorem new_sh (ri n:Nat):WSh ri [] (newWS ri n) [] [] []∧Pend0 (newWS ri n) [] [] []:=by
 refine ⟨⟨rfl,rfl,fun i b hb=>by simp at hb,⟨[],rfl⟩,fun i b _ hb=>by simp at hb,rfl,⟨fun i b _ _ hb=>by simp at hb,fun i j b _ _ _ hb=>by simp at hb,fun i _ _ hx=>by simp at hx⟩,?_,fun e he=>by simp at he⟩,rfl,rfl,fun _=>rfl⟩;unfold newWS;by_cases hn:n=0
 ·simp only [if_pos hn];trivial
 ·simp only [if_neg hn];exact ⟨rfl,fun b hb=>by simp at hb,fun e he=>by simp at he⟩
theorem FlTo.prev {s s1:WS} {key:Bs} (h:FlTo s key s1):s1.filt=s.filt:=by
 rcases h with ⟨_,rfl⟩ | ⟨_,sep,_,rfl⟩ <;> rfl
theorem WRun.nil' {bs n ri:Nat} {l:List KV} {s:WS} (h:WRun bs n ri l s) (hl:l=[]):s=newWS ri n:=by
 cases h with
 | nil=>rfl
 | snoc hr ha=>simp at hl
theorem run_sh {bs n ri:Nat} {l:List KV} {s:WS} (h:WRun bs n ri l s) (hR:Rising l):∃ B sp cur,WSh ri l s B sp cur∧(Pend0 s B sp cur∨Pend1 ri s B sp cur)∧∀ b∈B,b.es≠[]:=by
 induction h with
 | nil=>exact ⟨[],[],[],(new_sh ri n).1,.inl (new_sh ri n).2,fun b hb=>(nomatch hb)⟩
 | @snoc l s s' e hr ha ih =>
  have hR':Rising l:=fun i j a b hij h1 h2=>hR i j a b hij (by rw [List.getElem?_append_left (lt_of_some h1)];exact h1) (by rw [List.getElem?_append_left (lt_of_some h2)];exact h2)
  have hlt:∀ x∈l,Lib.compareBytes x.1 e.1=-1:=fun x hx=>by
   obtain ⟨i,hi⟩:=List.mem_iff_getElem?.1 hx;have hil:=lt_of_some hi;exact hR i l.length x e hil (by rw [List.getElem?_append_left hil];exact hi) (by simp)
  obtain ⟨B,sp,cur,hw,hp,hne⟩:=ih hR';obtain ⟨s1,ft,s4,hfl,hfa,h4,rfl⟩:=ha;have hpk:e.1≠[]→0 < s.pl→Lib.compareBytes s.data.prev e.1=-1:=fun _ h0=>by
   rcases hr.ent with ⟨_,h1⟩ | ⟨ep,hep,hpr⟩
   ·exfalso
    cases hr with
    | nil=>exact absurd h0 (by simp [newWS])
    | snoc hr ha =>
     obtain ⟨_,_,_,_,_,_,rfl⟩:=ha;simp at h1
   ·rw [hpr];exact hlt ep (List.mem_of_getLast? hep)
  obtain ⟨sp',hw1,hpl,hsl,hsk,_⟩:=flush_sh hw hp hfl (fun _=>hlt) hpk;have hsk':∀ x∈sp',Lib.compareBytes x e.1=-1:=fun x hx=>by
   by_cases hk:e.1=[]
   ·exfalso
    have hB:B≠[]:=fun hB=>by subst hB;simp at hsl;subst hsl;simp at hx
    have hl0:l≠[]:=fun hl=>by
     subst hl;rcases hp with ⟨hp1,hp2,hp3⟩ | ⟨hp0,_⟩
     ·have:cur=[]:=by
       have:=hw.flat;exact (List.append_eq_nil_iff.1 this).2
      exact hB (hp3 this)
     ·rw [hr.nil' rfl] at hp0;exact absurd hp0 (by simp [newWS])
    obtain ⟨y,hy⟩:=get_of_mem_ne hl0;have:=hlt y hy;rw [hk] at this;cases hy1:y.1 with
    | nil=>rw [hy1] at this;simp [Lib.compareBytes] at this
    | cons a b=>rw [hy1] at this;simp [Lib.compareBytes] at this
   ·exact hsk hk x hx
  have hw2:=append_sh (v:=e.2) hw1 (by exact hfa) hsk' hlt;by_cases hb:bs≤(s1.data.append e.1 e.2).len
  ·rw [if_pos hb] at h4;obtain ⟨B',hw3,hp3,hb3⟩:=fin_sh hw2 hsl (.inl (by simp)) h4;exact ⟨B',sp',[],⟨hw3.flat,hw3.file,hw3.placed,hw3.data,hw3.nz,hw3.index,hw3.seps,hw3.filt,hw3.lastp⟩,.inr hp3,fun b hb=>(hb3 b hb).elim (hne b) (fun e=>by rw [e];simp)⟩
  ·rw [if_neg hb] at h4;subst h4;exact ⟨B,sp',cur++[(e.1,e.2)],⟨hw2.flat,hw2.file,hw2.placed,hw2.data,hw2.nz,hw2.index,hw2.seps,hw2.filt,hw2.lastp⟩,.inl ⟨hpl,hsl,fun h=>by simp at h⟩,hne⟩
def metaEs (n fo fl:Nat):List KV:=if n=0 then [] else [(fkey,hdl fo fl)]
def ffo (n ri:Nat) (B:List DB):Nat:=if n=0 then 0 else (dbytes ri B).length
def ffl (n:Nat) (fd:Bs):Nat:=if n=0 then 0 else fd.length
def dfile (n ri:Nat) (B:List DB) (fd:Bs):Bs:=dbytes ri B++(if n=0 then [] else sealB fd)
def metaB (n ri:Nat) (B:List DB) (fd:Bs):Bs:=bdata ri [] (metaEs n (ffo n ri B) (ffl n fd))
def indexB (ri:Nat) (B:List DB) (sp:List Bs):Bs:=bdata 1 [] (ients ri B sp)
def tabFile (n ri:Nat) (B:List DB) (sp:List Bs) (fd:Bs):Bs :=
 dfile n ri B fd++sealB (metaB n ri B fd)++sealB (indexB ri B sp)++footer (dfile n ri B fd).length (metaB n ri B fd).length (dfile n ri B fd++sealB (metaB n ri B fd)).length (indexB ri B sp).length
structure Tab (n ri:Nat) (l:List KV) (B:List DB) (sp:List Bs) (fd:Bs):Prop where
 flat:dents B=l
 pos:0 < B.length
 placed:Placed ri B
 nz:∀ (i:Nat) (b:DB),0 < i→B[i]?=some b→b.es≠[]
 spl:sp.length=B.length
 seps:Seps B sp []
 filt:0 < n→∃ fs:FS,fs.ok n∧fd=fdata (cbuf fs.cs) (coffs fs.cs)∧∀ b∈B,∀ e∈b.es,∃ c,fs.cs[b.off / 2048]?=some c∧bhash e.1∈c.1
 len:(tabFile n ri B sp fd).length≤268435456
 emp:l=[]→∀ x∈sp,x=[]
 ne:l≠[]→∀ b∈B,b.es≠[]
theorem FtTo.some_iff {n x:Nat}:∀ {a b:Option FS},FtTo n x a b→b.isSome=a.isSome
 | none,none,_=>rfl
 | none,some _,h=>h.elim
 | some _,none,h=>h.elim
 | some _,some _,_=>rfl
theorem FtAdd.some_iff {k:Bs}:∀ {a b:Option FS},FtAdd k a b→b.isSome=a.isSome
 | none,none,_=>rfl
 | none,some _,h=>h.elim
 | some _,none,h=>h.elim
 | some _,some _,_=>rfl
theorem FinTo.some_iff {n:Nat} {s s':WS} (h:FinTo n s s'):s'.filt.isSome=s.filt.isSome:=by
 obtain ⟨ft',hft,rfl⟩:=h;exact hft.some_iff
theorem run_some {bs n ri:Nat} {l:List KV} {s:WS} (h:WRun bs n ri l s):s.filt.isSome=decide (0 < n):=by
 induction h with
 | nil =>
  unfold newWS;by_cases hn:n=0
  ·simp [hn]
  ·simp [hn];omega
 | snoc hr ha ih =>
  obtain ⟨s1,ft,s4,hfl,hfa,h4,rfl⟩:=ha;have h1:ft.isSome=_:=hfa.some_iff;rw [hfl.prev,ih] at h1;split at h4
  ·exact h4.some_iff.trans h1
  ·subst h4;exact h1
theorem tab_of {bs n ri:Nat} {l:List KV} {F:Bs} (h:TableOf bs n ri l F) (hR:Rising l) (hT:tot l≤1048576) (hn:n≤20) (hri:1≤ri∧ri≤20):∃ B sp fd,Tab n ri l B sp fd∧F=tabFile n ri B sp fd:=by
 obtain ⟨s,hrun,s2,file2,fo,fl,data3,⟨s1,hs1,hs2⟩,hcb,hd3,rfl⟩:=h;have hnum:=hrun.num hn hT;have hwb:=hnum.wb hT (len_le_tot l) (by omega) (by omega);have hw2:=ClA.ok (n:=n) (s:=s) (s2:=s2) ⟨s1,hs1,hs2⟩ hwb;obtain ⟨B,sp,cur,hw,hp,hbne⟩:=run_sh hrun hR;have hsn:s.data.n=cur.length:=by
  obtain ⟨p0,hd⟩:=hw.data;rw [hd,adds_n]
 have hent:=hnum.en;have hsome:=run_some hrun;have H1:∃ B1,WSh ri l s1 B1 sp []∧Pend1 ri s1 B1 sp []∧s1.filt.isSome=s.filt.isSome∧(l≠[]→∀ b∈B1,b.es≠[]):=by
  by_cases hc:0 < s.data.n∨s.ent=0
  ·rw [if_pos hc] at hs1;have hp0:Pend0 s B sp cur:=by
    rcases hp with hp | ⟨hp1,hp2,B',b,hp3,_⟩
    ·exact hp
    ·exfalso
     rcases hc with hc | hc
     ·rw [hsn,hp2] at hc;simp at hc
     ·have hl0:l=[]:=List.length_eq_zero_iff.1 (by omega);subst hl0;rw [hrun.nil' rfl] at hp1;exact absurd hp1 (by simp [newWS])
   have hcB:cur≠[]∨B=[]:=by
    by_cases hcu:cur=[]
    ·exact .inr (hp0.2.2 hcu)
    ·exact .inl hcu
   obtain ⟨B1,h1,h2,h3⟩:=fin_sh hw hp0.2.1 hcB hs1;refine ⟨B1,h1,h2,hs1.some_iff,fun hl b hb=>(h3 b hb).elim (hbne b) (fun e=>?_)⟩;rw [e];intro hcu;have hB:=hp0.2.2 hcu;have hfl:=hw.flat;rw [hB,hcu] at hfl;exact hl hfl.symm
  ·rw [if_neg hc] at hs1;subst hs1;have hcu:cur=[]:=List.length_eq_zero_iff.1 (by omega);rcases hp with ⟨_,_,hp3⟩ | hp
   ·exfalso
    have hB:=hp3 hcu;have:=hw.flat;rw [hB,hcu] at this;simp [dents] at this;subst this;simp at hent;omega
   ·subst hcu;exact ⟨B,hw,hp,rfl,fun _=>hbne⟩
 obtain ⟨B1,hw1,hp1,hso1,hne1⟩:=H1;obtain ⟨sp',hw3,hpl,hsl,_,hsp'⟩:=flush_sh (key:=[]) hw1 (.inr hp1) hs2 (fun h=>absurd rfl h) (fun h=>absurd rfl h);have hso2:s2.filt.isSome=decide (0 < n):=by rw [hs2.prev,hso1,hsome]
 have hemp:l=[]→∀ x∈sp',x=[]:=fun hl x hx=>by
  subst hl;have hfl:=hw.flat;have hcu:cur=[]:=(List.append_eq_nil_iff.1 hfl).2;have hs0:=hrun.nil' rfl;have hsp:sp=[]:=by
   rcases hp with ⟨_,h2,h3⟩ | ⟨h1,_⟩
   ·have hB:=h3 hcu;rw [hB] at h2;exact List.length_eq_zero_iff.1 h2
   ·rw [hs0] at h1;exact absurd h1 (by simp [newWS])
  have hpv:s1.data.prev=[]:=by
   by_cases hc:0 < s.data.n∨s.ent=0
   ·rw [if_pos hc] at hs1;obtain ⟨ft',_,rfl⟩:=hs1;rw [hs0];rfl
   ·rw [if_neg hc] at hs1;rw [hs1,hs0];rfl
  rcases hsp' x hx with h | h
  ·rw [hsp] at h;cases h
  ·rw [hpv] at h;exact List.length_eq_zero_iff.1 (Nat.le_zero.1 h)
 have hpos:0 < B1.length:=by
  obtain ⟨_,_,B',b,e,_⟩:=hp1;rw [e];simp
 have hdat:s2.data=BWS.new ri []:=by
  rcases hs2 with ⟨h0,_⟩ | ⟨_,sep,_,rfl⟩
  ·have:=hp1.1;omega
  ·obtain ⟨p0,hd⟩:=hw1.data;simp only [BWS.adds_nil] at hd;show ({ s1.data with prev:=[] }:BWS)=_
   rw [hd];rfl
 have hfl0:=hw3.file;have hix:=hw3.index;have hbl:∀ (es:List KV) (ri':Nat) (p:Bs),(bdata ri' p es)=((BWS.new ri' p).adds es).finish.buf:=fun _ _ _=>rfl
 by_cases hn0:n=0
 ·have hsf:s2.filt=none:=by
   rw [hn0] at hso2;simpa using hso2
  rw [hsf] at hd3;simp at hd3;rw [hdat] at hd3;subst hd3;unfold ClB at hcb;rw [hsf] at hcb;obtain ⟨rfl,rfl,rfl⟩:=hcb;have hF:s2.file++sealB (BWS.new ri []).finish.buf++sealB s2.index.finish.buf++footer s2.file.length (BWS.new ri []).finish.buf.length (s2.file++sealB (BWS.new ri []).finish.buf).length s2.index.finish.buf.length=tabFile n ri B1 sp' []:=by
   subst hn0;unfold tabFile dfile metaB indexB metaEs;simp only [if_true,List.append_nil];rw [← hfl0,hbl,hbl,← hix];rfl
  refine ⟨B1,sp',[],⟨?_,hpos,hw3.placed,hw3.nz,hsl,hw3.seps,fun h=>by omega,?_,hemp,hne1⟩,hF⟩
  ·have:=hw3.flat;simpa using this
  ·rw [← hF];simp only [List.length_append,sealB_length];have h1:=hw2.fl;have h2:=finish_len s2.index;have h3:=hw2.ib;have h4:=hw2.ir;have h5:=finish_len (BWS.new ri []);have h6:(BWS.new ri []).buf.length=0:=rfl;have h7:(BWS.new ri []).rs.length=0:=rfl;have h8:(footer s2.file.length (BWS.new ri []).finish.buf.length (s2.file.length+((BWS.new ri []).finish.buf.length+5)) s2.index.finish.buf.length).length=48:=by
    have hl1:=uvarint_len5 (x:=s2.file.length) (by omega);have hl2:=uvarint_len5 (x:=(BWS.new ri []).finish.buf.length) (by omega);have hl3:=uvarint_len5 (x:=s2.file.length+((BWS.new ri []).finish.buf.length+5)) (by omega);have hl4:=uvarint_len5 (x:=s2.index.finish.buf.length) (by omega);unfold footer hdl;simp only [List.length_append,List.length_replicate];have:magic.length=8:=rfl;omega
   omega
 ·have hsf:s2.filt.isSome=true:=by rw [hso2];simp;omega
  rw [if_pos hsf] at hd3;rw [hdat] at hd3;obtain ⟨fs,hfs⟩:=Option.isSome_iff_exists.1 hsf;unfold ClB at hcb;rw [hfs] at hcb;obtain ⟨fd,hfd,rfl,rfl,rfl⟩:=hcb;have hfe:=hw2.ft;rw [hfs] at hfe;have hfdl:=hfd.len hn hfe.2.2.2.1 hfe.2.2.2.2.1;have hF:s2.file++sealB fd++sealB data3.finish.buf++sealB s2.index.finish.buf++footer (s2.file++sealB fd).length data3.finish.buf.length (s2.file++sealB fd++sealB data3.finish.buf).length s2.index.finish.buf.length=tabFile n ri B1 sp' fd:=by
   unfold tabFile dfile metaB indexB metaEs ffo ffl;simp only [if_neg hn0];rw [← hfl0,hbl,hbl,← hix,BWS.adds_one,← hd3]
  refine ⟨B1,sp',fd,⟨?_,hpos,hw3.placed,hw3.nz,hsl,hw3.seps,fun _=>?_,?_,hemp,hne1⟩,hF⟩
  ·have:=hw3.flat;simpa using this
  ·obtain ⟨fs1,h1,h2,h3⟩:=hfd;refine ⟨fs1,h1,h3,fun b hb e he=>?_⟩;have hfi:=hw3.filt;rw [hfs] at hfi;have hk:=hfi.2.1 b hb e he;have hfin:∃ g,fs1.ks.1[b.off / 2048]?=some g∧bhash e.1∈g:=by
    rw [h2];by_cases hkk:fs.keys=[]
    ·rw [if_pos hkk];rcases hk with hk | ⟨_,hk⟩
     ·exact hk
     ·have:fs.ks.2=[]:=hkk;rw [this] at hk;simp at hk
    ·rw [if_neg hkk];rcases hk.gen with hk | ⟨_,hk⟩
     ·exact hk
     ·simp [kgen] at hk
   obtain ⟨g,hg,hh⟩:=hfin;have hg':(fs1.cs.map Prod.fst)[b.off / 2048]?=some g:=hg;rw [List.getElem?_map] at hg';obtain ⟨c,hc,rfl⟩:=Option.map_eq_some_iff.1 hg';exact ⟨c,hc,hh⟩
  ·rw [← hF];simp only [List.length_append,sealB_length];have h1:=hw2.fl;have h2:=finish_len s2.index;have h3:=hw2.ib;have h4:=hw2.ir;have h5:=finish_len data3;have h10:(hdl s2.file.length fd.length).length≤10:=by
    have hl1:=uvarint_len5 (x:=s2.file.length) (by omega);have hl2:=uvarint_len5 (x:=fd.length) (by omega);unfold hdl;rw [List.length_append];omega
   have h6:=entry_le (BWS.new ri []) fkey (hdl s2.file.length fd.length) (by decide) (by omega);have h7:=append_rs (BWS.new ri []) fkey (hdl s2.file.length fd.length);rw [← hd3] at h6 h7;have hfk:fkey.length=33:=rfl;have h8:(BWS.new ri []).buf.length=0:=rfl;have h9:(BWS.new ri []).rs.length=0:=rfl;have h11:(footer (s2.file.length+(fd.length+5)) data3.finish.buf.length (s2.file.length+(fd.length+5)+(data3.finish.buf.length+5)) s2.index.finish.buf.length).length=48:=by
    have hl1:=uvarint_len5 (x:=s2.file.length+(fd.length+5)) (by omega);have hl2:=uvarint_len5 (x:=data3.finish.buf.length) (by omega);have hl3:=uvarint_len5 (x:=s2.file.length+(fd.length+5)+(data3.finish.buf.length+5)) (by omega);have hl4:=uvarint_len5 (x:=s2.index.finish.buf.length) (by omega);unfold footer hdl;simp only [List.length_append,List.length_replicate];have:magic.length=8:=rfl;omega
   omega
end
section
open Go Go.RowKit Go.Shelf
theorem run_copy_long {w:World} (dT sT ty E:Nat) (hu:Tryz.prog.underlying dT=some (.slice E)) (hs:(Tryz.prog.info? E).map (·.size)=some 1) {g od dLen dCap:Nat} {Z:Array Value} {T:Nat} (hg:Blk w g Z T)
  {b o:Nat} {n c:Nat} {l:List UInt8} (h:Sl w (some ⟨b,o,none⟩) n c l) (hn:dLen≤n) (hfit:od+dLen≤Z.size) :
  (Builtin.copy_ #[dT,sT] ty #[.slice (some ⟨g,od,none⟩) dLen dCap,.slice (some ⟨b,o,none⟩) n c]).run Tryz.prog w=.ok (.int .i64 dLen) (w.setRow g (splice Z od (bv (l.take dLen)))):=by
 have hlen:=h.len;have hbl:(bv (l.take dLen)).length=dLen:=by rw [bv_length,List.length_take];omega
 have:=run_copy_row (P:=Tryz.prog) w dT sT ty E g od dLen dCap ⟨b,o,none⟩ n c Z T (bv (l.take dLen)) hu hs hg (by rw [hbl];exact (Nat.min_eq_right hn).symm) (fun j v hj=>by
  rw [bv_get] at hj;obtain ⟨x,hx,rfl⟩:=Option.map_eq_some_iff.1 hj;rw [List.getElem?_take] at hx;split at hx
  ·obtain ⟨hlt,rfl⟩:=List.getElem?_eq_some_iff.1 hx;have ea:(⟨b,o,none⟩:Addr).add j=⟨b,o+j,none⟩:=by
    by_cases e:j=0
    ·subst e;simp [Addr.add]
    ·simp [Addr.add,e]
   rw [ea];exact h.cellAt hlt
  ·cases hx) (by rw [hbl];exact hfit) (bv_one _)
 rw [this];simp only [goInt,splice,hbl]
structure FR' (w:World) (rd:Nat) (fa:Option Addr) (fc:Nat) (F:Bs):Prop where
 blk:Blk w rd #[.slice fa F.length fc,.int .i64 0,.int .i64 (-1)] 161
 sl:Sl w fa F.length fc F
theorem FR'.fr {S:Nat→Prop} {w w':World} {rd:Nat} {fa:Option Addr} {fc:Nat} {F:Bs} (h:FR' w rd fa fc F) (hf:Fr S w w') (h1:¬ S rd) (h2:∀ p,fa=some p→¬ S p.block):FR' w' rd fa fc F:=⟨h.blk.fr hf h1,h.sl.fr hf h2⟩
theorem readAt_any (w:World) (rd:Nat) (fa:Option Addr) (fc:Nat) (F:Bs) (h:FR' w rd fa fc F) (hF:F.length≤2147483647) (g od m dc off:Nat) (Z:Array Value) (T:Nat) (hg:Blk w g Z T) (hfit:od+m≤Z.size) (hoff:off+m≤F.length) (hm:0 < m) :
  Calls Tryz.prog 164 #[.pointer (some ⟨rd,0,none⟩),.slice (some ⟨g,od,none⟩) m dc,.int .i64 off] w fun e w'=>e=.returned (.tuple #[.int .i64 m,.nilIface])∧w'=w.setRow g (splice Z od (bv ((F.drop off).take m))):=by
 have hz0:w.cell? ⟨rd,0,none⟩=some (.slice fa F.length fc):=h.blk.cell (k:=0) rfl;obtain ⟨b,o,rfl⟩:=h.sl.form (by omega);have hcap:=h.sl.cap;have hcut:=h.sl.cut (lo:=off) (by omega);rw [cutA_some (by omega)] at hcut;have hcp:=run_copy_long 29 29 3 5 un29 sz5 hg (dCap:=dc) hcut (by omega) hfit;have hsl:∀ w',(Instr.slice 29 (.slice (some ⟨b,o,none⟩) F.length fc) (some (.int .i64 (off:Int))) none none).run Tryz.prog w'=.ok (.slice (some ⟨b,o+off,none⟩) (F.length - off) (fc - off)) w':=fun w'=>by
  rw [run_slice_lo (P:=Tryz.prog) 29 5 un29 sz5 .i64 (some ⟨b,o,none⟩) F.length fc off (by omega) w',cutA_some (by omega)]
 have h1:¬ ((off:Int) < 0):=by omega
 have h2:¬ ((F.length:Int)≤(off:Int)):=by omega
 clear h hcut hg;generalize F.length=L at *;go_enter Tryz.func164,Tryz.ntmps164
 go_wp2
 go_returns
 exact ⟨rfl,rfl⟩
end
end Go.Proofs.YtmkdpjicgjhhjaaGreatDoor
