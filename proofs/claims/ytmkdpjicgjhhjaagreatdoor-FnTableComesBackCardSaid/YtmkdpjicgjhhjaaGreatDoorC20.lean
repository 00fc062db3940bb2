/- Part 20 of the proof of FnTableComesBack: contracts and lemmas, each under the conditions that it states. Texts: PNum, RBlk, RSearch, RSeek. -/
import Derived.Test.YtmkdpjicgjhhjaaGreatDoorC17
import Derived.Test.YtmkdpjicgjhhjaaGreatDoorC19
import Derived.Test.YtmkdpjicgjhhjaaGreatDoorC04
import Derived.Test.YtmkdpjicgjhhjaaGreatDoorC05
import Derived.Deep.DeepCutAuto
import Derived.Handy
import Derived.Test.YtmkdpjicgjhhjaaGreatDoorC12
namespace Go.Proofs.YtmkdpjicgjhhjaaGreatDoor
open Go.Lib (hid)
set_option maxRecDepth 100000
set_option linter.all false
section
open Go Go.RowKit Go.Shelf
def kvs (e:KV):Nat:=e.1.length+e.2.length+1
def tot (l:List KV):Nat:=(l.map kvs).sum
theorem tot_append (a b:List KV):tot (a++b)=tot a+tot b:=by simp [tot]
theorem tot_one (e:KV):tot [e]=kvs e:=by simp [tot]
theorem len_le_tot:∀ l:List KV,l.length≤tot l
 | []=>by simp [tot]
 | e :: l=>by
  have:=len_le_tot l;simp only [tot,List.map_cons,List.sum_cons,List.length_cons] at *;have h:kvs e=e.1.length+e.2.length+1:=rfl;omega
structure WNum (n ri T N:Nat) (s:WS):Prop where
 a:s.file.length+s.data.buf.length+4*s.data.rs.length≤32*T
 dn:s.data.n≤N
 dr:s.data.rs.length≤s.data.n
 drv:∀ x∈s.data.rs,x < 4294967296
 dp:s.data.prev.length≤T
 dri:s.data.ri=ri
 c:s.index.buf.length+(if 0 < s.pl then s.data.prev.length+26 else 0)≤26*T
 in':s.index.n≤N
 ir:s.index.rs.length≤s.index.n
 irv:∀ x∈s.index.rs,x < 4294967296
 ip:s.index.prev.length≤T
 iri:s.index.ri=1
 po:s.po≤32*T
 pl:s.pl≤32*T
 en:s.ent=N
 ft:match s.filt with | none=>True | some fs=>fs.ok n∧n≤20∧fs.cs.length≤s.file.length / 2048∧ktot fs.ks≤N
theorem WNum.wb {n ri T N:Nat} {s:WS} (h:WNum n ri T N s) (hT:T≤1048576) (hN:N≤T) (h1:1≤ri) (h2:ri≤1000):WB n s:=by
 have a:=h.a;have b:=h.dn;have c:=h.dr;have d:=h.c;have e:=h.in';have f:=h.ir;have hd:s.index.buf.length≤26*T:=by split at d <;> omega
 refine ⟨by omega,by omega,by omega,h.drv,by have:=h.dp;omega,by rw [h.dri];exact h1,by rw [h.dri];exact h2,by omega,by omega,by omega,h.irv,by have:=h.ip;omega,h.iri,by have:=h.po;omega,by have:=h.pl;omega,by omega,by rw [h.en];omega,?_⟩;have:=h.ft;revert this;cases s.filt with
 | none=>exact fun _=>trivial
 | some fs=>exact fun h=>⟨h.1,h.2.1,by have:=h.2.2.1;omega,by have:=h.2.2.2;omega⟩
theorem finish_len' (s:BWS):s.finish.buf.length≤s.buf.length+4*s.rs.length+8:=by
 unfold BWS.finish BWS.ends;simp only [List.length_append,le32s_length];split <;> simp <;> omega
theorem append_rs_n (s:BWS) (key val:List UInt8) (h:s.rs.length≤s.n):(s.append key val).rs.length≤(s.append key val).n:=by
 simp only [BWS.append];split
 ·simp;omega
 ·show s.rs.length≤s.n+1
  omega
theorem FtTo.num {n x N y:Nat}:∀ {a b:Option FS},FtTo n x a b→y≤x→(match a with | none=>True | some fs=>fs.ok n∧n≤20∧fs.cs.length≤y∧ktot fs.ks≤N)→(match b with | none=>True | some fs=>fs.ok n∧n≤20∧fs.cs.length≤x∧ktot fs.ks≤N)
 | none,none,_,_,_=>trivial
 | none,some _,h,_,_=>h.elim
 | some _,none,h,_,_=>h.elim
 | some fs,some fs',h,hx,h1=>by
  have e1:ktot fs'.ks=ktot fs.ks:=by rw [h.2];exact ktot_kit _ _
  have e2:fs'.cs.length=fs.cs.length+(x - fs.cs.length):=by
   have:fs'.ks.1.length=fs.ks.1.length+(x - fs.ks.1.length):=by rw [h.2];exact kit_length _ _
   simpa [FS.ks] using this
  exact ⟨h.1,h1.2.1,by omega,by omega⟩
theorem FtAdd.num {n y N:Nat} {l:Bs}:∀ {a b:Option FS},FtAdd l a b→(match a with | none=>True | some fs=>fs.ok n∧n≤20∧fs.cs.length≤y∧ktot fs.ks≤N)→(match b with | none=>True | some fs=>fs.ok n∧n≤20∧fs.cs.length≤y∧ktot fs.ks≤N+1)
 | none,none,_,_=>trivial
 | none,some _,h,_=>h.elim
 | some _,none,h,_=>h.elim
 | some fs,some fs',h,h1=>by
  have h3:=FtAdd.ok (n:=n) (x:=some fs) (y:=some fs') h h1.1;simp only [FtAdd] at h;subst h;refine ⟨h3,h1.2.1,h1.2.2.1,?_⟩;have:=h1.2.2.2;unfold ktot FS.ks at *;simp only [List.length_append,List.length_singleton] at *;omega
theorem WNum.step {bs n ri T N:Nat} {s s':WS} {k v:Bs} (h:WNum n ri T N s) (hT:T+kvs (k,v)≤1048576) (ha:AppTo bs n s k v s'):WNum n ri (T+kvs (k,v)) (N+1) s':=by
 obtain ⟨s1,ft,s4,hfl,hfa,h4,rfl⟩:=ha;have hkv:kvs (k,v)=k.length+v.length+1:=rfl;rw [hkv] at hT ⊢;have a:=h.a;have dn:=h.dn;have dr:=h.dr;have dp:=h.dp;have c:=h.c;have iN:=h.in';have iR:=h.ir;have iP:=h.ip;have po:=h.po;have pl:=h.pl;have H1:s1.file=s.file∧s1.data.buf=s.data.buf∧s1.data.n=s.data.n∧s1.data.rs=s.data.rs∧s1.data.ri=ri∧s1.filt=s.filt∧s1.ent=N∧s1.po≤32*T∧s1.pl=0 ∧
   s1.index.buf.length≤26*T∧s1.index.n≤N+1∧s1.index.rs.length≤s1.index.n∧(∀ x∈s1.index.rs,x < 4294967296)∧s1.index.prev.length≤T∧s1.index.ri=1:=by
  rcases hfl with ⟨h0,rfl⟩ | ⟨h0,sep,hsep,rfl⟩
  ·rw [if_neg (by omega)] at c;exact ⟨rfl,rfl,rfl,rfl,h.dri,rfl,h.en,po,h0,by omega,by omega,iR,h.irv,iP,h.iri⟩
  ·rw [if_pos h0] at c;have hs:=hsep.2;have h10:(hdl s.po s.pl).length≤10:=by
    have h1:=uvarint_len5 (x:=s.po) (by omega);have h2:=uvarint_len5 (x:=s.pl) (by omega);unfold hdl;rw [List.length_append];omega
   have he:=entry_le s.index sep (hdl s.po s.pl) (by omega) (by omega);have hr:=append_rs_n s.index sep (hdl s.po s.pl) iR;have hrv:=append_rsv s.index sep (hdl s.po s.pl) h.irv (by omega);exact ⟨rfl,rfl,rfl,rfl,h.dri,rfl,h.en,Nat.zero_le _,rfl,by show (s.index.append _ _).buf.length≤_;omega,by show s.index.n+1≤_;omega,hr,hrv,by show sep.length≤_;omega,h.iri⟩
 obtain ⟨e1,e2,e3,e4,e5,e6,e7,e8,e9,e10,e11,e12,e13,e14,e15⟩:=H1;have he:=entry_le s1.data k v (by omega) (by omega);have hr:=append_rs s1.data k v;have hrn:=append_rs_n s1.data k v (by rw [e3,e4];exact dr);have hrv:=append_rsv s1.data k v (by rw [e4];exact h.drv) (by rw [e2];omega);have hn:(s1.data.append k v).n=s.data.n+1:=by rw [← e3];rfl
 have hri:(s1.data.append k v).ri=ri:=e5;have hpr:(s1.data.append k v).prev=k:=rfl;have hft:=hfa.num (n:=n) (y:=s.file.length / 2048) (N:=N) (by rw [e6];exact h.ft);rw [e2] at he;rw [e4] at hr;by_cases hbs:bs≤(s1.data.append k v).len
 ·rw [if_pos hbs] at h4;obtain ⟨ft',hto,rfl⟩:=h4;have hfin:=finish_len' (s1.data.append k v);have hfile:(s1.file++sealB (s1.data.append k v).finish.buf).length=s.file.length+(s1.data.append k v).finish.buf.length+5:=by rw [List.length_append,sealB_length,e1];omega
  have hft':=hto.num (N:=N+1) (y:=s.file.length / 2048) (by show _≤(s1.file++sealB (s1.data.append k v).finish.buf).length / 2048;rw [hfile];omega) hft;refine ⟨?_,Nat.zero_le _,Nat.zero_le _,fun x hx=>by simp at hx,?_,hri,?_,by show s1.index.n≤_;omega,e12,e13,by show s1.index.prev.length≤_;omega,e15,?_,?_,by show s1.ent+1=_;omega,hft'⟩
  ·show (s1.file++sealB (s1.data.append k v).finish.buf).length+0+4*0≤_
   rw [hfile];omega
  ·show k.length≤_
   omega
  ·show s1.index.buf.length+(if 0 < (s1.data.append k v).finish.buf.length then k.length+26 else 0)≤_
   split <;> omega
  ·show s1.file.length≤_
   rw [e1];omega
  ·show (s1.data.append k v).finish.buf.length≤_
   omega
 ·rw [if_neg hbs] at h4;subst h4;refine ⟨?_,?_,hrn,hrv,?_,hri,?_,by show s1.index.n≤_;omega,e12,e13,by show s1.index.prev.length≤_;omega,e15,by show s1.po≤_;omega,?_,by show s1.ent+1=_;omega,?_⟩
  ·show s1.file.length+(s1.data.append k v).buf.length+4*(s1.data.append k v).rs.length≤_
   rw [e1];omega
  ·show (s1.data.append k v).n≤_
   omega
  ·show k.length≤_
   omega
  ·show s1.index.buf.length+(if 0 < s1.pl then k.length+26 else 0)≤_
   rw [e9,if_neg (by omega)];omega
  ·show s1.pl≤_
   omega
  ·have:s1.file.length / 2048=s.file.length / 2048:=by rw [e1]
   rw [← this] at hft;exact hft
theorem WNum.new (n ri:Nat) (hn:n≤20):WNum n ri 0 0 (newWS ri n):=by
 refine ⟨by simp [newWS,BWS.new],by simp [newWS,BWS.new],by simp [newWS,BWS.new],fun x hx=>by simp [newWS,BWS.new] at hx,by simp [newWS,BWS.new],rfl,by simp [newWS,BWS.new],by simp [newWS,BWS.new],by simp [newWS,BWS.new],fun x hx=>by simp [newWS,BWS.new] at hx,by simp [newWS,BWS.new],rfl,by simp [newWS],by simp [newWS],rfl,?_⟩;unfold newWS;by_cases h0:n=0
 ·rw [if_pos h0];trivial
 ·rw [if_neg h0];exact ⟨⟨fun c hc=>by simp at hc,fun h hh=>by simp at hh⟩,hn,by simp,by simp [ktot,FS.ks]⟩
inductive WRun (bs n ri:Nat):List KV→WS→Prop
 | nil:WRun bs n ri [] (newWS ri n)
 | snoc {l:List KV} {s s':WS} {e:KV}:WRun bs n ri l s→AppTo bs n s e.1 e.2 s'→WRun bs n ri (l++[e]) s'
theorem WRun.num {bs n ri:Nat} (hn:n≤20) {l:List KV} {s:WS} (h:WRun bs n ri l s) (hT:tot l≤1048576):WNum n ri (tot l) l.length s:=by
 induction h with
 | nil=>exact WNum.new n ri hn
 | snoc hr ha ih =>
  rw [tot_append,tot_one] at hT ⊢;rw [List.length_append,List.length_singleton];exact (ih (by omega)).step hT ha
theorem AppTo.prev {bs n:Nat} {s s':WS} {k v:Bs} (h:AppTo bs n s k v s'):s'.data.prev=k:=by
 obtain ⟨s1,ft,s4,hfl,hfa,h4,rfl⟩:=h;split at h4
 ·obtain ⟨_,_,rfl⟩:=h4;rfl
 ·subst h4;rfl
end
section
open Go Go.RowKit Go.Shelf
structure Rb (w:World) (p q:Nat) (off len:Nat) (D:Bs) (nr ro:Nat):Prop where
 blk:Blk w p #[.pointer none,.int .u64 off,.int .u64 len,.slice (some ⟨q,0,none⟩) D.length (D.length+5),.int .i64 nr,.int .i64 ro] 221
 sl:Sl w (some ⟨q,0,none⟩) D.length (D.length+5) D
 len:D.length=ro+4*nr+4
 max:D.length≤2147483647
theorem Rb.keep {w w':World} {p q off len:Nat} {D:Bs} {nr ro:Nat} (h:Rb w p q off len D nr ro) (hp:w'.heap[p]?=w.heap[p]?) (hq:w'.heap[q]?=w.heap[q]?):Rb w' p q off len D nr ro :=
 ⟨hp.trans h.blk,h.sl.fr' fun g o ha j hj=>by
  simp only [Option.some.injEq,Addr.mk.injEq] at ha;obtain ⟨rfl,rfl,_⟩:=ha;exact World.cell?_of_block hq,h.len,h.max⟩
theorem Rb.qlt {w:World} {p q off len:Nat} {D:Bs} {nr ro:Nat} (h:Rb w p q off len D nr ro):q < w.heap.size:=lt_of_cell (h.sl.cellAt (j:=0) (by have:=h.len;omega))
theorem Rb.drewN {w:World} {p q off len:Nat} {D:Bs} {nr ro:Nat} (h:Rb w p q off len D nr ro) (k:Nat):Rb (w.drewN k) p q off len D nr ro:=h.keep rfl rfl
theorem Rb.at' {w:World} {p q off len:Nat} {D:Bs} {nr ro:Nat} (h:Rb w p q off len D nr ro) (o n c:Nat) (ho:o+n≤D.length) (hc:o+c=D.length+5):Sl w (some ⟨q,o,none⟩) n c ((D.drop o).take n):=by
 refine ⟨by simp;omega,by omega,by have:=h.sl.max;omega,fun h=>by simp at h,fun j hj=>⟨q,o,rfl,?_⟩⟩;simp only [List.length_take,List.length_drop] at hj;have:=h.sl.cellAt (j:=o+j) (by omega);simpa using this
theorem cutq (q c lo:Nat) (h:lo < c):cutA (some ⟨q,0,none⟩) c lo=some ⟨q,lo,none⟩:=by
 unfold cutA;rw [if_neg (by omega)];by_cases e:lo=0
 ·subst e;simp [Addr.add]
 ·simp [Addr.add,e]
set_option maxHeartbeats 4000000 in
theorem entry_any (w:World) (p q boff blen:Nat) (D:Bs) (nr ro:Nat) (h:Rb w p q boff blen D nr ro) (off sh:Nat) (k v r:Bs) (hD:D.drop off=entry sh k v++r) (hsh:sh≤k.length) (hkl:k.length≤2147483647) (hoff:off+(entry sh k v).length≤ro) :
  Calls Tryz.prog 106 #[.pointer (some ⟨p,0,none⟩),.int .i64 off] w fun e w'=>e=.returned (.tuple #[
   .slice (some ⟨q,off+(entry sh k v).length - v.length - (k.length - sh),none⟩) (k.length - sh) (D.length+5 - (off+(entry sh k v).length - v.length - (k.length - sh))),
   .slice (some ⟨q,off+(entry sh k v).length - v.length,none⟩) v.length (D.length+5 - (off+(entry sh k v).length - v.length)),.int .i64 sh,.int .i64 (entry sh k v).length,.nilIface])∧w'=w:=by
 have hel:=entry_length sh k v;have p0:=uvarint_pos sh;have p1:=uvarint_pos (k.length - sh);have p2:=uvarint_pos v.length;have hlen:=h.len;have hmax:=h.max;generalize hn0:(Lib.uvarint sh).length=n0 at *;generalize hn1:(Lib.uvarint (k.length - sh)).length=n1 at *;generalize hn2:(Lib.uvarint v.length).length=n2 at *;generalize hK:k.length - sh=K at *;generalize hV:v.length=V at *;generalize hE:(entry sh k v).length=E at *
 have d0:D.drop off=Lib.uvarint sh++(Lib.uvarint K++(Lib.uvarint V++(k.drop sh++(v++r)))):=by
  rw [hD];unfold entry;rw [hK,hV];simp
 have d1:D.drop (off+n0)=Lib.uvarint K++(Lib.uvarint V++(k.drop sh++(v++r))):=by
  rw [← List.drop_drop,d0,← hn0,List.drop_left]
 have d2:D.drop (off+n0+n1)=Lib.uvarint V++(k.drop sh++(v++r)):=by
  rw [← List.drop_drop,d1,← hn1,List.drop_left]
 have hshb:sh < 9223372036854775808:=by omega
 have u0:Lib.uvarintDec (D.drop off)=(sh,(n0:Int)):=by rw [d0,uvarintDec_uvarint _ hshb,hn0]
 have u1:Lib.uvarintDec (D.drop (off+n0))=(K,(n1:Int)):=by rw [d1,uvarintDec_uvarint _ (by omega),hn1]
 have u2:Lib.uvarintDec (D.drop (off+n0+n1))=(V,(n2:Int)):=by rw [d2,uvarintDec_uvarint _ (by omega),hn2]
 have sl:=fun (o:Nat) (ho:o≤D.length)=>(h.at' o (D.length - o) (D.length+5 - o) (by omega) (by omega))
 have tk:∀ o,o≤D.length→(D.drop o).take (D.length - o)=D.drop o:=fun o ho=>List.take_of_length_le (by simp)
 have c0:=uvarint_any _ _ _ _ w (sl off (by omega));have c1:=uvarint_any _ _ _ _ w (sl (off+n0) (by omega));have c2:=uvarint_any _ _ _ _ w (sl (off+n0+n1) (by omega));rw [tk _ (by omega),u0] at c0;rw [tk _ (by omega),u1] at c1;rw [tk _ (by omega),u2] at c2;have hq3:=h.blk.cell (k:=3) rfl;have hq5:=h.blk.cell (k:=5) rfl;have s0:∀ w',(Instr.slice 29 (.slice (some ⟨q,0,none⟩) D.length (D.length+5)) (some (.int .i64 (off:Int))) none none).run Tryz.prog w'=.ok (.slice (some ⟨q,off,none⟩) (D.length - off) (D.length+5 - off)) w':=fun w'=>by
  rw [run_slice_lo (P:=Tryz.prog) 29 5 un29 sz5 .i64 _ _ _ off (by omega) w',cutq _ _ _ (by omega)]
 have s1:∀ w',(Instr.slice 29 (.slice (some ⟨q,0,none⟩) D.length (D.length+5)) (some (.int .i64 ((off:Int)+(n0:Int)))) none none).run Tryz.prog w'=.ok (.slice (some ⟨q,off+n0,none⟩) (D.length - (off+n0)) (D.length+5 - (off+n0))) w':=fun w'=>by
  rw [show (off:Int)+n0=((off+n0:Nat):Int) by omega,run_slice_lo (P:=Tryz.prog) 29 5 un29 sz5 .i64 _ _ _ (off+n0) (by omega) w',cutq _ _ _ (by omega)]
 have s2:∀ w',(Instr.slice 29 (.slice (some ⟨q,0,none⟩) D.length (D.length+5)) (some (.int .i64 ((off:Int)+(n0:Int)+(n1:Int)))) none none).run Tryz.prog w'=.ok (.slice (some ⟨q,off+n0+n1,none⟩) (D.length - (off+n0+n1)) (D.length+5 - (off+n0+n1))) w':=fun w'=>by
  rw [show (off:Int)+n0+n1=((off+n0+n1:Nat):Int) by omega,run_slice_lo (P:=Tryz.prog) 29 5 un29 sz5 .i64 _ _ _ (off+n0+n1) (by omega) w',cutq _ _ _ (by omega)]
 have s3:∀ w',(Instr.slice 29 (.slice (some ⟨q,0,none⟩) D.length (D.length+5)) (some (.int .i64 ((off:Int)+((n0:Int)+(n1:Int)+(n2:Int))))) (some (.int .i64 ((off:Int)+((n0:Int)+(n1:Int)+(n2:Int))+(K:Int)))) none).run Tryz.prog w'=.ok (.slice (some ⟨q,off+E - V - K,none⟩) K (D.length+5 - (off+E - V - K))) w':=fun w'=>by
  rw [show (off:Int)+(n0+n1+n2)=((off+E - V - K:Nat):Int) by omega,show ((off+E - V - K:Nat):Int)+(K:Int)=((off+E - V:Nat):Int) by omega,run_slice_lohi (P:=Tryz.prog) 29 5 un29 sz5 .i64 .i64 _ _ _ (off+E - V - K) (off+E - V) (by omega) (by omega) w',cutq _ _ _ (by omega),show off+E - V - (off+E - V - K)=K by omega]
 have s4:∀ w',(Instr.slice 29 (.slice (some ⟨q,0,none⟩) D.length (D.length+5)) (some (.int .i64 ((off:Int)+((n0:Int)+(n1:Int)+(n2:Int))+(K:Int)))) (some (.int .i64 ((off:Int)+((n0:Int)+(n1:Int)+(n2:Int)+(K:Int)+(V:Int))))) none).run Tryz.prog w'=.ok (.slice (some ⟨q,off+E - V,none⟩) V (D.length+5 - (off+E - V))) w':=fun w'=>by
  rw [show (off:Int)+(n0+n1+n2)+K=((off+E - V:Nat):Int) by omega,show (off:Int)+(n0+n1+n2+K+V)=((off+E:Nat):Int) by omega,run_slice_lohi (P:=Tryz.prog) 29 5 un29 sz5 .i64 .i64 _ _ _ (off+E - V) (off+E) (by omega) (by omega) w',cutq _ _ _ (by omega),show off+E - (off+E - V)=V by omega]
 have hE':((n0:Int)+(n1:Int)+(n2:Int)+(K:Int)+(V:Int))=(E:Int):=by omega
 have HE:=hid hE';have hfin:n0+n1+n2+K+V+off≤ro:=by omega
 have hlt:off < ro:=by omega
 have hb0:off≤2147483647:=by omega
 have hb1:n0≤2147483647:=by omega
 have hb2:n1≤2147483647:=by omega
 have hb3:n2≤2147483647:=by omega
 have hb4:K≤2147483647:=by omega
 have hb5:V≤2147483647:=by omega
 have hb6:sh≤2147483647:=by omega
 generalize hx1:D.length - (off+n0)=x1 at *;generalize hx2:D.length+5 - (off+n0)=x2 at *;generalize hx3:off+n0=x3 at *;clear hx1 hx2 hx3;generalize hy1:D.length - (x3+n1)=y1 at *;generalize hy2:D.length+5 - (x3+n1)=y2 at *;generalize hy3:x3+n1=y3 at *;clear hy1 hy2 hy3;generalize hz1:D.length - off=z1 at *;generalize hz2:D.length+5 - off=z2 at *;clear hz1 hz2;generalize hKA:off+E - V - K=KA at *;generalize hVA:off+E - V=VA at *
 generalize hKC:D.length+5 - KA=KC at *;generalize hVC:D.length+5 - VA=VC at *;clear hKA hVA hKC hVC;generalize hDC:D.length+5=LC at *;generalize hDL:D.length=L at *;clear hDC hDL hD d0 d1 d2 u0 u1 u2 sl tk h hn0 hn1 hn2 hE hK hV hE' hel hshb hoff hlen;have S1:=hid s1;have S2:=hid s2;have S3:=hid s3;have S4:=hid s4;clear s1 s2 s3 s4;go_enter Tryz.func106,Tryz.ntmps106
 go_wp2_with fail
 refine c0.mono ?_;rintro e w' ⟨rfl,rfl⟩;have s1:=S1.out;clear s0;dsimp only;go_wp2_with fail
 refine c1.mono ?_;rintro e w' ⟨rfl,rfl⟩;have s2:=S2.out;clear s1;dsimp only;go_wp2_with fail
 refine c2.mono ?_;rintro e w' ⟨rfl,rfl⟩;clear s2;dsimp only;go_upto_region 11 with fail
 have s3:=S3.out;go_upto_region 12 with fail
 have s4:=S4.out;clear s3;clear S1 S2 S3 S4;go_wp2
 go_returns
 rw [HE.out];exact ⟨rfl,rfl⟩
end
section
open Go Go.RowKit Go.Shelf
set_option maxHeartbeats 4000000 in
theorem search_any (w:World) (fid:Nat) (heg:Enters Tryz.prog fid) (caps:Array Value) (n j:Nat) (hn:n≤4294967295) (hj:j≤n) (W:World→Prop) (hW:W w)
  (hf:∀ i,i < n→∀ w1,W w1→Calls Tryz.prog fid (#[.int .i64 i]++caps) w1 fun e w'=>e=.returned (.bool (decide (j≤i)))∧W w') :
  Calls Tryz.prog 122 #[.int .i64 n,.func (.func fid) #[] caps] w fun e w'=>e=.returned (.int .i64 j)∧W w':=by
 go_enter Tryz.func122,Tryz.ntmps122
 go_wp2
 go_loopw [5,6] (fun s5 s6 wx=>∃ lo hi:Nat,s5=.int .i64 lo∧s6=.int .i64 hi∧lo≤j∧j≤hi∧hi≤n∧W wx) (fun s5 s6 _=>(intOf s6).toNat - (intOf s5).toNat)
 case atStart=>exact ⟨0,n,rfl,rfl,by omega,hj,by omega,hW⟩
 case round =>
  obtain ⟨lo,hi,rfl,rfl,h1,h2,h3,hw⟩:=hrel;by_cases hlt:lo < hi
  ·have hl1:lo≤4294967295:=by omega
   have hl2:hi≤4294967295:=by omega
   have hm:((lo:Int)+(hi:Int)) / 2=(((lo+hi) / 2:Nat):Int):=by omega
   obtain ⟨m,hme⟩:∃ m,m=(lo+hi) / 2:=⟨_,rfl⟩;have hm1:lo≤m:=by omega
   have hm2:m < hi:=by omega
   have hfm:Calls Tryz.prog fid (#[.int .i64 (((lo:Int)+(hi:Int)) / 2)]++caps) wr fun e w'=>e=.returned (.bool (decide (j≤m)))∧W w':=by
    rw [hm,← hme];exact hf m (by omega) wr hw
   have HM:Hid (((lo:Int)+(hi:Int)) / 2=(m:Int)):=hid (by rw [hm,hme]);have hee:∀ args w,(callFunc fid args).run Tryz.prog w=.ok (.enter fid args) w:=heg;clear hm hme hf;go_wp2_with fail
   refine hfm.mono ?_;rintro e w1 ⟨rfl,hw1⟩;clear hfm hw;by_cases hjm:j≤m
   ·have hd:decide (j≤m)=true:=decide_eq_true hjm;rw [hd];dsimp only;go_wp2_with fail
    go_roundw
    case rel =>
     refine ⟨lo,m,rfl,by rw [HM.out],by omega,by omega,by omega,hw1⟩
    case measure =>
     rw [HM.out];simp only [intOf];omega
   ·have hd:decide (j≤m)=false:=decide_eq_false hjm;rw [hd];dsimp only;go_wp2_with fail
    go_roundw
    case rel =>
     refine ⟨m+1,hi,by rw [HM.out];rfl,rfl,by omega,by omega,by omega,hw1⟩
    case measure =>
     rw [HM.out];simp only [intOf];omega
  ·have:lo=j:=by omega
   subst this;go_wp2
   go_ret
   exact ⟨rfl,hw⟩
end
section
open Go Go.RowKit Go.Shelf
theorem Rb.num {w:World} {p q off len:Nat} {D:Bs} {nr ro:Nat} (h:Rb w p q off len D nr ro) (j x:Nat) (hj:j≤nr) (hx:x < 4294967296) {r:Bs} (hD:D.drop (ro+4*j)=Lib.leBytes 4 x++r) :
  Calls Tryz.prog 101 #[.agg #[],.slice (some ⟨q,ro+4*j,none⟩) (D.length - (ro+4*j)) (D.length+5 - (ro+4*j))] w fun e w'=>e=.returned (.int .u32 x)∧Below w.heap.size w w':=by
 have hl:=h.len;have hs:=h.at' (ro+4*j) (D.length - (ro+4*j)) (D.length+5 - (ro+4*j)) (by omega) (by omega);have e:((D.drop (ro+4*j)).take (D.length - (ro+4*j)))=D.drop (ro+4*j):=List.take_of_length_le (by simp);rw [e] at hs;refine (uint32_any _ _ _ _ w hs (by omega)).mono ?_;rintro e w' ⟨rfl,hb⟩;refine ⟨?_,hb⟩;rw [hD,List.take_left' (leBytes_length 4 x),leNat_leBytes 4 x (by simpa using hx)]
theorem Rb.cut {w:World} {p q off len:Nat} {D:Bs} {nr ro:Nat} (_h:Rb w p q off len D nr ro) (lo:Nat) (hlo:lo≤D.length) (w':World) :
  (Instr.slice 29 (.slice (some ⟨q,0,none⟩) D.length (D.length+5)) (some (.int .i64 (lo:Int))) none none).run Tryz.prog w'=.ok (.slice (some ⟨q,lo,none⟩) (D.length - lo) (D.length+5 - lo)) w':=by
 rw [run_slice_lo (P:=Tryz.prog) 29 5 un29 sz5 .i64 _ _ _ lo (by omega) w',cutq _ _ _ (by omega)]
set_option maxHeartbeats 4000000 in
theorem restartOffset_any (w:World) (p q boff blen:Nat) (D:Bs) (nr ro:Nat) (h:Rb w p q boff blen D nr ro) (j x:Nat) (hj:j≤nr) (hx:x < 4294967296) {r:Bs} (hD:D.drop (ro+4*j)=Lib.leBytes 4 x++r) :
  Calls Tryz.prog 103 #[.pointer (some ⟨p,0,none⟩),.int .i64 j] w fun e w'=>e=.returned (.int .i64 x)∧Below w.heap.size w w':=by
 have hl:=h.len;have hm:=h.max;have hq3:=h.blk.cell (k:=3) rfl;have hq5:=h.blk.cell (k:=5) rfl;have hn:=fun k=>(h.drewN k).num j x hj hx hD
 have hs:∀ w',(Instr.slice 29 (.slice (some ⟨q,0,none⟩) D.length (D.length+5)) (some (.int .i64 ((ro:Int)+4*(j:Int)))) none none).run Tryz.prog w'=.ok (.slice (some ⟨q,ro+4*j,none⟩) (D.length - (ro+4*j)) (D.length+5 - (ro+4*j))) w':=fun w'=>by
  rw [show (ro:Int)+4*(j:Int)=((ro+4*j:Nat):Int) by omega];exact h.cut (ro+4*j) (by omega) w'
 have hro:ro≤2147483647:=by omega
 have hw1:IntKind.i64.wrap (4*(j:Int))=4*(j:Int):=IntWalk.i64_in _ (by omega);have hw2:IntKind.i64.wrap ((ro:Int)+4*(j:Int))=(ro:Int)+4*(j:Int):=IntWalk.i64_in _ (by omega);have hjb:j≤2147483647:=by omega
 generalize ro+4*j=x1 at *;generalize D.length - x1=x2 at *;generalize D.length+5 - x1=x3 at *;generalize D.length+5=LC at *;generalize D.length=L at *;clear h hD hl hm;go_enter Tryz.func103,Tryz.ntmps103
 go_wp2_with fail
 refine wp_tail 13 (by kernel_rfl) ?_;simp only [List.take_succ_cons,List.take_zero,List.drop_succ_cons,List.drop_zero];repeat still_step
 refine wpStill_nil ?_;go_wp2_with fail
 refine (hn _).mono ?_;rintro e w1 ⟨rfl,hb⟩;have HB:Below w.heap.size w w1:=(Below.drewN' w.heap.size w 1).trans hb;clear hn hb;dsimp only;go_wp2
 go_ret
 exact ⟨rfl,HB⟩
structure RKey (D:Bs) (ro a o:Nat) (kb:Bs) (v2 n1 n2:Nat):Prop where
 num:∃ r,D.drop (ro+4*a)=Lib.leBytes 4 o++r
 ob:o < 4294967296
 u1:Lib.uvarintDec (D.drop (o+1))=(kb.length,(n1:Int))
 u2:Lib.uvarintDec (D.drop (o+1+n1))=(v2,(n2:Int))
 kbv:(D.drop (o+1+n1+n2)).take kb.length=kb
 fit:o+1+n1+n2+kb.length≤D.length
structure SVars (w:World) (a1 a2 a3 a4:Nat) (p rs:Nat) (ka:Option Addr) (kn kc:Nat):Prop where
 v1:w.cell? ⟨a1,0,none⟩=some (.pointer (some ⟨p,0,none⟩))
 v2:w.cell? ⟨a2,0,none⟩=some (.int .i64 rs)
 v3:w.cell? ⟨a3,0,none⟩=some (.iface 192 (.agg #[]))
 v4:w.cell? ⟨a4,0,none⟩=some (.slice ka kn kc)
theorem na192 (w : World) : (nilAhead 401 192 (Value.agg #[]) "Compare").run Tryz.prog w = .ok (some false) w := by kernel_rfl
set_option maxHeartbeats 4000000 in
theorem sclos_any (w:World) (p q boff blen:Nat) (D:Bs) (nr ro:Nat) (h:Rb w p q boff blen D nr ro) (a1 a2 a3 a4 rs:Nat) (ka:Option Addr) (kn kc:Nat) (key:Bs) (hv:SVars w a1 a2 a3 a4 p rs ka kn kc) (hk:Sl w ka kn kc key)
  (i o v2 n1 n2:Nat) (kb:Bs) (hi:rs+i≤nr) (hr:RKey D ro (rs+i) o kb v2 n1 n2) :
  Calls Tryz.prog 125 #[.int .i64 i,.pointer (some ⟨a1,0,none⟩),.pointer (some ⟨a2,0,none⟩),.pointer (some ⟨a3,0,none⟩),.pointer (some ⟨a4,0,none⟩)] w fun e w'=>e=.returned (.bool (decide (0 < Lib.compareBytes kb key)))∧Below w.heap.size w w':=by
 have hl:=h.len;have hm:=h.max;have hq3:=h.blk.cell (k:=3) rfl;have hq5:=h.blk.cell (k:=5) rfl;obtain ⟨hv1,hv2,hv3,hv4⟩:=hv;obtain ⟨⟨r,hD⟩,hob,hu1,hu2,hkb,hfit⟩:=hr;have hn:=fun k=>(h.drewN k).num (rs+i) o hi hob hD
 have hs:∀ w',(Instr.slice 29 (.slice (some ⟨q,0,none⟩) D.length (D.length+5)) (some (.int .i64 ((ro:Int)+4*((rs:Int)+(i:Int))))) none none).run Tryz.prog w'=.ok (.slice (some ⟨q,ro+4*(rs+i),none⟩) (D.length - (ro+4*(rs+i))) (D.length+5 - (ro+4*(rs+i)))) w':=fun w'=>by
  rw [show (ro:Int)+4*((rs:Int)+(i:Int))=((ro+4*(rs+i):Nat):Int) by omega];exact h.cut (ro+4*(rs+i)) (by omega) w'
 have hro:ro≤2147483647:=by omega
 have hrs:rs≤2147483647:=by omega
 have hib:i≤2147483647:=by omega
 have hw0:IntKind.i64.wrap ((rs:Int)+(i:Int))=(rs:Int)+(i:Int):=IntWalk.i64_in _ (by omega);have hw1:IntKind.i64.wrap (4*((rs:Int)+(i:Int)))=4*((rs:Int)+(i:Int)):=IntWalk.i64_in _ (by omega);have hw2:IntKind.i64.wrap ((ro:Int)+4*((rs:Int)+(i:Int)))=(ro:Int)+4*((rs:Int)+(i:Int)):=IntWalk.i64_in _ (by omega);have H:=hid h;have HK:=hid hk;generalize ro+4*(rs+i)=x1 at *;generalize D.length - x1=x2 at *
 generalize D.length+5 - x1=x3 at *;clear h hk hD hl;go_enter Tryz.func125,Tryz.ntmps125
 go_wp2_with fail
 refine wp_tail 15 (by kernel_rfl) ?_;simp only [List.take_succ_cons,List.take_zero,List.drop_succ_cons,List.drop_zero];repeat still_step
 refine wpStill_nil ?_;go_wp2_with fail
 refine (hn _).mono ?_;rintro e w1 ⟨rfl,hb⟩;have hb1:Below w.heap.size w w1:=(Below.drewN' w.heap.size w 1).trans hb;clear hn hb hs;dsimp only;have h1:Rb w1 p q boff blen D nr ro:=H.out.keep (hb1.block p H.out.blk.lt) (hb1.block q H.out.qlt);have hq3':=h1.blk.cell (k:=3) rfl;have hv1':=(World.cell?_of_block (a:=⟨a1,0,none⟩) (hb1.block a1 (lt_of_cell hv1))).trans hv1;have hv2':=(World.cell?_of_block (a:=⟨a2,0,none⟩) (hb1.block a2 (lt_of_cell hv2))).trans hv2
 have hv3':=(World.cell?_of_block (a:=⟨a3,0,none⟩) (hb1.block a3 (lt_of_cell hv3))).trans hv3;have hv4':=(World.cell?_of_block (a:=⟨a4,0,none⟩) (hb1.block a4 (lt_of_cell hv4))).trans hv4;have hk1:Sl w1 ka kn kc key:=HK.out.fr (S:=fun _=>False) (Fr.of_below hb1) (fun _ _ h=>h);have HB1:=hid hb1;clear hv1 hv2 hv3 hv4 hq3 hq5 hw0 hw1 hw2 H HK hb1;have sl:=fun (o:Nat) (ho:o≤D.length)=>(h1.at' o (D.length - o) (D.length+5 - o) (by omega) (by omega))
 have tk:∀ o,o≤D.length→(D.drop o).take (D.length - o)=D.drop o:=fun o ho=>List.take_of_length_le (by simp)
 have c1:=uvarint_any _ _ _ _ w1 (sl (o+1) (by omega));have c2:=uvarint_any _ _ _ _ w1 (sl (o+1+n1) (by omega));rw [tk _ (by omega),hu1] at c1;rw [tk _ (by omega),hu2] at c2;have hs1:∀ w',(Instr.slice 29 (.slice (some ⟨q,0,none⟩) D.length (D.length+5)) (some (.int .i64 ((o:Int)+1))) none none).run Tryz.prog w'=.ok (.slice (some ⟨q,o+1,none⟩) (D.length - (o+1)) (D.length+5 - (o+1))) w':=fun w'=>by
  rw [show (o:Int)+1=((o+1:Nat):Int) by omega];exact h1.cut (o+1) (by omega) w'
 have hs2:∀ w',(Instr.slice 29 (.slice (some ⟨q,0,none⟩) D.length (D.length+5)) (some (.int .i64 ((o:Int)+1+(n1:Int)))) none none).run Tryz.prog w'=.ok (.slice (some ⟨q,o+1+n1,none⟩) (D.length - (o+1+n1)) (D.length+5 - (o+1+n1))) w':=fun w'=>by
  rw [show (o:Int)+1+(n1:Int)=((o+1+n1:Nat):Int) by omega];exact h1.cut (o+1+n1) (by omega) w'
 have hs3:∀ w',(Instr.slice 29 (.slice (some ⟨q,0,none⟩) D.length (D.length+5)) (some (.int .i64 ((o:Int)+1+(n1:Int)+(n2:Int)))) (some (.int .i64 ((o:Int)+1+(n1:Int)+(n2:Int)+(kb.length:Int)))) none).run Tryz.prog w'=.ok (.slice (some ⟨q,o+1+n1+n2,none⟩) kb.length (D.length+5 - (o+1+n1+n2))) w':=fun w'=>by
  rw [show (o:Int)+1+(n1:Int)+(n2:Int)=((o+1+n1+n2:Nat):Int) by omega,show ((o+1+n1+n2:Nat):Int)+(kb.length:Int)=((o+1+n1+n2+kb.length:Nat):Int) by omega,run_slice_lohi (P:=Tryz.prog) 29 5 un29 sz5 .i64 .i64 _ _ _ (o+1+n1+n2) (o+1+n1+n2+kb.length) (by omega) (by omega) w',cutq _ _ _ (by omega),show o+1+n1+n2+kb.length - (o+1+n1+n2)=kb.length by omega]
 have hskb:=h1.at' (o+1+n1+n2) kb.length (D.length+5 - (o+1+n1+n2)) (by omega) (by omega);rw [hkb] at hskb;have hcmp:=fun k=>compare_any (w1.drewN k) _ ka _ _ kn kc kb key (hskb.drewN k) (hk1.drewN k)
 have hwa:IntKind.i64.wrap ((o:Int)+1)=(o:Int)+1:=IntWalk.i64_in _ (by omega);have hob1:o≤2147483647:=by omega
 have hn1b:n1≤2147483647:=by omega
 have hn2b:n2≤2147483647:=by omega
 have hkbb:kb.length≤2147483647:=by omega
 have hwb:IntKind.i64.wrap ((o:Int)+1+(n1:Int)+(n2:Int)+(kb.length:Int))=(o:Int)+1+(n1:Int)+(n2:Int)+(kb.length:Int):=IntWalk.i64_in _ (by omega);have hwc:IntKind.i64.wrap (kb.length:Int)=(kb.length:Int):=IntWalk.i64_in _ (by omega);clear sl tk hu1 hu2 hkb hskb hk1 hfit hob;have HS2:=hid hs2;have HS3:=hid hs3;have HCM:=hid hcmp;clear hs2 hs3 hcmp h1;generalize o+1+n1+n2=y3 at *;generalize D.length+5 - y3=y4 at *
 generalize D.length - (o+1+n1)=y1 at *;generalize D.length+5 - (o+1+n1)=y2 at *;generalize o+1+n1=y0 at *;generalize D.length - (o+1)=z1 at *;generalize D.length+5 - (o+1)=z2 at *;generalize hz0:o+1=z0 at *;clear hz0;generalize D.length+5=LC at *;generalize D.length=L at *;generalize hKL:kb.length=KL at *;have HKL:=hid hKL;clear hKL;go_wp2_with fail
 refine c1.mono ?_;rintro e w2 ⟨rfl,rfl⟩;have hs2:=HS2.out;clear hs1 c1;dsimp only;go_wp2_with fail
 refine c2.mono ?_;rintro e w2 ⟨rfl,rfl⟩;clear hs2 c2 hwa;have hs3:=HS3.out;dsimp only;have hna:=na192;go_wp2_with fail
 refine wp_tail 15 (by kernel_rfl) ?_;simp only [List.take_succ_cons,List.take_zero,List.drop_succ_cons,List.drop_zero];repeat still_step
 refine wpStill_nil ?_;have hcmp:=HCM.out;clear hs3;go_wp2_with fail
 refine (hcmp _).mono ?_;rintro e w2 ⟨rfl,hw2⟩;have hb2:Below w.heap.size w w2:=by
  rw [hw2];exact (HB1.out.trans (Below.drewN' _ _ _)).alloc HB1.out.size _
 have HB2:=hid hb2;clear hcmp HCM hw2 hb2;dsimp only;generalize hc:Lib.compareBytes kb key=c at *;go_wp2
 go_ret
 exact ⟨by rw [hc];rfl,HB2.out⟩
end
end Go.Proofs.YtmkdpjicgjhhjaaGreatDoor
