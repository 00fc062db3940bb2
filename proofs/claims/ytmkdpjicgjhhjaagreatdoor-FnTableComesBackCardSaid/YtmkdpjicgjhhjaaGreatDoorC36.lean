/- Part 36 of the proof of FnTableComesBack: contracts and lemmas, each under the conditions that it states. Texts: RWr, ICp, IAns, IPa. -/
import Derived.Test.YtmkdpjicgjhhjaaGreatDoorC35
import Derived.Test.YtmkdpjicgjhhjaaGreatDoorC12
import Derived.Test.YtmkdpjicgjhhjaaGreatDoorC34
namespace Go.Proofs.YtmkdpjicgjhhjaaGreatDoor
open Go.Lib (hid)
set_option maxRecDepth 100000
set_option linter.all false
section
open Go Go.RowKit Go.Shelf
theorem pfind_any {Bd:Nat} {w:World} {r:Nat} {C:RC} {T:TI} (h:RD Bd w r C T) {ka:Option Addr} {kn kc:Nat} {tk:Bs} (hk:Key Bd w ka kn kc tk) (hkn:kn≤4294967295) (filtered:Bool) :
  Calls Tryz.prog 27 #[.pointer (some ⟨r,0,none⟩),.slice ka kn kc,.bool filtered,.pointer none] w (FindTo T tk filtered false w):=by
 have hf:=find_any h hk hkn filtered false;clear h hk;go_enter Tryz.func27,Tryz.ntmps27
 go_wp2_with fail
 refine hf.mono ?_;rintro e w' ⟨rk,rv,err,rfl,hb,hc⟩;have HC:=hid hc;clear hf hc;try dsimp only
 go_wp2
 go_ret3
 refine ⟨rk,rv,err,rfl,hb,?_⟩;rcases HC.out with ⟨ev,h1,h2,h3,h4⟩ | h1
 ·exact .inl ⟨ev,h1,h2,h3,fun _=>h4 trivial⟩
 ·exact .inr h1
def FindKeyTo (T:TI) (tk:Bs) (filtered:Bool) (w:World) (e:Ending) (w':World):Prop :=
 ∃ rk err,e=.returned (.tuple #[rk,err])∧Below w.heap.size w w' ∧
  ((∃ ev,T.l[sidx T.l tk]?=some ev∧err=.nilIface∧(∃ a n c,rk=.slice a n c∧Sl w' a n c ev.1)) ∨
   (∃ s,err=.iface 164 (.string s)∧(sidx T.l tk=T.l.length∨(filtered=true∧∀ ev,T.l[sidx T.l tk]?=some ev→ev.1≠tk))))
theorem pfindKey_any {Bd:Nat} {w:World} {r:Nat} {C:RC} {T:TI} (h:RD Bd w r C T) {ka:Option Addr} {kn kc:Nat} {tk:Bs} (hk:Key Bd w ka kn kc tk) (hkn:kn≤4294967295) (filtered:Bool) :
  Calls Tryz.prog 28 #[.pointer (some ⟨r,0,none⟩),.slice ka kn kc,.bool filtered,.pointer none] w (FindKeyTo T tk filtered w):=by
 have hf:=find_any h hk hkn filtered true;clear h hk;go_enter Tryz.func28,Tryz.ntmps28
 go_wp2_with fail
 refine hf.mono ?_;rintro e w' ⟨rk,rv,err,rfl,hb,hc⟩;clear hf;try dsimp only
 go_wp2
 go_ret2
 refine ⟨_,_,rfl,hb,?_⟩;rcases hc with ⟨ev,h1,h2,h3,_⟩ | h1
 ·exact .inl ⟨ev,h1,h2,h3⟩
 ·exact .inr h1
def GotTo (T:TI) (tk:Bs) (w:World) (e:Ending) (w':World):Prop :=
 ∃ rv err,e=.returned (.tuple #[rv,err])∧Below w.heap.size w w' ∧
  ((∃ ev,T.l[sidx T.l tk]?=some ev∧ev.1=tk∧err=.nilIface∧(∃ a n c,rv=.slice a n c∧Sl w' a n c ev.2)) ∨
   (∃ s,err=.iface 164 (.string s)∧∀ ev,T.l[sidx T.l tk]?=some ev→ev.1≠tk))
set_option maxHeartbeats 8000000 in
theorem pget_any {Bd:Nat} {w:World} {r:Nat} {C:RC} {T:TI} (h:RD Bd w r C T) {ka:Option Addr} {kn kc:Nat} {tk:Bs} (hk:Key Bd w ka kn kc tk) (hkn:kn≤4294967295) :
  Calls Tryz.prog 25 #[.pointer (some ⟨r,0,none⟩),.slice ka kn kc,.pointer none] w (GotTo T tk w):=by
 have hf:=find_any h hk hkn false false;have h3:w.cell? ⟨r,3,none⟩=some .nilIface:=h.c 3;have hbd:=h.bd;have H:=hid h;have HK:=hid hk;clear h hk;go_enter Tryz.func25,Tryz.ntmps25
 go_wp2_with fail
 refine hf.mono ?_;rintro e w1 ⟨rk,rv,err,rfl,hb,hc⟩;clear hf;try dsimp only
 have h1:=H.out.below (hb.mono hbd);have h15:w1.cell? ⟨r,6,none⟩=some (.iface 192 (.agg #[])):=h1.c 6;have hk1:=(HK.out.below (hb.mono hbd)).sl;clear h1;rcases hc with ⟨ev,g1,rfl,⟨a,n,c,rfl,g2⟩,g3⟩ | ⟨s,rfl,g1⟩
 ·obtain ⟨a',n',c',rfl,g4⟩:=g3 rfl;have hcmp:=compare_any w1 a ka n c kn kc ev.1 tk g2 hk1;have hb2:Below w.heap.size w (w1.alloc (.cells #[] 192)):=hb.alloc hb.size _;have s2:Sl (w1.alloc (.cells #[] 192)) a' n' c' ev.2:=g4.fr (S:=fun _=>False) (Fr.alloc (Fr.refl _ w1) _) (fun _ _ h=>h);have H2:=hid (show Below w.heap.size w (w1.alloc (.cells #[] 192))∧Sl (w1.alloc (.cells #[] 192)) a' n' c' ev.2 from ⟨hb2,s2⟩)
  clear g3 hb2 s2 g4 g2 hk1;by_cases hz:Lib.compareBytes ev.1 tk=0
  ·rw [hz] at hcmp;go_wp2_with fail
   refine hcmp.mono ?_;rintro e w' ⟨rfl,hw'⟩;rw [hw'];clear hw' w';try dsimp only
   go_wp2
   go_ret2
   exact ⟨_,_,rfl,H2.out.1,.inl ⟨ev,g1,cmp_eq0 hz,rfl,_,_,_,rfl,H2.out.2⟩⟩
  ·obtain ⟨z,hz'⟩:∃ z,z=Lib.compareBytes ev.1 tk:=⟨_,rfl⟩;rw [← hz'] at hcmp hz;have HZ:=hid hz';clear hz';go_wp2_with fail
   refine hcmp.mono ?_;rintro e w' ⟨rfl,hw'⟩;rw [hw'];clear hw' w';try dsimp only
   go_wp2
   go_ret2
   refine ⟨_,_,rfl,H2.out.1,.inr ⟨_,rfl,fun ev2 hev he=>?_⟩⟩;rw [g1] at hev;cases hev
   rw [he,cmp_self] at HZ;exact hz HZ.out
 ·go_wp2
  go_ret2
  refine ⟨_,_,rfl,hb,.inr ⟨s,rfl,fun ev hev he=>?_⟩⟩;rcases g1 with g1 | ⟨g1,_⟩
  ·rw [g1] at hev;simp at hev
  ·cases g1
end
section
open Go Go.RowKit Go.Shelf
theorem copied_any (w:World) (a:Option Addr) (n c:Nat) (l:Bs) (h:Sl w a n c l) (hn:n≤4294967295):Calls Tryz.prog 26 #[.slice a n c] w fun e w'=>∃ a' c',e=.returned (.slice a' n c')∧w'.ownsRow 0 5 1 (.slice a' n c') n (bv l)∧(∀ k,(Value.slice a' n c').ownBlock=some k→w.heap.size≤k)∧Below w.heap.size w w':=by
 obtain ⟨w1,hw1⟩:∃ w1,w1=w.alloc (.cells #[] 5):=⟨_,rfl⟩;have hs1:w1.heap.size=w.heap.size+1:=by rw [hw1];simp
 have hb1:Below w.heap.size w w1:=by rw [hw1];exact (Below.refl _ _).alloc (Nat.le_refl _) _
 have hown:w1.ownsRow 0 5 1 (.slice (some ⟨w.heap.size,0,none⟩) 0 0) 0 []:=by
  rw [hw1];exact World.ownsRow_lit w #[] 0 (Nat.zero_le _) (by unfold maxLen;omega) rfl
 have hl:Sl w1 a n c l:=h.fr (S:=fun _=>False) (Fr.of_below hb1) (fun _ _ h=>h);have HEND:Hid (∀ v' w',w'.ownsRow 0 5 1 v' (0+n) ([]++bv l)→w1.grownBy w' (Value.slice (some ⟨w.heap.size,0,none⟩) 0 0).ownBlock→Lies w1 (.slice (some ⟨w.heap.size,0,none⟩) 0 0) v'→∃ a' c',v'=.slice a' n c'∧w'.ownsRow 0 5 1 (.slice a' n c') n (bv l)∧(∀ k,(Value.slice a' n c').ownBlock=some k→w.heap.size≤k)∧Below w.heap.size w w'):=hid (fun v' w' h1 h2 h3=>by
  rw [Nat.zero_add,List.nil_append] at h1;obtain ⟨a',c',rfl,_⟩:=own_form h1;refine ⟨a',c',rfl,h1,fun k hk=>?_,hb1.grown h2 hb1.size (fun k hk=>?_)⟩
  ·rcases h3 with h3 | h3
   ·rw [hk] at h3;simp [Value.ownBlock] at h3;omega
   ·rw [hk] at h3;simp at h3;omega
  ·simp [Value.ownBlock] at hk;omega)
 have HOWN:=hid hown;have HL:=hid hl;have HL0:Hid (a=none→n=0∧c=0):=hid (fun e=>by have h1:=h.nil e;have h2:=h.cap;omega);clear h hown hl;go_enter Tryz.func26,Tryz.ntmps26
 go_wp2_with (at_builtin;(try rw [← hw1]);go_must (refine wpList_app rfl _ _ 29 rfl 5 (.int .u8 0) 1 1 un29 info5 rfl (by omega) (.slice (some ⟨w.heap.size,0,none⟩) 0 0) 0 [] rfl (by exact HOWN.out) a n c (bv l) rfl (by rw [bv_length,HL.out.len];omega) HL0.out (by exact HL.out.news) (bv_one _) (by unfold maxLen;omega) (by omega) ?_);go_must (intro v8 w8 hown8 hgrow8 hlies8);go_must (have HX:=hid (HEND.out v8 w8 hown8 hgrow8 hlies8));clear hown8 hgrow8 hlies8)
 go_ret
 obtain ⟨a',c',e1,h1⟩:=HX.out;exact ⟨a',c',by rw [← e1];rfl,h1⟩
end
section
open Go Go.RowKit Go.Shelf
def IP.grown (P:IP) (w w':World):IP:={ P with A:=grow P.A w w',H:=fun k=>w'.heap[k]? }
theorem vup_grown (P:IP) (w w':World):∀ k,vup (P.grown w w') k=vup P k
 | 0=>rfl
 | k+1=>by rw [vup,vup,vup_grown P w w' k];rfl
theorem vis_grown (P:IP) (w w':World):vis (P.grown w w')=vis P:=vup_grown P w w' _
theorem IX.turn {P:IP} {w w':World} {X:Nat→Prop} {ci:Nat} {dv:Value} (h:IX P w X ci dv) (hf:Fr P.A w w'):IX (P.grown w w') w' X ci dv:=by
 have hlow:=h.low;have hb:Below P.base w w':=hf.below hlow (fun k hk e=>by have:=(h.ab k e).1;omega);exact {
     rd:=h.rd.below (hb.mono h.bd),bd:=h.bd,hit:=h.hit.fr hf h.ia,hii:=h.hii.fr hf h.iia
     bc:=h.bc.keep (fun k hk hk'=>hf.block k hk (fun e=>by
      rcases hk' with h' | h' | h'
      ·exact h.xa k h' e
      ·have:=(h.ab k e).1;have:=h.cp;omega
      ·have:=(h.ab k e).1;have:=h.cq;omega))
     de:=h.de,fw:=h.fw,x2:=h.x2,tr:=h.tr,full:=h.full,xit:=h.xit,xii:=h.xii,ne:=h.ne,bit:=h.bit,bii:=h.bii
     xb:=fun k hk=>⟨(h.xb k hk).1,Nat.lt_of_lt_of_le (h.xb k hk).2 hf.size⟩
     cp:=h.cp,cq:=h.cq,hi:=h.hi,mem:=h.memB _ _ hb h.mem,memB:=h.memB
     ab:=fun k hk=>hk.elim (fun e=>⟨(h.ab k e).1,Nat.lt_of_lt_of_le (h.ab k e).2 hf.size⟩) (fun e=>⟨Nat.le_trans hlow e.1,e.2⟩)
     am:=fun k hk=>rfl
     xa:=fun k hk hA=>hA.elim (fun e=>h.xa k hk e) (fun e=>by have:=(h.xb k hk).2;omega)
     ia:=fun e=>e.elim h.ia (fun e=>by have h1:w.heap.size≤P.it:=e.1;have:=h.hit.lt;omega)
     iia:=fun e=>e.elim h.iia (fun e=>by have h1:w.heap.size≤P.ii:=e.1;have:=h.hii.lt;omega) }
theorem ID.turn {P:IP} {w w':World} {X:Nat→Prop} {i cj:Nat} {dv:Value} (h:ID P w X i cj dv) (hf:Fr P.A w w'):ID (P.grown w w') w' X i cj dv:=by
 obtain ⟨g,Y',c,d,st,b,h1,h2,h3,h4,h5,h6,h7,h8,h9⟩:=h;refine ⟨g,Y',c,d,st,b,h1,h2,h3.keep (fun k hk hk'=>hf.block k hk (fun e=>(h8 k hk').2.2.2.2 (.inr e))),h4,h5,h6,h7,fun k hk=>?_,h9⟩;have:=h8 k hk;refine ⟨this.1,Nat.lt_of_lt_of_le this.2.1 hf.size,this.2.2.1,this.2.2.2.1,fun e=>?_⟩;rcases e with e | e | e
 ·exact this.2.2.2.2 (.inl e)
 ·exact this.2.2.2.2 (.inr e)
 ·omega
theorem II.turn {P:IP} {w w':World} {cur:Nat} (h:II P w cur) (hf:Fr P.A w w'):II (P.grown w w') w' cur:=by
 obtain ⟨X,⟨rfl,h⟩ | ⟨rfl,h⟩ | ⟨i,j,dv,h1,h2,h3,h4,h5,h6,rfl⟩⟩:=h
 ·exact ⟨X,.inl ⟨rfl,h.turn hf⟩⟩
 ·exact ⟨X,.inr (.inl ⟨by rw [vis_grown],h.turn hf⟩)⟩
 ·exact ⟨X,.inr (.inr ⟨i,j,dv,h1,h2,h3.turn hf,h4.turn hf,h5,h6,by rw [vup_grown];rfl⟩)⟩
theorem II.am {P:IP} {w:World} {cur:Nat} (h:II P w cur):∀ k,P.A k→w.heap[k]?=P.H k:=by
 obtain ⟨X,ci,dv,hx,_⟩:=h.out;exact hx.am
theorem II.ab {P:IP} {w:World} {cur:Nat} (h:II P w cur):P.base≤w.heap.size∧∀ k,P.A k→P.base≤k∧k < w.heap.size:=by
 obtain ⟨X,ci,dv,hx,_⟩:=h.out;exact ⟨hx.low,hx.ab⟩
theorem results_cell {fn:Func} {a:Tmp} {t:TypeId} (h:fn.results=#[.cell a t]) {tmps:Array Value} {P:Program} {w w':World} {ad:Addr} {v:Value} (ht:tmps.getD a undef=.pointer (some ad)) (hr:(loadVar t ad).run P w=.ok v w'):(results fn tmps).run P w=.ok v w':=by
 have ht':tmps[a]?.getD undef=.pointer (some ad):=by rw [← ht,Array.getD_eq_getD_getElem?]
 simp [results,h,ht',asAddr,hr]
structure Pr (B:Nat) (w:World) (ka:Option Addr) (kc:Nat) (va:Option Addr) (vc:Nat) (ev:KV):Prop where
 k:w.ownsRow 0 5 1 (.slice ka ev.1.length kc) ev.1.length (bv ev.1)
 v:w.ownsRow 0 5 1 (.slice va ev.2.length vc) ev.2.length (bv ev.2)
 kb:∀ g,(Value.slice ka ev.1.length kc).ownBlock=some g→B≤g∧g < w.heap.size
 vb:∀ g,(Value.slice va ev.2.length vc).ownBlock=some g→B≤g∧g < w.heap.size
structure CC (w:World) (g:Nat) (x y:Value):Prop where
 c0:w.cell? ⟨g,0,none⟩=some x
 c1:w.cell? ⟨g,1,none⟩=some y
set_option maxHeartbeats 4000000 in
theorem pair_any {P:IP} {w:World} {cur:Nat} (h:II P w cur) (hc:1≤cur) (hc2:cur≤(vis P).length) (hle:∀ e∈vis P,e.1.length≤4294967295∧e.2.length≤4294967295) :
  Calls Tryz.prog 69 #[.iface 249 (.pointer (some ⟨P.it,0,none⟩))] w fun e w'=>∃ ev ka kc va vc,(vis P)[cur - 1]?=some ev∧e=.returned (.agg #[.slice ka ev.1.length kc,.slice va ev.2.length vc])∧Pr w.heap.size w' ka kc va vc ev∧Below w.heap.size w w':=by
 obtain ⟨w1,hw1⟩:∃ w1,w1=w.alloc (.cells #[.slice none 0 0,.slice none 0 0] 40):=⟨_,rfl⟩;have hs1:w1.heap.size=w.heap.size+1:=by rw [hw1];simp
 have hb1:Below w.heap.size w w1:=by rw [hw1];exact (Below.refl _ _).alloc (Nat.le_refl _) _
 have hB1:Blk w1 w.heap.size #[.slice none 0 0,.slice none 0 0] 40:=by rw [hw1];exact Blk.new _ _ _
 have h1:II (P.grown w w1) w1 cur:=h.turn (Fr.of_below hb1);obtain ⟨ev,a,n,c,g1,g2,hk⟩:=h1.key hc (by rw [vis_grown];exact hc2);rw [vis_grown] at g1;have hev:=hle ev (List.mem_of_getElem? g1);have hn:n=ev.1.length:=g2.len.symm;subst hn;have hcp:=copied_any w1 a ev.1.length c ev.1 g2 hev.1;have H1:=hid h1;have HB1:=hid hb1;have HBL:=hid hB1;have HS1:=hid hs1;have HG:=hid g1;have HEV:=hid hev;have HC:=hid (show 1≤cur∧cur≤(vis P).length from ⟨hc,hc2⟩)
 clear h h1 hb1 hB1 hs1 g1 g2 hev hc hc2 hle;go_enter Tryz.func69,Tryz.ntmps69
 go_wp2_with fail
 rw [← hw1];clear hw1;refine hk.mono ?_;rintro e w' ⟨rfl,hw'⟩;rw [hw'];clear hk hw' w';try dsimp only
 go_wp2_with fail
 refine hcp.mono ?_;rintro e w2 ⟨ka,kc,rfl,hok,hkb,hb2⟩;have h2:II ((P.grown w w1).grown w1 w2) w2 cur:=H1.out.turn (Fr.of_below hb2);obtain ⟨ev',va,vn,vc,g1,g2,hv⟩:=h2.value HC.out.1 (by rw [vis_grown,vis_grown];exact HC.out.2);rw [vis_grown,vis_grown] at g1;obtain rfl:ev'=ev:=Option.some.inj (g1.symm.trans HG.out);obtain rfl:vn=ev'.2.length:=g2.len.symm;have hcv:=copied_any w2 va ev'.2.length vc ev'.2 g2 HEV.out.2
 have HB2:=hid hb2;have HOK:=hid hok;have HKB:=hid hkb;have HBL2:Hid (Blk w2 w.heap.size #[Value.slice none 0 0,Value.slice none 0 0] 40):=hid ((hb2.block _ HBL.out.lt).trans HBL.out);clear hcp hok hkb hb2 h2 g1 g2;try dsimp only
 go_wp2_with fail
 refine hv.mono ?_;rintro e w' ⟨rfl,hw'⟩;rw [hw'];clear hv hw' w';try dsimp only
 go_wp2_with fail
 refine hcv.mono ?_;rintro e w3 ⟨va',vc',rfl,hov,hvb,hb3⟩;have hB3:Blk w3 w.heap.size #[Value.slice none 0 0,Value.slice none 0 0] 40:=(hb3.block _ HBL2.out.lt).trans HBL2.out;have q0:=hB3.cell (k:=0) rfl;have q1:=hB3.cell (k:=1) rfl;have f0:=hB3.free 0;have f1:=hB3.free 1;have hl3:=hB3.lt;have HEND:Hid (CC (((w3.setCell ⟨w.heap.size,0,none⟩ (.slice ka ev'.1.length kc)).setCell ⟨w.heap.size,1,none⟩ (.slice va' ev'.2.length vc'))) w.heap.size (.slice ka ev'.1.length kc) (.slice va' ev'.2.length vc')∧Pr w.heap.size ((w3.setCell ⟨w.heap.size,0,none⟩ (.slice ka ev'.1.length kc)).setCell ⟨w.heap.size,1,none⟩ (.slice va' ev'.2.length vc')) ka kc va' vc' ev'∧Below w.heap.size w ((w3.setCell ⟨w.heap.size,0,none⟩ (.slice ka ev'.1.length kc)).setCell ⟨w.heap.size,1,none⟩ (.slice va' ev'.2.length vc'))):=hid (by
  have hs:=HS1.out;have hs2:=HB2.out.size;have hs3:=hb3.size;have hfr:Fr (fun k=>k=w.heap.size) w3 ((w3.setCell ⟨w.heap.size,0,none⟩ (.slice ka ev'.1.length kc)).setCell ⟨w.heap.size,1,none⟩ (.slice va' ev'.2.length vc')):=Fr.setC (S:=fun k=>k=w.heap.size) (Fr.setC (S:=fun k=>k=w.heap.size) (Fr.refl _ w3) _ 0 _ rfl) _ 1 _ rfl;have hk3:w3.ownsRow 0 5 1 (.slice ka ev'.1.length kc) ev'.1.length (bv ev'.1):=own_fr (S:=fun _=>False) HOK.out (Fr.of_below hb3) (fun _ _ h=>h)
  have hB5:=(hB3.set 0 (.slice ka ev'.1.length kc)).set 1 (.slice va' ev'.2.length vc');refine ⟨⟨hB5.cell (k:=0) rfl,hB5.cell (k:=1) rfl⟩,⟨own_fr hk3 hfr (fun k hk e=>by have:=HKB.out k hk;omega),own_fr hov hfr (fun k hk e=>by have:=hvb k hk;omega),fun g hg=>⟨by have:=HKB.out g hg;omega,by have:=own_lt hk3 hg;simpa using this⟩,fun g hg=>⟨by have:=hvb g hg;omega,by have:=own_lt hov hg;simpa using this⟩⟩,?_⟩
  exact (HB1.out.trans ((HB2.out.mono (by omega)).trans (hb3.mono (by omega)))).trans (hfr.below (by omega) (fun k hk e=>by omega)))
 clear hcv hov hvb hb3 hB3;try dsimp only
 go_wp2
 have r0:((w3.setCell ⟨w.heap.size,0,none⟩ (.slice ka ev'.1.length kc)).setCell ⟨w.heap.size,1,none⟩ (.slice va' ev'.2.length vc')).cell? ⟨w.heap.size,0,none⟩=some (.slice ka ev'.1.length kc):=HEND.out.1.c0;have r1:((w3.setCell ⟨w.heap.size,0,none⟩ (.slice ka ev'.1.length kc)).setCell ⟨w.heap.size,1,none⟩ (.slice va' ev'.2.length vc')).cell? ⟨w.heap.size,1,none⟩=some (.slice va' ev'.2.length vc'):=HEND.out.1.c1
 generalize (w3.setCell ⟨w.heap.size,0,none⟩ (.slice ka ev'.1.length kc)).setCell ⟨w.heap.size,1,none⟩ (.slice va' ev'.2.length vc')=w4 at r0 r1 HEND ⊢;refine bodyPost_ret (v:=.agg #[.slice ka ev'.1.length kc,.slice va' ev'.2.length vc']) (results_cell rfl rfl ?_) rfl ?_
 ·go_simp
 ·exact ⟨ev',ka,kc,va',vc',HG.out,rfl,HEND.out.2⟩
end
section
open Go Go.RowKit Go.Shelf
theorem un22:Tryz.prog.underlying 22=some (.slice 40):=by kernel_rfl
theorem info40:(Tryz.prog.info? 40).map (fun i=>(i.zero,i.size,i.bytes))=some (some (.agg #[.slice none 0 0,.slice none 0 0]),2,48):=by kernel_rfl
def PrV (S:Nat→Prop) (w:World) (r:Value × Value) (ev:KV):Prop :=
 ∃ ka kc va vc,r.1=.slice ka ev.1.length kc∧r.2=.slice va ev.2.length vc∧w.ownsRow 0 5 1 r.1 ev.1.length (bv ev.1)∧w.ownsRow 0 5 1 r.2 ev.2.length (bv ev.2)∧∀ g,r.1.ownBlock=some g∨r.2.ownBlock=some g→S g
theorem own_same {w w':World} {e size n:Nat} {v:Value} {xs:List Value} (h:w.ownsRow 0 e size v n xs) (hk:∀ g,v.ownBlock=some g→w'.heap[g]?=w.heap[g]?):w'.ownsRow 0 e size v n xs:=by
 obtain ⟨h1,h⟩:=h;refine ⟨h1,?_⟩;rcases h with ⟨rfl,rfl⟩ | ⟨g,cap,cur,rfl,h0,hg,hn',hm,hs,ht⟩
 ·exact .inl ⟨rfl,rfl⟩
 ·exact .inr ⟨g,cap,cur,rfl,h0,(hk g rfl).trans hg,hn',hm,hs,ht⟩
theorem own_type {w:World} {e e' size size' n n':Nat} {v v':Value} {xs xs':List Value} (h:w.ownsRow 0 e size v n xs) (h':w.ownsRow 0 e' size' v' n' xs') (hne:e≠e') {g:Nat} (hg:v.ownBlock=some g):v'.ownBlock≠some g:=by
 intro hg';obtain ⟨_,h⟩:=h;obtain ⟨_,h'⟩:=h';rcases h with ⟨rfl,rfl⟩ | ⟨g1,cap,cur,rfl,h0,hh,_⟩
 ·cases hg
 ·rcases h' with ⟨rfl,rfl⟩ | ⟨g2,cap2,cur2,rfl,h02,hh2,_⟩
  ·cases hg'
  ·cases hg
   cases hg'
   rw [hh] at hh2;simp only [Option.some.injEq,Obj.cells.injEq] at hh2;exact hne hh2.2.1
theorem PrV.keep {S S':Nat→Prop} {w w':World} {r:Value × Value} {ev:KV} (h:PrV S w r ev) (hk:∀ g,r.1.ownBlock=some g∨r.2.ownBlock=some g→w'.heap[g]?=w.heap[g]?) (hS:∀ k,S k→S' k):PrV S' w' r ev:=by
 obtain ⟨ka,kc,va,vc,h1,h2,h3,h4,h5⟩:=h;exact ⟨ka,kc,va,vc,h1,h2,own_same h3 (fun g e=>hk g (.inl e)),own_same h4 (fun g e=>hk g (.inr e)),fun g hg=>hS _ (h5 g hg)⟩
structure PairsAt (S:Nat→Prop) (w:World) (v:Value) (l:List KV) (rs:List (Value × Value)):Prop where
 len:rs.length=l.length
 own:w.ownsRow 0 40 2 v l.length (rs.flatMap fun r=>[r.1,r.2])
 vb:∀ g,v.ownBlock=some g→S g
 at':∀ (i:Nat) (r:Value × Value) (ev:KV),rs[i]?=some r→l[i]?=some ev→PrV S w r ev
theorem PairsAt.nil (S:Nat→Prop) (w:World):PairsAt S w (.slice none 0 0) [] []:=⟨rfl,World.ownsRow_nil w 0 40 2,(fun g h=>by cases h),(fun i r ev h=>by simp at h)⟩
theorem PairsAt.keep {S S':Nat→Prop} {w w':World} {v:Value} {l:List KV} {rs:List (Value × Value)} (h:PairsAt S w v l rs) (hk:∀ k,S k→w'.heap[k]?=w.heap[k]?) (hS:∀ k,S k→S' k):PairsAt S' w' v l rs :=
 ⟨h.len,own_same h.own (fun g e=>hk g (h.vb g e)),fun g e=>hS g (h.vb g e),fun i r ev h1 h2=>(h.at' i r ev h1 h2).keep (fun g hg=>by
  obtain ⟨_,_,_,_,_,_,_,_,h5⟩:=h.at' i r ev h1 h2;exact hk g (h5 g hg)) hS⟩
theorem flat_len:∀ rs:List (Value × Value),(rs.flatMap fun r=>[r.1,r.2]).length=rs.length*2
 | []=>rfl
 | r :: rs=>by rw [List.flatMap_cons,List.length_append,flat_len rs,List.length_cons];simp;omega
theorem PairsAt.app {S S':Nat→Prop} {w w':World} {v v':Value} {l:List KV} {rs:List (Value × Value)} {r:Value × Value} {ev:KV} (h:PairsAt S w v l rs) (hr:PrV S w r ev) (hS:∀ k,S k→S' k) (hlt:∀ k,S k→k < w.heap.size)
  (hg:w.grownBy w' v.ownBlock) (hown:w'.ownsRow 0 40 2 v' (l.length+1) ((rs.flatMap fun r=>[r.1,r.2])++[r.1,r.2])) (hb:∀ g,v'.ownBlock=some g→S' g):PairsAt S' w' v' (l++[ev]) (rs++[r]):=by
 have key:∀ r ev,PrV S w r ev→PrV S' w' r ev:=fun r ev hr=>by
  refine hr.keep (fun g hg'=>?_) hS;obtain ⟨ka,kc,va,vc,h1,h2,h3,h4,h5⟩:=hr;refine hg.block g (hlt g (h5 g hg')) (fun e=>?_);rcases hg' with e' | e'
  ·exact own_type h3 h.own (by decide) e' e.symm
  ·exact own_type h4 h.own (by decide) e' e.symm
 refine ⟨by simp [h.len],by rw [List.length_append,List.flatMap_append];simpa using hown,hb,fun i r' ev' h1 h2=>?_⟩;by_cases hi:i < l.length
 ·rw [List.getElem?_append_left (by rw [h.len];exact hi)] at h1;rw [List.getElem?_append_left hi] at h2;exact key _ _ (h.at' i r' ev' h1 h2)
 ·have h3:=lt_of_some h2;rw [List.length_append,List.length_singleton] at h3;have:i=l.length:=by omega
  subst this;rw [List.getElem?_append_right (by rw [h.len];exact Nat.le_refl _),h.len] at h1;rw [List.getElem?_append_right (Nat.le_refl _)] at h2;simp at h1 h2;subst h1 h2;exact key _ _ hr
end
end Go.Proofs.YtmkdpjicgjhhjaaGreatDoor
