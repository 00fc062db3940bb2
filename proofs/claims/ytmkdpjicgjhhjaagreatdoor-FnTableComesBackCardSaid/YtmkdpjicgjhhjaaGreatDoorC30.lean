/- Part 30 of the proof of FnTableComesBack: contracts and lemmas, each under the conditions that it states. Texts: ISt, IOp, INext. -/
import Derived.Test.YtmkdpjicgjhhjaaGreatDoorC29
namespace Go.Proofs.YtmkdpjicgjhhjaaGreatDoor
open Go.Lib (hid)
set_option maxRecDepth 100000
set_option linter.all false
section
open Go Go.RowKit Go.Shelf
theorem metNext (w : World) (ii : Nat) (v : Value) (h : w.cell? ⟨ii, 0, none⟩ = some v) : (method 401 173 (.pointer (some ⟨ii, 0, none⟩)) "Next").run Tryz.prog w = .ok (60, v) w := by
 rw [show (method 401 173 (.pointer (some ⟨ii, 0, none⟩)) "Next").run Tryz.prog w = (do let r ← loadVar 153 ⟨ii, 0, none⟩; pure (60, r) : Sem (FuncId × Value)).run Tryz.prog w from by rfl];go_simp
theorem metFirst (w : World) (ii : Nat) (v : Value) (h : w.cell? ⟨ii, 0, none⟩ = some v) : (method 401 173 (.pointer (some ⟨ii, 0, none⟩)) "First").run Tryz.prog w = .ok (171, v) w := by
 rw [show (method 401 173 (.pointer (some ⟨ii, 0, none⟩)) "First").run Tryz.prog w = (do let r ← loadVar 153 ⟨ii, 0, none⟩; pure (171, r) : Sem (FuncId × Value)).run Tryz.prog w from by rfl];go_simp
theorem metLast (w : World) (ii : Nat) (v : Value) (h : w.cell? ⟨ii, 0, none⟩ = some v) : (method 401 173 (.pointer (some ⟨ii, 0, none⟩)) "Last").run Tryz.prog w = .ok (172, v) w := by
 rw [show (method 401 173 (.pointer (some ⟨ii, 0, none⟩)) "Last").run Tryz.prog w = (do let r ← loadVar 153 ⟨ii, 0, none⟩; pure (172, r) : Sem (FuncId × Value)).run Tryz.prog w from by rfl];go_simp
theorem metPrev (w : World) (ii : Nat) (v : Value) (h : w.cell? ⟨ii, 0, none⟩ = some v) : (method 401 173 (.pointer (some ⟨ii, 0, none⟩)) "Prev").run Tryz.prog w = .ok (173, v) w := by
 rw [show (method 401 173 (.pointer (some ⟨ii, 0, none⟩)) "Prev").run Tryz.prog w = (do let r ← loadVar 153 ⟨ii, 0, none⟩; pure (173, r) : Sem (FuncId × Value)).run Tryz.prog w from by rfl];go_simp
theorem metSeek (w : World) (ii : Nat) (v : Value) (h : w.cell? ⟨ii, 0, none⟩ = some v) : (method 401 173 (.pointer (some ⟨ii, 0, none⟩)) "Seek").run Tryz.prog w = .ok (77, v) w := by
 rw [show (method 401 173 (.pointer (some ⟨ii, 0, none⟩)) "Seek").run Tryz.prog w = (do let r ← loadVar 153 ⟨ii, 0, none⟩; pure (77, r) : Sem (FuncId × Value)).run Tryz.prog w from by rfl];go_simp
theorem metError (w : World) (ii : Nat) (v : Value) (h : w.cell? ⟨ii, 0, none⟩ = some v) : (method 401 173 (.pointer (some ⟨ii, 0, none⟩)) "Error").run Tryz.prog w = .ok (79, v) w := by
 rw [show (method 401 173 (.pointer (some ⟨ii, 0, none⟩)) "Error").run Tryz.prog w = (do let r ← loadVar 153 ⟨ii, 0, none⟩; pure (79, r) : Sem (FuncId × Value)).run Tryz.prog w from by rfl];go_simp
theorem metRelease (w : World) (ii : Nat) (v : Value) (h : w.cell? ⟨ii, 0, none⟩ = some v) : (method 401 173 (.pointer (some ⟨ii, 0, none⟩)) "Release").run Tryz.prog w = .ok (65, v) w := by
 rw [show (method 401 173 (.pointer (some ⟨ii, 0, none⟩)) "Release").run Tryz.prog w = (do let r ← loadVar 153 ⟨ii, 0, none⟩; pure (65, r) : Sem (FuncId × Value)).run Tryz.prog w from by rfl];go_simp
structure IR where
 lo:Nat
 hi:Nat
 dl:Nat→Nat
 dh:Nat→Nat
 fw:Bool
 sl:Option Addr
structure IP where
 base:Nat
 it:Nat
 ii:Nat
 gx:Nat
 r:Nat
 Bd:Nat
 C:RC
 T:TI
 R:IR
 c:IC
 d:DBk
 st:Nat
 M:World→Prop
 A:Nat→Prop
 H:Nat→Option Obj
def IP.core (P:IP):IP:={ P with A:=fun _=>False,H:=fun _=>none }
structure IX (P:IP) (w:World) (X:Nat→Prop) (ci:Nat) (dv:Value):Prop where
 rd:RD P.Bd w P.r P.C P.T
 bd:P.Bd≤P.base
 hit:Blk w P.it #[.nilIface,.bool false,.iface 173 (.pointer (some ⟨P.ii,0,none⟩)),.bool true,dv,.nilIface,.nilFunc,.bool false] 251
 hii:Blk w P.ii #[.pointer (some ⟨P.gx,0,none⟩),.pointer (some ⟨P.r,0,none⟩),.pointer P.R.sl,.bool true] 175
 bc:BC w P.gx X P.c P.d P.R.lo P.R.hi P.st ci
 de:P.d.es=ients P.T.ri P.T.B P.T.sp
 fw:P.d.fw=P.R.fw
 x2:P.c.x2=.iface 246 (.agg #[])
 tr:P.c.tr=P.r
 full:P.R.fw=false→BFull P.c P.d P.R.lo P.R.hi P.st
 xit:¬ X P.it
 xii:¬ X P.ii
 ne:P.it≠P.ii
 bit:P.base≤P.it
 bii:P.base≤P.ii
 xb:∀ k,X k→P.base≤k∧k < w.heap.size
 cp:P.c.p < P.base
 cq:P.d.q < P.base
 hi:P.R.hi≤P.T.B.length
 mem:P.M w
 memB:∀ w w',Below P.base w w'→P.M w→P.M w'
 ab:∀ k,P.A k→P.base≤k∧k < w.heap.size
 am:∀ k,P.A k→w.heap[k]?=P.H k
 xa:∀ k,X k→¬ P.A k
 ia:¬ P.A P.it
 iia:¬ P.A P.ii
def ID (P:IP) (w:World) (X:Nat→Prop) (i cj:Nat) (dv:Value):Prop :=
 ∃ g Y c d st b,dv=.iface 153 (.pointer (some ⟨g,0,none⟩))∧P.T.B[i]?=some b∧BC w g Y c d (P.R.dl i) (P.R.dh i) st cj∧d.es=b.es∧d.fw=P.R.fw∧c.tr=P.r∧c.x2=.iface 141 (.pointer (some ⟨c.p,0,none⟩)) ∧
  (∀ k,Y k∨k=c.p∨k=d.q→P.base≤k∧k < w.heap.size∧k≠P.it∧k≠P.ii∧¬ (X k∨P.A k))∧(d.fw=false→BFull c d (P.R.dl i) (P.R.dh i) st)
section
variable {P:IP} {w w':World} {X:Nat→Prop} {ci:Nat} {dv:Value}
theorem IX.low (h:IX P w X ci dv):P.base≤w.heap.size:=Nat.le_of_lt (Nat.lt_of_le_of_lt h.bit h.hit.lt)
theorem IX.core (h:IX P w X ci dv):IX P.core w X ci dv :=
 { rd:=h.rd,bd:=h.bd,hit:=h.hit,hii:=h.hii,bc:=h.bc,de:=h.de,fw:=h.fw,x2:=h.x2,tr:=h.tr,full:=h.full,xit:=h.xit,xii:=h.xii,ne:=h.ne,bit:=h.bit,bii:=h.bii,xb:=h.xb,cp:=h.cp,cq:=h.cq,hi:=h.hi,mem:=h.mem,memB:=h.memB,ab:=fun _ e=>False.elim e,am:=fun _ e=>False.elim e,xa:=fun _ _ e=>False.elim e,ia:=fun e=>False.elim e,iia:=fun e=>False.elim e }
theorem IX.keep (h:IX P w X ci dv) {Y:Nat→Prop} (hf:Fr Y w w') (hy:∀ k,k < w.heap.size→Y k→P.base≤k∧k≠P.it∧k≠P.ii∧¬ (X k∨P.A k)):IX P w' X ci dv:=by
 have hlow:=h.low;have hb:Below P.base w w':=hf.below hlow (fun k hk hY=>by have:=(hy k (by omega) hY).1;omega);exact { h with
  rd:=h.rd.below (hb.mono h.bd)
  hit:=h.hit.fr hf (fun e=>(hy _ h.hit.lt e).2.1 rfl)
  hii:=h.hii.fr hf (fun e=>(hy _ h.hii.lt e).2.2.1 rfl)
  bc:=h.bc.keep (fun k hk hk'=>hf.block k hk (fun e=>by
   rcases hk' with h' | h' | h'
   ·exact (hy k hk e).2.2.2 (.inl h')
   ·have:=(hy k hk e).1;have:=h.cp;omega
   ·have:=(hy k hk e).1;have:=h.cq;omega))
  xb:=fun k hk=>⟨(h.xb k hk).1,Nat.lt_of_lt_of_le (h.xb k hk).2 hf.size⟩
  mem:=h.memB _ _ hb h.mem
  ab:=fun k hk=>⟨(h.ab k hk).1,Nat.lt_of_lt_of_le (h.ab k hk).2 hf.size⟩
  am:=fun k hk=>(hf.block k (h.ab k hk).2 (fun e=>(hy k (h.ab k hk).2 e).2.2.2 (.inr hk))).trans (h.am k hk) }
theorem IX.setDv (h:IX P w X ci dv) (v:Value):IX P (w.setCell ⟨P.it,4,none⟩ v) X ci v∧Below P.base w (w.setCell ⟨P.it,4,none⟩ v):=by
 have hf:Fr (fun k=>k=P.it) w (w.setCell ⟨P.it,4,none⟩ v):=(Fr.refl (fun k=>k=P.it) w).setC P.it 4 v rfl;have hb:Below P.base w (w.setCell ⟨P.it,4,none⟩ v):=hf.below h.low (fun k hk e=>by have:=h.bit;omega);refine ⟨{ h with
  rd:=h.rd.below (hb.mono h.bd)
  hit:=h.hit.set 4 v
  hii:=h.hii.fr hf (fun e=>h.ne e.symm)
  bc:=h.bc.keep (fun k hk hk'=>hf.block k hk (fun e=>by
   rcases hk' with h' | h' | h'
   ·rw [e] at h';exact h.xit h'
   ·have:=h.bit;have:=h.cp;omega
   ·have:=h.bit;have:=h.cq;omega))
  xb:=fun k hk=>⟨(h.xb k hk).1,by have:=(h.xb k hk).2;simpa [World.setCell] using this⟩
  mem:=h.memB _ _ hb h.mem
  ab:=fun k hk=>⟨(h.ab k hk).1,Nat.lt_of_lt_of_le (h.ab k hk).2 hf.size⟩
  am:=fun k hk=>(hf.block k (h.ab k hk).2 (fun e=>h.ia (e ▸ hk))).trans (h.am k hk) },hb⟩
theorem IX.move (h:IX P w X ci dv) {ci':Nat} (hb:BC w' P.gx (grow X w w') P.c P.d P.R.lo P.R.hi P.st ci') (hf:Fr X w w'):IX P w' (grow X w w') ci' dv∧Below P.base w w':=by
 have hlow:=h.low;have hbl:Below P.base w w':=hf.below hlow (fun k hk e=>by have:=(h.xb k e).1;omega);have hitl:=h.hit.lt;have hiil:=h.hii.lt;refine ⟨{ h with
  rd:=h.rd.below (hbl.mono h.bd)
  hit:=h.hit.fr hf h.xit
  hii:=h.hii.fr hf h.xii
  bc:=hb
  xit:=fun e=>e.elim h.xit (fun e=>by omega)
  xii:=fun e=>e.elim h.xii (fun e=>by omega)
  xb:=fun k hk=>by
   rcases hk with e | e
   ·exact ⟨(h.xb k e).1,Nat.lt_of_lt_of_le (h.xb k e).2 hf.size⟩
   ·exact ⟨by omega,e.2⟩
  mem:=h.memB _ _ hbl h.mem
  ab:=fun k hk=>⟨(h.ab k hk).1,Nat.lt_of_lt_of_le (h.ab k hk).2 hf.size⟩
  am:=fun k hk=>(hf.block k (h.ab k hk).2 (fun e=>h.xa k e hk)).trans (h.am k hk)
  xa:=fun k hk hA=>hk.elim (fun e=>h.xa k e hA) (fun e=>by have:=(h.ab k hA).2;omega) },hbl⟩
theorem ID.keep {i cj:Nat} (h:ID P w X i cj dv) {Y:Nat→Prop} (hf:Fr Y w w') (hy:∀ k,k < w.heap.size→Y k→k < P.base∨k=P.it∨k=P.ii∨X k):ID P w' X i cj dv:=by
 obtain ⟨g,Y',c,d,st,b,h1,h2,h3,h4,h5,h6,h7,h8,h9⟩:=h;refine ⟨g,Y',c,d,st,b,h1,h2,h3.keep (fun k hk hk'=>hf.block k hk (fun e=>?_)),h4,h5,h6,h7,fun k hk=>?_,h9⟩
 ·have:=h8 k hk';rcases hy k hk e with e | e | e | e
  ·omega
  ·exact this.2.2.1 e
  ·exact this.2.2.2.1 e
  ·exact this.2.2.2.2 (.inl e)
 ·have:=h8 k hk;exact ⟨this.1,Nat.lt_of_lt_of_le this.2.1 hf.size,this.2.2⟩
theorem released_any (h:IX P w X ci dv):Calls Tryz.prog 207 #[.pointer (some ⟨P.it,0,none⟩)] w fun e w'=>e=.returned (.bool false)∧w'=w:=by
 have h1:w.cell? ⟨P.it,1,none⟩=some (.bool false):=h.hit.cell (k:=1) rfl;clear h;go_enter Tryz.func207,Tryz.ntmps207
 go_wp2
 go_ret
 exact ⟨rfl,rfl⟩
theorem indexErr_any (h:IX P w X ci dv):Calls Tryz.prog 219 #[.pointer (some ⟨P.it,0,none⟩)] w fun e w'=>e=.returned (.tuple #[])∧w'=w:=by
 have h1:w.cell? ⟨P.it,2,none⟩=some (.iface 173 (.pointer (some ⟨P.ii,0,none⟩))):=h.hit.cell (k:=2) rfl;have h2:w.cell? ⟨P.ii,0,none⟩=some (.pointer (some ⟨P.gx,0,none⟩)):=h.hii.cell (k:=0) rfl;have hc:=h.bc.error;clear h;have hm:=metError w P.ii _ h2;go_enter Tryz.func219,Tryz.ntmps219
 go_wp2_with fail
 refine hc.mono ?_;rintro e w' ⟨rfl,rfl⟩;dsimp only;go_wp2_with fail
 go_end0
 exact ⟨rfl,rfl⟩
end
end
section
open Go Go.RowKit Go.Shelf
def IP.gets (P:IP):Prop:=∀ w X i b dv,IX P.core w X (i+1) dv→P.R.lo≤i→i < P.R.hi→P.T.B[i]?=some b→Calls Tryz.prog 227 #[.pointer (some ⟨P.ii,0,none⟩)] w (GetTo P.r b.es P.R.fw (P.R.dl i) (P.R.dh i) w)
section
variable {P:IP} {w w':World} {X:Nat→Prop} {ci:Nat} {dv:Value}
theorem dataErr_any {i cj:Nat} (h:IX P w X ci dv) (hd:ID P w X i cj dv):Calls Tryz.prog 222 #[.pointer (some ⟨P.it,0,none⟩)] w fun e w'=>e=.returned (.bool false)∧w'=w:=by
 have h4:w.cell? ⟨P.it,4,none⟩=some dv:=h.hit.cell (k:=4) rfl;obtain ⟨g,Y,c,d,st,b,rfl,_,h3,_⟩:=hd;have hc:=h3.error;clear h h3;go_enter Tryz.func222,Tryz.ntmps222
 go_wp2_with fail
 refine hc.mono ?_;rintro e w' ⟨rfl,rfl⟩;dsimp only;go_wp2
 go_ret
 exact ⟨rfl,rfl⟩
theorem clear_any (h:IX P w X ci dv) (hd:dv=.nilIface∨∃ i cj,ID P w X i cj dv):Calls Tryz.prog 220 #[.pointer (some ⟨P.it,0,none⟩)] w fun e w'=>e=.returned (.tuple #[])∧IX P w' X ci .nilIface∧Below P.base w w':=by
 have h4:w.cell? ⟨P.it,4,none⟩=some dv:=h.hit.cell (k:=4) rfl;have hf4:=h.hit.free 4;rcases hd with rfl | ⟨i,cj,g,Y,c,d,st,b,rfl,_,h3,_,_,_,hx2,h8,_⟩
 ·have H:=hid (h.setDv .nilIface);clear h;go_enter Tryz.func220,Tryz.ntmps220
  go_wp2_with fail
  go_end0
  exact ⟨rfl,H.out⟩
 ·have hc:=h3.release (.inr (.inr hx2));have H:=hid h;have H8:=hid h8;clear h h3 hx2 h8;go_enter Tryz.func220,Tryz.ntmps220
  go_wp2_with fail
  refine hc.mono ?_;rintro e w1 ⟨rfl,hf⟩;have hlow:=H.out.low;have hy:∀ k,k < w.heap.size→(Y k∨k=c.p)→P.base≤k∧k≠P.it∧k≠P.ii∧¬ (X k∨P.A k):=fun k hk hY=>by
   have:=H8.out k (hY.imp id .inl);exact ⟨this.1,this.2.2⟩
  have h1:=H.out.keep hf hy;have hb1:Below P.base w w1:=hf.below hlow (fun k hk hY=>by have:=(hy k (by omega) hY).1;omega);have h14:w1.cell? ⟨P.it,4,none⟩=some (.iface 153 (.pointer (some ⟨g,0,none⟩))):=h1.hit.cell (k:=4) rfl;have h1f:=h1.hit.free 4;have H1:=hid (show IX P (w1.setCell ⟨P.it,4,none⟩ .nilIface) X ci .nilIface∧Below P.base w (w1.setCell ⟨P.it,4,none⟩ .nilIface) from ⟨(h1.setDv .nilIface).1,hb1.trans (h1.setDv .nilIface).2⟩)
  clear hc hf hy h1 hb1 hf4 h4;dsimp only;go_wp2_with fail
  go_end0
  exact ⟨rfl,H1.out⟩
def IDv (P:IP) (w:World) (X:Nat→Prop) (dv:Value):Prop:=dv=.nilIface∨∃ i cj,ID P w X i cj dv
theorem IDv.move (hd:IDv P w X dv) (hf:Fr X w w'):IDv P w' (grow X w w') dv:=by
 rcases hd with e | ⟨i,cj,g,Y',c,d,st,b,h1,h2,h3,h4,h5,h6,h7,h8,h9⟩
 ·exact .inl e
 ·refine .inr ⟨i,cj,g,Y',c,d,st,b,h1,h2,h3.keep (fun k hk hk'=>hf.block k hk (fun e=>(h8 k hk').2.2.2.2 (.inl e))),h4,h5,h6,h7,fun k hk=>?_,h9⟩;have:=h8 k hk;exact ⟨this.1,Nat.lt_of_lt_of_le this.2.1 hf.size,this.2.2.1,this.2.2.2.1,fun e=>e.elim (fun e=>e.elim (fun e=>this.2.2.2.2 (.inl e)) (fun e=>by omega)) (fun e=>this.2.2.2.2 (.inr e))⟩
theorem setData_any (hg:P.gets) {i:Nat} (h:IX P w X (i+1) dv) (hd:IDv P w X dv) (h1:P.R.lo≤i) (h2:i < P.R.hi):Calls Tryz.prog 221 #[.pointer (some ⟨P.it,0,none⟩)] w fun e w'=>e=.returned (.tuple #[])∧∃ dv,IX P w' X (i+1) dv∧ID P w' X i 0 dv∧Below P.base w w':=by
 have hib:i < P.T.B.length:=Nat.lt_of_lt_of_le h2 h.hi;have h4:w.cell? ⟨P.it,4,none⟩=some dv:=h.hit.cell (k:=4) rfl;have h2':w.cell? ⟨P.it,2,none⟩=some (.iface 173 (.pointer (some ⟨P.ii,0,none⟩))):=h.hit.cell (k:=2) rfl;rcases hd with rfl | ⟨i',cj,g0,Y,c0,d0,st0,b0,rfl,_,h3,_,_,_,hx2,h8,_⟩
 ·have hc:=hg w X i P.T.B[i] _ h.core h1 h2 (List.getElem?_eq_getElem hib);have H0:=hid h;have HB0:=hid (Below.refl P.base w);clear h hg;go_enter Tryz.func221,Tryz.ntmps221
  go_wp2_with fail
  refine hc.mono ?_;rintro e w2 ⟨g,c,d,st,rfl,q1,q2,q3,q4,q5,q6,q7,q8,q8',q9,q10⟩;have hlow:=H0.out.low;have hk:=H0.out.keep (Y:=fun _=>False) (Fr.of_below q9) (fun _ _ h=>h.elim);have hb1:Below P.base w w2:=q9.mono hlow;have h14:w2.cell? ⟨P.it,4,none⟩=some .nilIface:=hk.hit.cell (k:=4) rfl;have h1f:=hk.hit.free 4;have hitl:=H0.out.hit.lt;have hiil:=H0.out.hii.lt;have hsz:=q9.size;have hdis:∀ k,(w.heap.size≤k∧k < w2.heap.size)∨k=c.p∨k=d.q→w.heap.size≤k∧k < w2.heap.size:=fun k hk'=>by
   rcases hk' with e | e | e
   ·exact e
   ·rw [e];exact ⟨q3,q4⟩
   ·rw [e];exact ⟨q5,q6⟩
  have hS:=hk.setDv (.iface 153 (.pointer (some ⟨g,0,none⟩)));have H1:Hid (∃ dv,IX P (w2.setCell ⟨P.it,4,none⟩ (.iface 153 (.pointer (some ⟨g,0,none⟩)))) X (i+1) dv∧ID P (w2.setCell ⟨P.it,4,none⟩ (.iface 153 (.pointer (some ⟨g,0,none⟩)))) X i 0 dv∧Below P.base w (w2.setCell ⟨P.it,4,none⟩ (.iface 153 (.pointer (some ⟨g,0,none⟩))))) :=
   hid ⟨_,hS.1,⟨g,_,c,d,st,_,rfl,List.getElem?_eq_getElem hib,q1.keep (fun k _ hk'=>Below.heap_setCell _ _ _ k (by
    have:=hdis k hk';simp only;omega)),q8,q8',q2,q7,fun k hk'=>by
    have h1:=hdis k hk';refine ⟨by omega,by simpa [World.setCell] using h1.2,by omega,by omega,fun e=>?_⟩;have:=e.elim (fun e=>(H0.out.xb k e).2) (fun e=>(H0.out.ab k e).2);omega,q10⟩,(HB0.out.trans hb1).trans hS.2⟩
  clear hc q1 q2 q3 q4 q5 q6 q7 q8 q8' q9 q10 hk hb1 hdis hS;dsimp only;go_wp2_with fail
  go_end0
  exact ⟨rfl,H1.out⟩
 ·have hr:=h3.release (.inr (.inr hx2));have H:=hid h;have H8:=hid h8;clear h h3 hx2 h8;go_enter Tryz.func221,Tryz.ntmps221
  go_wp2_with fail
  refine hr.mono ?_;rintro e w1 ⟨rfl,hf⟩;have hlow0:=H.out.low;have hy:∀ k,k < w.heap.size→(Y k∨k=c0.p)→P.base≤k∧k≠P.it∧k≠P.ii∧¬ (X k∨P.A k):=fun k hk hY=>by
   have:=H8.out k (hY.imp id .inl);exact ⟨this.1,this.2.2⟩
  have h1':=H.out.keep hf hy;have hb0:Below P.base w w1:=hf.below hlow0 (fun k hk hY=>by have:=(hy k (by omega) hY).1;omega);have h24:w1.cell? ⟨P.it,4,none⟩=some (.iface 153 (.pointer (some ⟨g0,0,none⟩))):=h1'.hit.cell (k:=4) rfl;have h22:w1.cell? ⟨P.it,2,none⟩=some (.iface 173 (.pointer (some ⟨P.ii,0,none⟩))):=h1'.hit.cell (k:=2) rfl;have hc:=hg w1 X i P.T.B[i] _ h1'.core h1 h2 (List.getElem?_eq_getElem hib)
  have H1':=hid h1';have HB1':=hid hb0;clear hr hf hy h1' hb0 h4 h2';dsimp only;go_wp2_with fail
  refine hc.mono ?_;rintro e w2 ⟨g,c,d,st,rfl,q1,q2,q3,q4,q5,q6,q7,q8,q8',q9,q10⟩;have hlow:=H1'.out.low;have hk:=H1'.out.keep (Y:=fun _=>False) (Fr.of_below q9) (fun _ _ h=>h.elim);have hb1:Below P.base w1 w2:=q9.mono hlow;have h14:w2.cell? ⟨P.it,4,none⟩=some (.iface 153 (.pointer (some ⟨g0,0,none⟩))):=hk.hit.cell (k:=4) rfl;have h1f:=hk.hit.free 4;have hitl:=H1'.out.hit.lt;have hiil:=H1'.out.hii.lt
  have hsz:=q9.size;have hdis:∀ k,(w1.heap.size≤k∧k < w2.heap.size)∨k=c.p∨k=d.q→w1.heap.size≤k∧k < w2.heap.size:=fun k hk'=>by
   rcases hk' with e | e | e
   ·exact e
   ·rw [e];exact ⟨q3,q4⟩
   ·rw [e];exact ⟨q5,q6⟩
  have hS:=hk.setDv (.iface 153 (.pointer (some ⟨g,0,none⟩)));have H1:Hid (∃ dv,IX P (w2.setCell ⟨P.it,4,none⟩ (.iface 153 (.pointer (some ⟨g,0,none⟩)))) X (i+1) dv∧ID P (w2.setCell ⟨P.it,4,none⟩ (.iface 153 (.pointer (some ⟨g,0,none⟩)))) X i 0 dv∧Below P.base w (w2.setCell ⟨P.it,4,none⟩ (.iface 153 (.pointer (some ⟨g,0,none⟩))))) :=
   hid ⟨_,hS.1,⟨g,_,c,d,st,_,rfl,List.getElem?_eq_getElem hib,q1.keep (fun k _ hk'=>Below.heap_setCell _ _ _ k (by
    have:=hdis k hk';simp only;omega)),q8,q8',q2,q7,fun k hk'=>by
    have h1:=hdis k hk';refine ⟨by omega,by simpa [World.setCell] using h1.2,by omega,by omega,fun e=>?_⟩;have:=e.elim (fun e=>(H1'.out.xb k e).2) (fun e=>(H1'.out.ab k e).2);omega,q10⟩,(HB1'.out.trans hb1).trans hS.2⟩
  clear hc q1 q2 q3 q4 q5 q6 q7 q8 q8' q9 q10 hk hb1 hdis hS;dsimp only;go_wp2_with fail
  go_end0
  exact ⟨rfl,H1.out⟩
theorem idxNext_any (h:IX P w X ci dv):Calls Tryz.prog 60 #[.pointer (some ⟨P.gx,0,none⟩)] w fun e w'=>e=.returned (.bool (decide (nxt P.R.lo P.R.hi ci≤P.R.hi)))∧IX P w' (grow X w w') (nxt P.R.lo P.R.hi ci) dv∧Below P.base w w':=by
 refine h.bc.next.mono ?_;rintro e w' ⟨h1,h2,h3⟩;exact ⟨h1,h.move h2 h3⟩
theorem idxFirst_any (h:IX P w X ci dv):Calls Tryz.prog 171 #[.pointer (some ⟨P.gx,0,none⟩)] w fun e w'=>e=.returned (.bool (decide (P.R.lo < P.R.hi)))∧IX P w' (grow X w w') (P.R.lo+1) dv∧Below P.base w w':=by
 refine h.bc.first.mono ?_;rintro e w' ⟨h1,h2,h3⟩;exact ⟨h1,h.move h2 h3⟩
end
def seg (P:IP) (k:Nat):List KV:=if P.R.lo≤k∧k < P.R.hi then (((P.T.B[k]?.map DB.es).getD []).take (P.R.dh k)).drop (P.R.dl k) else []
def vup (P:IP):Nat→List KV
 | 0=>[]
 | k+1=>vup P k++seg P k
def vis (P:IP):List KV:=vup P P.R.hi
theorem vup_lo (P:IP):∀ k,k≤P.R.lo→vup P k=[]
 | 0,_=>rfl
 | k+1,h=>by
  rw [vup,vup_lo P k (by omega)];unfold seg;rw [if_neg (by omega)];rfl
theorem vup_mono (P:IP) {i:Nat}:∀ {j},i≤j→(vup P i).length≤(vup P j).length
 | 0,h=>by rw [Nat.le_zero.1 h];exact Nat.le_refl _
 | j+1,h=>by
  rcases Nat.eq_or_lt_of_le h with e | e
  ·rw [e];exact Nat.le_refl _
  ·rw [vup,List.length_append];have:=vup_mono P (i:=i) (j:=j) (by omega);omega
theorem seg_len {P:IP} {w:World} {X:Nat→Prop} {i cj:Nat} {dv:Value} (h:ID P w X i cj dv) (h1:P.R.lo≤i) (h2:i < P.R.hi):(seg P i).length=P.R.dh i - P.R.dl i∧P.R.dl i≤P.R.dh i:=by
 obtain ⟨g,Y,c,d,st,b,_,hb,h3,h4,_⟩:=h;obtain ⟨_,_,_,_,_,_,_,_,_,hr,_⟩:=h3;have e1:=hr.lh;have e2:=hr.hm;rw [h4] at e2;unfold seg;rw [if_pos ⟨h1,h2⟩,hb];simp only [Option.map_some,Option.getD_some,List.length_drop,List.length_take];omega
theorem seg_get {P:IP} {i j:Nat} {b:DB} (hb:P.T.B[i]?=some b) (h1:P.R.lo≤i) (h2:i < P.R.hi) (hj1:P.R.dl i≤j) (hj2:j < P.R.dh i) (hm:P.R.dh i≤b.es.length):(vis P)[(vup P i).length+(j - P.R.dl i)]?=b.es[j]?:=by
 have hs:seg P i=(b.es.take (P.R.dh i)).drop (P.R.dl i):=by
  unfold seg;rw [if_pos ⟨h1,h2⟩,hb];rfl
 have hpre:∀ m,i < m→∃ r,vup P m=vup P i++(seg P i++r):=fun m hm=>by
  obtain ⟨dd,rfl⟩:∃ dd,m=i+1+dd:=⟨m - (i+1),by omega⟩;clear hm;induction dd with
  | zero=>exact ⟨[],by simp [vup]⟩
  | succ dd ih =>
   obtain ⟨r,hr⟩:=ih;exact ⟨r++seg P (i+1+dd),by rw [show i+1+(dd+1)=(i+1+dd)+1 by omega,vup,hr];simp⟩
 obtain ⟨r,hr⟩:=hpre P.R.hi h2;unfold vis;rw [hr,List.getElem?_append_right (by omega),Nat.add_sub_cancel_left,List.getElem?_append_left (by rw [hs];simp;omega),hs,List.getElem?_drop,List.getElem?_take_of_lt (by omega)];congr 1
 omega
def II (P:IP) (w:World) (cur:Nat):Prop :=
 ∃ X,(cur=0∧IX P w X 0 .nilIface)∨(cur=(vis P).length+1∧IX P w X (P.R.hi+1) .nilIface) ∨
  ∃ i j dv,P.R.lo≤i∧i < P.R.hi∧IX P w X (i+1) dv∧ID P w X i (j+1) dv∧P.R.dl i≤j∧j < P.R.dh i∧cur=(vup P i).length+(j - P.R.dl i)+1
def IGap (P:IP) (w:World) (q:Nat):Prop:=∃ X ci,IX P w X ci .nilIface∧ci≤P.R.hi+1∧q=(vup P (nxt P.R.lo P.R.hi ci - 1)).length+1
def IIn (P:IP) (w:World) (i q:Nat):Prop:=∃ X cj dv,P.R.lo≤i∧i < P.R.hi∧IX P w X (i+1) dv∧ID P w X i cj dv∧((cj=0∧q=(vup P i).length+1)∨∃ j,cj=j+1∧P.R.dl i≤j∧j < P.R.dh i∧q=(vup P i).length+(j+1 - P.R.dl i)+1)
end
section
open Go Go.RowKit Go.Shelf
theorem dataNext_any {P:IP} {w:World} {X:Nat→Prop} {ci i cj:Nat} {dv:Value} (h:IX P w X ci dv) (hd:ID P w X i cj dv):∃ g,dv=.iface 153 (.pointer (some ⟨g,0,none⟩)) ∧
  Calls Tryz.prog 60 #[.pointer (some ⟨g,0,none⟩)] w fun e w'=>e=.returned (.bool (decide (nxt (P.R.dl i) (P.R.dh i) cj≤P.R.dh i)))∧IX P w' X ci dv∧ID P w' X i (nxt (P.R.dl i) (P.R.dh i) cj) dv∧Below P.base w w':=by
 obtain ⟨g,Y,c,d,st,b,rfl,hb,h3,h4,h5,h6,h7,h8,h9⟩:=hd;refine ⟨g,rfl,h3.next.mono ?_⟩;rintro e w' ⟨q1,q2,q3⟩;have hy:∀ k,k < w.heap.size→Y k→P.base≤k∧k≠P.it∧k≠P.ii∧¬ (X k∨P.A k):=fun k hk hY=>by
  have:=h8 k (.inl hY);exact ⟨this.1,this.2.2⟩
 have hlow:=h.low;refine ⟨q1,h.keep q3 hy,⟨g,_,c,d,st,b,rfl,hb,q2,h4,h5,h6,h7,fun k hk=>?_,h9⟩,q3.below hlow (fun k hk hY=>by have:=(hy k (by omega) hY).1;omega)⟩;have hsz:=q3.size;rcases hk with (e | e) | e
 ·have:=h8 k (.inl e);exact ⟨this.1,by omega,this.2.2⟩
 ·have:=h.hit.lt;have:=h.hii.lt;exact ⟨by omega,e.2,by omega,by omega,fun hX=>by have:=hX.elim (fun e=>(h.xb k e).2) (fun e=>(h.ab k e).2);omega⟩
 ·have:=h8 k (.inr e);exact ⟨this.1,by omega,this.2.2⟩
set_option maxHeartbeats 8000000 in
theorem inext_any (P:IP) (hg:P.gets):∀ n w q,(∃ X ci,IX P w X ci .nilIface∧ci≤P.R.hi+1∧q=(vup P (nxt P.R.lo P.R.hi ci - 1)).length+1∧2*(P.R.hi+1 - nxt P.R.lo P.R.hi ci) < n)∨(∃ i,IIn P w i q∧2*(P.R.hi - i)≤n) →
  Calls Tryz.prog 213 #[.pointer (some ⟨P.it,0,none⟩)] w fun e w'=>e=.returned (.bool (decide (q≤(vis P).length)))∧II P w' q∧Below P.base w w'
 | 0,w,q,h=>by
  rcases h with ⟨_,_,_,_,_,h⟩ | ⟨i,⟨_,_,_,_,h1,_⟩,h2⟩
  ·omega
  ·omega
 | n+1,w,q,h=>by
  have ih:=inext_any P hg n;rcases h with ⟨X,ci,hx,hci1,hq,hn⟩ | ⟨i,⟨X,cj,dv,hi1,hi2,hx,hd,hcq⟩,hn⟩
  ·have h5:w.cell? ⟨P.it,5,none⟩=some .nilIface:=hx.hit.cell (k:=5) rfl;have h4:w.cell? ⟨P.it,4,none⟩=some .nilIface:=hx.hit.cell (k:=4) rfl;have hre:=released_any hx;have hlh:=hx.bc.lohi;have HX0:=hid hx;have HQ:=hid hq;have HB0:=hid (Below.refl P.base w);have HLO:Hid (P.R.lo≤nxt P.R.lo P.R.hi ci - 1):=hid (by have:=hx.bc.curOk;unfold nxt;split <;> omega);have HLE:Hid (nxt P.R.lo P.R.hi ci≤P.R.hi+1):=hid (by unfold nxt;split <;> omega)
   have HN:Hid (2*(P.R.hi+1 - nxt P.R.lo P.R.hi ci)≤n):=hid (by omega);clear hx hq hn hlh hci1;go_enter Tryz.func213,Tryz.ntmps213
   go_wp2_with fail
   refine hre.mono ?_;rintro e w' ⟨rfl,hw'⟩;rw [hw'];clear hre hw' w';dsimp only;go_upto_region 11 with fail
   clear h5 h4;have hm:=metNext w P.ii (.pointer (some ⟨P.gx,0,none⟩)) (HX0.out.hii.cell (k:=0) rfl);have hz2:w.cell? ⟨P.it,2,none⟩=some (.iface 173 (.pointer (some ⟨P.ii,0,none⟩))):=HX0.out.hit.cell (k:=2) rfl;have hz4:w.cell? ⟨P.it,4,none⟩=some .nilIface:=HX0.out.hit.cell (k:=4) rfl;have hnx:=idxNext_any HX0.out;by_cases hle:nxt P.R.lo P.R.hi ci≤P.R.hi
   ·rw [decide_eq_true hle] at hnx;go_wp2_with fail
    refine hnx.mono ?_;rintro e w6 ⟨rfl,h6,hb6⟩;have hci:nxt P.R.lo P.R.hi ci=(nxt P.R.lo P.R.hi ci - 1)+1:=by unfold nxt;split <;> omega
    have hlo6:P.R.lo≤nxt P.R.lo P.R.hi ci - 1:=HLO.out;rw [hci] at h6;have hsd:=setData_any hg h6 (.inl rfl) hlo6 (by omega);clear hnx h6 hm hz2 hz4;dsimp only;go_wp2_with fail
    refine hsd.mono ?_;rintro e w7 ⟨rfl,dv7,h7,h7',hb7⟩;have hrec:=ih w7 q (.inr ⟨_,⟨_,0,dv7,hlo6,by omega,h7,h7',.inl ⟨rfl,HQ.out⟩⟩,by have:=HN.out;omega⟩);have HB7:=hid ((HB0.out.trans hb6).trans hb7);clear hsd h7 h7' hb6 hb7;dsimp only;go_wp2_with fail
    refine hrec.mono ?_;rintro e w8 ⟨rfl,h8,hb8⟩;have HF:=hid (show II P w8 q∧Below P.base w w8 from ⟨h8,HB7.out.trans hb8⟩);clear hrec h8 hb8;dsimp only;go_wp2
    go_ret
    exact ⟨rfl,HF.out⟩
   ·rw [decide_eq_false hle] at hnx;go_wp2_with fail
    refine hnx.mono ?_;rintro e w6 ⟨rfl,h6,hb6⟩;have hci:nxt P.R.lo P.R.hi ci=P.R.hi+1:=by have:=HLE.out;omega
    rw [hci] at h6;have hqn:q=(vis P).length+1:=by rw [HQ.out,hci];rfl
    have hie:=indexErr_any h6;have HF:=hid (show II P w6 q∧Below P.base w w6 from ⟨⟨_,.inr (.inl ⟨hqn,h6⟩)⟩,HB0.out.trans hb6⟩);have HQN:=hid hqn;clear hnx h6 hb6 hm hz2 hz4 hci hqn;dsimp only;go_wp2_with fail
    refine hie.mono ?_;rintro e w7 ⟨rfl,rfl⟩;clear hie;dsimp only;go_wp2
    go_ret
    exact ⟨by rw [decide_eq_false (by have:=HQN.out;omega)];rfl,HF.out⟩
  ·obtain ⟨g,rfl,hdn⟩:=dataNext_any hx hd;have h5:w.cell? ⟨P.it,5,none⟩=some .nilIface:=hx.hit.cell (k:=5) rfl;have h4:w.cell? ⟨P.it,4,none⟩=some (.iface 153 (.pointer (some ⟨g,0,none⟩))):=hx.hit.cell (k:=4) rfl;have hre:=released_any hx;have hsl:=seg_len hd hi1 hi2;have hvs:(vup P (i+1)).length=(vup P i).length+(P.R.dh i - P.R.dl i):=by rw [vup,List.length_append,hsl.1]
   have hnx2:nxt P.R.lo P.R.hi (i+1)=i+2:=by unfold nxt;rw [if_neg (by omega)];omega
   have HQQ:Hid (nxt (P.R.dl i) (P.R.dh i) cj≤P.R.dh i→∃ j,nxt (P.R.dl i) (P.R.dh i) cj=j+1∧P.R.dl i≤j∧j < P.R.dh i∧q=(vup P i).length+(j - P.R.dl i)+1):=hid (by
    intro hle;rcases hcq with ⟨e1,e2⟩ | ⟨j,e1,e2,e3,e4⟩
    ·subst e1;unfold nxt at hle ⊢;rw [if_pos rfl] at hle ⊢;exact ⟨_,rfl,Nat.le_refl _,hle,by omega⟩
    ·subst e1;unfold nxt at hle ⊢;rw [if_neg (by omega)] at hle ⊢;exact ⟨j+1,by omega,by omega,by omega,by omega⟩)
   have HQG:Hid (¬ nxt (P.R.dl i) (P.R.dh i) cj≤P.R.dh i→q=(vup P (i+1)).length+1):=hid (by
    intro hle;rcases hcq with ⟨e1,e2⟩ | ⟨j,e1,e2,e3,e4⟩
    ·subst e1;unfold nxt at hle;rw [if_pos rfl] at hle;omega
    ·subst e1;unfold nxt at hle;rw [if_neg (by omega)] at hle;omega)
   have HSL:=hid (show (vup P (i+1)).length=(vup P i).length+(P.R.dh i - P.R.dl i)∧(vup P (i+1)).length≤(vis P).length from ⟨hvs,vup_mono P hi2⟩);have HX:=hid hx;clear hsl hvs hcq hd hx;by_cases hle:nxt (P.R.dl i) (P.R.dh i) cj≤P.R.dh i
   ·rw [decide_eq_true hle] at hdn;go_enter Tryz.func213,Tryz.ntmps213
    go_wp2_with fail
    refine hre.mono ?_;rintro e w' ⟨rfl,hw'⟩;rw [hw'];clear hre hw' w';dsimp only;go_wp2_with fail
    refine hdn.mono ?_;rintro e w1 ⟨rfl,h1,h1',hb1⟩;have h14:w1.cell? ⟨P.it,4,none⟩=some (.iface 153 (.pointer (some ⟨g,0,none⟩))):=h1.hit.cell (k:=4) rfl;obtain ⟨j,e1,e2,e3,e4⟩:=HQQ.out hle;rw [e1] at h1';have HF:=hid (show II P w1 q∧Below P.base w w1 from ⟨⟨X,.inr (.inr ⟨i,j,_,hi1,hi2,h1,h1',e2,e3,e4⟩)⟩,hb1⟩);have HQL:Hid (q≤(vis P).length):=hid (by have:=HSL.out;omega);clear hdn h1 h1' hb1 h4 h5 e1 e2 e3 e4
    dsimp only;go_wp2
    go_ret
    exact ⟨by rw [decide_eq_true HQL.out];rfl,HF.out⟩
   ·rw [decide_eq_false hle] at hdn;have HQ:Hid (q=(vup P (nxt P.R.lo P.R.hi (i+1) - 1)).length+1):=hid (by rw [hnx2];exact HQG.out hle);have HLO:Hid (P.R.lo≤nxt P.R.lo P.R.hi (i+1) - 1):=hid (by omega);have HLE:Hid (nxt P.R.lo P.R.hi (i+1)≤P.R.hi+1):=hid (by omega);have HN:Hid (2*(P.R.hi+1 - nxt P.R.lo P.R.hi (i+1))≤n):=hid (by omega);clear hnx2;go_enter Tryz.func213,Tryz.ntmps213
    go_wp2_with fail
    refine hre.mono ?_;rintro e w' ⟨rfl,hw'⟩;rw [hw'];clear hre hw' w';dsimp only;go_wp2_with fail
    refine hdn.mono ?_;rintro e w1 ⟨rfl,h1,h1',hb1⟩;have hde:=dataErr_any h1 h1';have hcl:=clear_any h1 (.inr ⟨_,_,h1'⟩);have h14:w1.cell? ⟨P.it,4,none⟩=some (.iface 153 (.pointer (some ⟨g,0,none⟩))):=h1.hit.cell (k:=4) rfl;have HB1:=hid hb1;clear hdn h1 h1' hb1 h4 h5;dsimp only;go_wp2_with fail
    refine hde.mono ?_;rintro e w' ⟨rfl,hw'⟩;rw [hw'];clear hde hw' w';dsimp only;go_wp2_with fail
    refine hcl.mono ?_;rintro e w2 ⟨rfl,h2,hb2⟩;have HX2:=hid h2;have HB2:=hid (HB1.out.trans hb2);clear hcl h2 hb2 h14;dsimp only;go_upto_region 11 with fail
    have hm:=metNext w2 P.ii (.pointer (some ⟨P.gx,0,none⟩)) (HX2.out.hii.cell (k:=0) rfl);have hz2:w2.cell? ⟨P.it,2,none⟩=some (.iface 173 (.pointer (some ⟨P.ii,0,none⟩))):=HX2.out.hit.cell (k:=2) rfl;have hz4:w2.cell? ⟨P.it,4,none⟩=some .nilIface:=HX2.out.hit.cell (k:=4) rfl;have hnx:=idxNext_any HX2.out;by_cases hle:nxt P.R.lo P.R.hi (i+1)≤P.R.hi
    ·rw [decide_eq_true hle] at hnx;go_wp2_with fail
     refine hnx.mono ?_;rintro e w6 ⟨rfl,h6,hb6⟩;have hci:nxt P.R.lo P.R.hi (i+1)=(nxt P.R.lo P.R.hi (i+1) - 1)+1:=by unfold nxt;split <;> omega
     have hlo6:P.R.lo≤nxt P.R.lo P.R.hi (i+1) - 1:=HLO.out;rw [hci] at h6;have hsd:=setData_any hg h6 (.inl rfl) hlo6 (by omega);clear hnx h6 hm hz2 hz4;dsimp only;go_wp2_with fail
     refine hsd.mono ?_;rintro e w7 ⟨rfl,dv7,h7,h7',hb7⟩;have hrec:=ih w7 q (.inr ⟨_,⟨_,0,dv7,hlo6,by omega,h7,h7',.inl ⟨rfl,HQ.out⟩⟩,by have:=HN.out;omega⟩);have HB7:=hid ((HB2.out.trans hb6).trans hb7);clear hsd h7 h7' hb6 hb7;dsimp only;go_wp2_with fail
     refine hrec.mono ?_;rintro e w8 ⟨rfl,h8,hb8⟩;have HF:=hid (show II P w8 q∧Below P.base w w8 from ⟨h8,HB7.out.trans hb8⟩);clear hrec h8 hb8;dsimp only;go_wp2
     go_ret
     exact ⟨rfl,HF.out⟩
    ·rw [decide_eq_false hle] at hnx;go_wp2_with fail
     refine hnx.mono ?_;rintro e w6 ⟨rfl,h6,hb6⟩;have hci:nxt P.R.lo P.R.hi (i+1)=P.R.hi+1:=by have:=HLE.out;omega
     rw [hci] at h6;have hqn:q=(vis P).length+1:=by rw [HQ.out,hci];rfl
     have hie:=indexErr_any h6;have HF:=hid (show II P w6 q∧Below P.base w w6 from ⟨⟨_,.inr (.inl ⟨hqn,h6⟩)⟩,HB2.out.trans hb6⟩);have HQN:=hid hqn;clear hnx h6 hb6 hm hz2 hz4 hci hqn;dsimp only;go_wp2_with fail
     refine hie.mono ?_;rintro e w7 ⟨rfl,rfl⟩;clear hie;dsimp only;go_wp2
     go_ret
     exact ⟨by rw [decide_eq_false (by have:=HQN.out;omega)];rfl,HF.out⟩
theorem II.next {P:IP} (hg:P.gets) {w:World} {cur:Nat} (h:II P w cur):Calls Tryz.prog 213 #[.pointer (some ⟨P.it,0,none⟩)] w fun e w'=>e=.returned (.bool (decide (min (cur+1) ((vis P).length+1)≤(vis P).length)))∧II P w' (min (cur+1) ((vis P).length+1))∧Below P.base w w':=by
 obtain ⟨X,⟨rfl,h⟩ | ⟨rfl,h⟩ | ⟨i,j,dv,h1,h2,h3,h4,h5,h6,rfl⟩⟩:=h
 ·have hl:=h.bc.lohi.1;have e:min (0+1) ((vis P).length+1)=1:=by omega
  rw [e];exact inext_any P hg _ w 1 (.inl ⟨X,0,h,by omega,by unfold nxt;rw [if_pos rfl,Nat.add_sub_cancel,vup_lo P _ (Nat.le_refl _)];rfl,Nat.lt_succ_self _⟩)
 ·have e:min ((vis P).length+1+1) ((vis P).length+1)=(vis P).length+1:=by omega
  rw [e];have e2:nxt P.R.lo P.R.hi (P.R.hi+1)=P.R.hi+1:=by unfold nxt;rw [if_neg (by omega)];omega
  exact inext_any P hg _ w _ (.inl ⟨X,_,h,Nat.le_refl _,by rw [e2];rfl,Nat.lt_succ_self _⟩)
 ·have hsl:=seg_len h4 h1 h2;have hvs:(vup P (i+1)).length=(vup P i).length+(P.R.dh i - P.R.dl i):=by rw [vup,List.length_append,hsl.1]
  have hm:=vup_mono P (i:=i+1) (j:=P.R.hi) h2;have hm':(vup P (i+1)).length≤(vis P).length:=hm;have e:min ((vup P i).length+(j - P.R.dl i)+1+1) ((vis P).length+1)=(vup P i).length+(j+1 - P.R.dl i)+1:=by omega
  rw [e];exact inext_any P hg _ w _ (.inr ⟨i,⟨X,_,dv,h1,h2,h3,h4,.inr ⟨j,rfl,h5,h6,rfl⟩⟩,Nat.le_refl _⟩)
end
end Go.Proofs.YtmkdpjicgjhhjaaGreatDoor
