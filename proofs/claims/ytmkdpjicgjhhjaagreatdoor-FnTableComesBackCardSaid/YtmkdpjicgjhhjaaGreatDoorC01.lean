/- Part 1 of the proof of FnTableComesBack: contracts and lemmas, each under the conditions that it states. Texts: Base. -/
import Derived.Test.YtmkdpjicgjhhjaaGreatDoorProg
import Derived.WalkKit
import Derived.WalkSpells
import Derived.WalkLawsBesides
import Derived.Outline
import Derived.BigQuiet
import Derived.BigRegion
import Derived.Deep.QuietTactic
import Derived.Deep.RegionHeld3
import Derived.Deep.AppendLies
import Derived.Deep.OwnRows
import Derived.Laws.CopyRow
import Derived.Laws.Tables
import Derived.Lib.Hide
import Derived.Lib.Buffer
import Derived.Lib.UnsafeStr
import Derived.Defers
import Derived.Recover
import Derived.Lib.ByteType
import Derived.Shelf.Abstract
import Derived.IntWalk
import Derived.StillTailTactics
import Derived.OrdersHeld
namespace Go.Proofs.YtmkdpjicgjhhjaaGreatDoor
open Go.Lib (hid)
set_option maxRecDepth 100000
set_option linter.all false
section
open Go Go.RowKit
structure Fr (S:Nat→Prop) (w w':World):Prop where
 os:w'.os=w.os
 tape:w'.tape=w.tape
 output:w'.output=w.output
 size:w.heap.size≤w'.heap.size
 block:∀ k,k < w.heap.size→¬ S k→w'.heap[k]?=w.heap[k]?
namespace Fr
variable {S S':Nat→Prop} {w w1 w2:World}
theorem refl (S:Nat→Prop) (w:World):Fr S w w:=⟨rfl,rfl,rfl,Nat.le_refl _,fun _ _ _=>rfl⟩
theorem trans (h:Fr S w w1) (k:Fr S' w1 w2) (hs:∀ b,b < w.heap.size→S' b→S b):Fr S w w2 :=
 ⟨k.os.trans h.os,k.tape.trans h.tape,k.output.trans h.output,Nat.le_trans h.size k.size,fun b hb hn =>
  (k.block b (Nat.lt_of_lt_of_le hb h.size) (fun x=>hn (hs b hb x))).trans (h.block b hb hn)⟩
theorem mono (h:Fr S w w1) (hs:∀ b,b < w.heap.size→S b→S' b):Fr S' w w1 :=
 ⟨h.os,h.tape,h.output,h.size,fun b hb hn=>h.block b hb (fun x=>hn (hs b hb x))⟩
theorem drewN (h:Fr S w w1) (n:Nat):Fr S w (w1.drewN n):=⟨h.os,h.tape,h.output,h.size,h.block⟩
theorem drew (h:Fr S w w1):Fr S w w1.drew:=⟨h.os,h.tape,h.output,h.size,h.block⟩
theorem alloc (h:Fr S w w1) (o:Obj):Fr S w (w1.alloc o) :=
 ⟨h.os,h.tape,h.output,by simp only [World.size_alloc];have:=h.size;omega,fun b hb hn=>(Below.heap_alloc w1 o b (Nat.lt_of_lt_of_le hb h.size)).trans (h.block b hb hn)⟩
theorem setCell (h:Fr S w w1) {p:Addr} (hp:p.block < w.heap.size→S p.block) (u:Value):Fr S w (w1.setCell p u) :=
 ⟨h.os,h.tape,h.output,by simpa [World.setCell] using h.size,fun b hb hn =>
  (Below.heap_setCell w1 p u b (fun e=>hn (by subst e;exact hp hb))).trans (h.block b hb hn)⟩
theorem setC (h:Fr S w w1) (b o:Nat) (u:Value) (hp:S b):Fr S w (w1.setCell ⟨b,o,none⟩ u):=h.setCell (p:=⟨b,o,none⟩) (fun _=>hp) u
theorem setRow (h:Fr S w w1) {g:Nat} (hp:g < w.heap.size→S g) (cs:Array Value):Fr S w (w1.setRow g cs) :=
 ⟨h.os,h.tape,h.output,by simpa using h.size,fun b hb hn =>
  (setRow_other w1 g b cs (fun e=>hn (by subst e;exact hp hb))).trans (h.block b hb hn)⟩
theorem grown (h:Fr S w w1) {row:Option Nat} (hg:w1.grownBy w2 row) (hr:∀ k,row=some k→k < w.heap.size→S k):Fr S w w2 :=
 ⟨hg.os.trans h.os,hg.tape.trans h.tape,hg.output.trans h.output,Nat.le_trans h.size hg.size,fun b hb hn =>
  (hg.block b (Nat.lt_of_lt_of_le hb h.size) (fun e=>hn (hr b e.symm hb))).trans (h.block b hb hn)⟩
theorem below {B:Nat} (h:Fr S w w1) (hB:B≤w.heap.size) (hs:∀ k,k < B→¬ S k):Below B w w1 :=
 ⟨h.os,h.tape,h.output,h.size,fun k hk=>h.block k (Nat.lt_of_lt_of_le hk hB) (hs k hk)⟩
theorem of_below (h:Below w.heap.size w w1):Fr S w w1:=⟨h.os,h.tape,h.output,h.size,fun k hk _=>h.block k hk⟩
theorem cell (h:Fr S w w1) {b o:Nat} (hb:b < w.heap.size) (hn:¬ S b):w1.cell? ⟨b,o,none⟩=w.cell? ⟨b,o,none⟩ :=
 World.cell?_of_block (h.block b hb hn)
theorem frozen (h:Fr S w w1) {b o:Nat} (hb:b < w.heap.size) (hn:¬ S b):w1.frozen? ⟨b,o,none⟩=w.frozen? ⟨b,o,none⟩ :=
 World.frozen?_of_block (h.block b hb hn)
end Fr
theorem lt_of_cell {w:World} {b o:Nat} {v:Value} (h:w.cell? ⟨b,o,none⟩=some v):b < w.heap.size:=World.block_lt_of_cell? w _ h
theorem lt_of_heap {w:World} {b:Nat} {x:Obj} (h:w.heap[b]?=some x):b < w.heap.size:=(Array.getElem?_eq_some_iff.1 h).1
@[go_sem] theorem drewN_alloc (w:World) (k:Nat) (o:Obj):(w.drewN k).alloc o=(w.alloc o).drewN k:=rfl
@[go_sem] theorem drewN_setCell (w:World) (k:Nat) (a:Addr) (v:Value):(w.drewN k).setCell a v=(w.setCell a v).drewN k:=rfl
@[go_sem] theorem drewN_setRow (w:World) (k g:Nat) (c:Array Value):(w.drewN k).setRow g c=(w.setRow g c).drewN k:=rfl
@[go_sem] theorem drew_setRow (w:World) (g:Nat) (c:Array Value):w.drew.setRow g c=(w.setRow g c).drew:=rfl
@[go_sem] theorem cell?_setRow_ne (w:World) (g:Nat) (c:Array Value) (b o:Nat) (h:¬ b=g):(w.setRow g c).cell? ⟨b,o,none⟩=w.cell? ⟨b,o,none⟩:=cell_setRow_other w g c _ h
@[go_sem] theorem frozen?_setRow (w:World) (g:Nat) (c:Array Value) (b o:Nat):(w.setRow g c).frozen? ⟨b,o,none⟩=w.frozen? ⟨b,o,none⟩:=by
 by_cases e:b=g
 ·subst e;unfold World.frozen? World.setRow;simp only [Array.getElem?_modify,if_true];cases h:w.heap[b]? with
  | none=>simp
  | some x=>cases x <;> simp
 ·exact World.frozen?_of_block (setRow_other w g b c e)
def Blk (w:World) (b:Nat) (C:Array Value) (T:Nat):Prop:=w.heap[b]?=some (.cells C T (0,0))
namespace Blk
variable {S:Nat→Prop} {w w1:World} {b T:Nat} {C:Array Value}
theorem lt (h:Blk w b C T):b < w.heap.size:=lt_of_heap h
theorem cell (h:Blk w b C T) {k:Nat} {v:Value} (hk:C[k]?=some v):w.cell? ⟨b,k,none⟩=some v:=by
 unfold Blk at h;simp [World.cell?,h,hk]
theorem cell' (h:Blk w b C T) (k:Nat):w.cell? ⟨b,k,none⟩=C[k]?:=by
 unfold Blk at h;simp [World.cell?,h]
theorem free (h:Blk w b C T) (k:Nat):w.frozen? ⟨b,k,none⟩=false:=by
 unfold Blk at h;simp [World.frozen?,h]
theorem fr (h:Blk w b C T) (f:Fr S w w1) (hn:¬ S b):Blk w1 b C T:=(f.block b h.lt hn).trans h
theorem set (h:Blk w b C T) (k:Nat) (v:Value):Blk (w.setCell ⟨b,k,none⟩ v) b (C.setIfInBounds k v) T:=by
 unfold Blk at *;rw [setCell_eq_setRow w b k C T (0,0) v h];exact setRow_heap w b C _ T (0,0) h
theorem setRow (h:Blk w b C T) (C':Array Value):Blk (w.setRow b C') b C' T:=setRow_heap w b C C' T (0,0) h
theorem other (h:Blk w b C T) {p:Addr} (v:Value) (hp:b≠p.block):Blk (w.setCell p v) b C T:=(Below.heap_setCell w p v b hp).trans h
theorem alloc (h:Blk w b C T) (o:Obj):Blk (w.alloc o) b C T:=(Below.heap_alloc w o b h.lt).trans h
theorem drew (h:Blk w b C T):Blk w.drew b C T:=h
theorem drewN (h:Blk w b C T) (n:Nat):Blk (w.drewN n) b C T:=h
theorem new (w:World) (C:Array Value) (T:Nat):Blk (w.alloc (.cells C T)) w.heap.size C T:=heap_alloc_new w _
end Blk
abbrev bv (l:List UInt8):List Value:=Lib.byteCells l
structure Sl (w:World) (a:Option Addr) (n c:Nat) (l:List UInt8):Prop where
 len:l.length=n
 cap:n≤c
 max:c≤maxLen
 nil:a=none→c=0
 cell:∀ j (h:j < l.length),∃ b o,a=some ⟨b,o,none⟩∧w.cell? ⟨b,o+j,none⟩=some (.int .u8 (l[j]).toNat)
def cutA (a:Option Addr) (c lo:Nat):Option Addr:=if c=lo then a else a.map (·.add lo)
section
variable {P:Program}
theorem run_slice_lo (T E:Nat) (hu:P.underlying T=some (.slice E)) (hs:(P.info? E).map (·.size)=some 1) (k:IntKind) (a:Option Addr) (n c lo:Nat) (hlo:lo≤n) (w:World) :
  (Instr.slice T (.slice a n c) (some (.int k (lo:Int))) none none).run P w=.ok (.slice (cutA a c lo) (n - lo) (c - lo)) w:=by
 obtain ⟨i,hi,hsz⟩:=Option.map_eq_some_iff.1 hs;simp [Instr.slice,Instr.sliceBounds,Instr.sliceBound,asIntOf,run_underlying hu,sizeOf,typeInfo,hi,hsz,cutA,hlo]
theorem run_slice_hi (T E:Nat) (hu:P.underlying T=some (.slice E)) (hs:(P.info? E).map (·.size)=some 1) (k:IntKind) (a:Option Addr) (n c hi':Nat) (hlo:hi'≤c) (w:World) :
  (Instr.slice T (.slice a n c) none (some (.int k (hi':Int))) none).run P w=.ok (.slice a hi' c) w:=by
 obtain ⟨i,hi,hsz⟩:=Option.map_eq_some_iff.1 hs;have h3:a.map (fun x=>x.add 0)=a:=by cases a <;> simp [Addr.add]
 simp [Instr.slice,Instr.sliceBounds,Instr.sliceBound,asIntOf,run_underlying hu,sizeOf,typeInfo,hi,h3,hlo]
theorem run_slice_lohi (T E:Nat) (hu:P.underlying T=some (.slice E)) (hs:(P.info? E).map (·.size)=some 1) (k k':IntKind) (a:Option Addr) (n c lo hi':Nat) (hlo:lo≤hi') (hhi:hi'≤c) (w:World) :
  (Instr.slice T (.slice a n c) (some (.int k (lo:Int))) (some (.int k' (hi':Int))) none).run P w=.ok (.slice (cutA a c lo) (hi' - lo) (c - lo)) w:=by
 obtain ⟨i,hi,hsz⟩:=Option.map_eq_some_iff.1 hs;simp [Instr.slice,Instr.sliceBounds,Instr.sliceBound,asIntOf,run_underlying hu,sizeOf,typeInfo,hi,hsz,cutA,hlo,hhi]
theorem run_slice_zhi (T E:Nat) (hu:P.underlying T=some (.slice E)) (hs:(P.info? E).map (·.size)=some 1) (k k':IntKind) (a:Option Addr) (n c hi':Nat) (hhi:hi'≤c) (w:World) :
  (Instr.slice T (.slice a n c) (some (.int k 0)) (some (.int k' (hi':Int))) none).run P w=.ok (.slice a hi' c) w:=by
 have h:=run_slice_lohi T E hu hs k k' a n c 0 hi' (by omega) hhi w;have h3:a.map (fun x=>x.add 0)=a:=by cases a <;> simp [Addr.add]
 simpa [cutA,h3] using h
theorem run_slice_z (T E:Nat) (hu:P.underlying T=some (.slice E)) (hs:(P.info? E).map (·.size)=some 1) (k:IntKind) (a:Option Addr) (n c:Nat) (w:World) :
  (Instr.slice T (.slice a n c) (some (.int k 0)) none none).run P w=.ok (.slice a n c) w:=by
 have h:=run_slice_lo T E hu hs k a n c 0 (by omega) w;have h3:a.map (fun x=>x.add 0)=a:=by cases a <;> simp [Addr.add]
 simpa [cutA,h3] using h
end
theorem wp_tail {id:Nat} {Q:Exit→Act→World→Prop} {a:Act} {w:World} {l:List Oper} (n:Nat) (hB:Region.lexTailB .any l.toArray n=true)
  (h:wpStill Tryz.prog l.toArray (w.drewN 1) (fun a'=>wpList Tryz.prog l.toArray Q (l.drop n) a' (w.drewN 1)) (l.take n) a):(Code.region id l.toArray true).wp Tryz.prog Q a w :=
 wp_region_still_tail n (by kernel_rfl) hB h
theorem bv_length (l:List UInt8):(bv l).length=l.length:=by simp [bv,Lib.byteCells]
theorem bv_get (l:List UInt8) (j:Nat):(bv l)[j]?=(l[j]?).map fun b=>Value.int .u8 b.toNat:=by simp [bv,Lib.byteCells]
theorem bv_one (l:List UInt8):∀ v∈bv l,v.oneCell'=true:=by
 intro v hv;simp only [bv,Lib.byteCells,List.mem_map] at hv;obtain ⟨x,_,rfl⟩:=hv;rfl
def splice (Z:Array Value) (o:Nat) (cs:List Value):Array Value:=(Z.toList.take o++cs++Z.toList.drop (o+cs.length)).toArray
theorem splice_size {Z:Array Value} {o:Nat} {cs:List Value} (h:o+cs.length≤Z.size):(splice Z o cs).size=Z.size:=by
 simp [splice];omega
theorem splice_get {Z:Array Value} {o:Nat} {cs:List Value} (h:o+cs.length≤Z.size) (k:Nat) :
  (splice Z o cs)[k]?=if k < o then Z[k]? else if k < o+cs.length then cs[k - o]? else Z[k]?:=by
 have hl:(Z.toList.take o).length=o:=by simp;omega
 simp only [splice,List.getElem?_toArray];by_cases h1:k < o
 ·rw [if_pos h1,List.append_assoc,List.getElem?_append_left (by omega),List.getElem?_take_of_lt h1,Array.getElem?_toList]
 ·rw [if_neg h1];by_cases h2:k < o+cs.length
  ·rw [if_pos h2,List.getElem?_append_left (by simp [hl];omega),List.getElem?_append_right (by omega),hl]
  ·rw [if_neg h2,List.getElem?_append_right (by simp [hl];omega),List.getElem?_drop,← Array.getElem?_toList];congr 1
   simp [hl];omega
theorem splice_out {Z:Array Value} {o:Nat} {cs:List Value} (h:o+cs.length≤Z.size) {k:Nat} (hk:¬ (o≤k∧k < o+cs.length)):(splice Z o cs)[k]?=Z[k]?:=by
 rw [splice_get h];split
 ·rfl
 ·rw [if_neg (by omega)]
theorem splice_in {Z:Array Value} {o:Nat} {cs:List Value} (h:o+cs.length≤Z.size) {j:Nat} (hj:j < cs.length):(splice Z o cs)[o+j]?=cs[j]?:=by
 rw [splice_get h,if_neg (by omega),if_pos (by omega)];congr 1;omega
namespace Sl
variable {S:Nat→Prop} {w w1:World} {a:Option Addr} {n c b o:Nat} {l:List UInt8}
theorem fr (h:Sl w a n c l) (f:Fr S w w1) (hn:∀ p,a=some p→¬ S p.block):Sl w1 a n c l :=
 ⟨h.len,h.cap,h.max,h.nil,fun j hj=>by
  obtain ⟨b,o,rfl,hc⟩:=h.cell j hj;exact ⟨b,o,rfl,by rw [f.cell (lt_of_cell hc) (hn _ rfl)];exact hc⟩⟩
theorem fr' (h:Sl w a n c l) (hc:∀ b o,a=some ⟨b,o,none⟩→∀ j,j < n→w1.cell? ⟨b,o+j,none⟩=w.cell? ⟨b,o+j,none⟩):Sl w1 a n c l :=
 ⟨h.len,h.cap,h.max,h.nil,fun j hj=>by
  obtain ⟨b,o,rfl,hc'⟩:=h.cell j hj;exact ⟨b,o,rfl,by rw [hc b o rfl j (by have:=h.len;omega)];exact hc'⟩⟩
theorem cut (h:Sl w a n c l) {lo:Nat} (hl:lo≤n):Sl w (cutA a c lo) (n - lo) (c - lo) (l.drop lo):=by
 have hlen:=h.len;have hcap:=h.cap;refine ⟨by simp [hlen],by omega,by have:=h.max;omega,fun hnil=>?_,fun j hj=>?_⟩
 ·unfold cutA at hnil;by_cases e:c=lo
  ·omega
  ·rw [if_neg e] at hnil;have:a=none:=by cases a <;> simp_all
   have:=h.nil this;omega
 ·simp at hj;obtain ⟨b,o,rfl,hc⟩:=h.cell (lo+j) (by omega);refine ⟨b,o+lo,?_,?_⟩
  ·rw [cutA,if_neg (by omega)];by_cases e:lo=0
   ·subst e;simp [Addr.add]
   ·simp [Addr.add,e]
  ·rw [List.getElem_drop,show o+lo+j=o+(lo+j) by omega];exact hc
theorem take (h:Sl w a n c l) {hi:Nat} (hl:hi≤n):Sl w a hi c (l.take hi):=by
 have hlen:=h.len;have hcap:=h.cap;refine ⟨by simp;omega,by omega,h.max,h.nil,fun j hj=>?_⟩;simp at hj;obtain ⟨b,o,rfl,hc⟩:=h.cell j (by omega);exact ⟨b,o,rfl,by rw [List.getElem_take];exact hc⟩
theorem nil' (w:World):Sl w none 0 0 []:=⟨rfl,by omega,by unfold maxLen;omega,fun _=>rfl,fun j hj=>by simp at hj⟩
theorem of_eq (h:Sl w a n c l) {l':List UInt8} (e:l=l'):Sl w a n c l':=e ▸ h
theorem form (h:Sl w a n c l) (hn:0 < n):∃ b o,a=some ⟨b,o,none⟩:=by
 obtain ⟨b,o,e,_⟩:=h.cell 0 (by have:=h.len;omega);exact ⟨b,o,e⟩
theorem cellAt (h:Sl w (some ⟨b,o,none⟩) n c l) {j:Nat} (hj:j < l.length):w.cell? ⟨b,o+j,none⟩=some (.int .u8 (l[j]).toNat):=by
 obtain ⟨b',o',e,hc⟩:=h.cell j hj;simp at e;obtain ⟨rfl,rfl⟩:=e;exact hc
theorem mk' (hlen:l.length=n) (hcap:n≤c) (hmax:c≤maxLen) (hc:∀ j (h:j < l.length),w.cell? ⟨b,o+j,none⟩=some (.int .u8 (l[j]).toNat)):Sl w (some ⟨b,o,none⟩) n c l :=
 ⟨hlen,hcap,hmax,(fun h=>by cases h),fun j h=>⟨b,o,rfl,hc j h⟩⟩
end Sl
theorem run_copy_sl {w:World} (dT sT ty E:Nat) (hu:Tryz.prog.underlying dT=some (.slice E)) (hs:(Tryz.prog.info? E).map (·.size)=some 1) {g od dLen dCap:Nat} {Z:Array Value} {T:Nat} (hg:Blk w g Z T)
  {a:Option Addr} {n c:Nat} {l:List UInt8} (h:Sl w a n c l) (hn:n≤dLen) (hfit:od+n≤Z.size) :
  (Builtin.copy_ #[dT,sT] ty #[.slice (some ⟨g,od,none⟩) dLen dCap,.slice a n c]).run Tryz.prog w=.ok (.int .i64 n) (w.setRow g (splice Z od (bv l))):=by
 have hlen:=h.len;cases a with
 | none =>
  have hc:=h.nil rfl;have:=h.cap;obtain rfl:c=0:=hc;obtain rfl:n=0:=by omega
  have:l=[]:=List.length_eq_zero_iff.1 hlen;subst this;rw [run_copy_nil Tryz.prog w dT sT ty E _ _ _ hu (by rw [hs];rfl)];have:splice Z od (bv [])=Z:=by simp [splice,bv,Lib.byteCells]
  rw [this,setRow_self w g Z T (0,0) hg];simp [goInt]
 | some p =>
  have:=run_copy_row (P:=Tryz.prog) w dT sT ty E g od dLen dCap p n c Z T (bv l) hu hs hg (by rw [bv_length,hlen];exact (Nat.min_eq_left hn).symm) (fun j v hj=>by
   rw [bv_get] at hj;obtain ⟨x,hx,rfl⟩:=Option.map_eq_some_iff.1 hj;obtain ⟨hlt,rfl⟩:=List.getElem?_eq_some_iff.1 hx;obtain ⟨b,o,e,hc⟩:=h.cell j hlt;obtain rfl:=Option.some.inj e;have ea:(⟨b,o,none⟩:Addr).add j=⟨b,o+j,none⟩:=by
    by_cases e:j=0
    ·subst e;simp [Addr.add]
    ·simp [Addr.add,e]
   rw [ea];exact hc) (by rw [bv_length,hlen];exact hfit) (bv_one l)
  rw [this];simp only [goInt,splice,bv_length,hlen]
theorem run_copy_zero (w:World) (dT sT ty E:Nat) (hu:Tryz.prog.underlying dT=some (.slice E)) (hs:(Tryz.prog.info? E).map (·.size)=some 1) (d a:Option Addr) (dl dc c:Nat) :
  (Builtin.copy_ #[dT,sT] ty #[.slice d dl dc,.slice a 0 c]).run Tryz.prog w=.ok (.int .i64 0) w:=by
 obtain ⟨i,hi,hsz⟩:=Option.map_eq_some_iff.1 hs;cases d <;> cases a <;> simp [Builtin.copy_,run_underlying hu,Builtin.lenOf,Builtin.firstCells,sizeOf,typeInfo,hi,storeCells,loadCells,loadCellsFrom,goInt]
theorem cutA_some {b o c lo:Nat} (h:lo < c):cutA (some ⟨b,o,none⟩) c lo=some ⟨b,o+lo,none⟩:=by
 rw [cutA,if_neg (by omega)];by_cases e:lo=0
 ·subst e;simp [Addr.add]
 ·simp [Addr.add,e]
end
end Go.Proofs.YtmkdpjicgjhhjaaGreatDoor
