/- Part 3 of the proof of FnTableComesBack: contracts and lemmas, each under the conditions that it states. Texts: Fmt, Vint, Buf. -/
import Derived.Lib.Varint
import Derived.Lib.VarintDec
import Derived.Lib.Endian
import Derived.Test.YtmkdpjicgjhhjaaGreatDoorC01
import Derived.Test.YtmkdpjicgjhhjaaGreatDoorC02
namespace Go.Proofs.YtmkdpjicgjhhjaaGreatDoor
open Go.Lib (hid)
set_option maxRecDepth 100000
set_option linter.all false
section
open Go
def cpl:List UInt8→List UInt8→Nat
 | x :: a,y :: b=>if x=y then cpl a b+1 else 0
 | _,_=>0
theorem cpl_le:∀ a b:List UInt8,cpl a b≤a.length∧cpl a b≤b.length
 | [],_=>by simp [cpl]
 | _ :: _,[]=>by simp [cpl]
 | x :: a,y :: b=>by
  have:=cpl_le a b;simp only [cpl];split <;> simp <;> omega
theorem cpl_take:∀ a b:List UInt8,a.take (cpl a b)=b.take (cpl a b)
 | [],b=>by simp [cpl]
 | x :: a,[]=>by simp [cpl]
 | x :: a,y :: b=>by
  simp only [cpl];split
  ·rename_i h;subst h;simp [cpl_take a b]
  ·simp
theorem cpl_eq:∀ (a b:List UInt8) (i:Nat),i≤a.length→i≤b.length→(∀ j,j < i→a[j]?=b[j]?)→(i < a.length→i < b.length→a[i]?≠b[i]?)→cpl a b=i
 | [],b,i,h1,_,_,_=>by simp at h1;simp [cpl,h1]
 | x :: a,[],i,_,h2,_,_=>by simp at h2;simp [cpl,h2]
 | x :: a,y :: b,0,_,_,_,h=>by
  have:=h (by simp) (by simp);simp at this;simp [cpl,this]
 | x :: a,y :: b,i+1,h1,h2,h,h'=>by
  have h0:=h 0 (by omega);simp at h0;subst h0;have:=cpl_eq a b i (by simpa using h1) (by simpa using h2) (fun j hj=>by have:=h (j+1) (by omega);simpa using this) (fun ha hb=>by have:=h' (by simpa using ha) (by simpa using hb);simpa using this);simp [cpl,this]
theorem leBytes_length (k v:Nat):(Lib.leBytes k v).length=k:=by
 induction k generalizing v with
 | zero=>rfl
 | succ k ih=>simp [Lib.leBytes,ih]
theorem leNat_leBytes:∀ k v:Nat,v < 256 ^ k→Lib.leNat (Lib.leBytes k v)=v
 | 0,v,h=>by simp at h;simp [Lib.leBytes,Lib.leNat,h]
 | k+1,v,h=>by
  have h1:v / 256 < 256 ^ k:=by rw [Nat.pow_succ] at h;exact Nat.div_lt_of_lt_mul (by rw [Nat.mul_comm];exact h)
  simp only [Lib.leBytes,Lib.leNat,leNat_leBytes k _ h1];have:((v % 256).toUInt8).toNat=v % 256:=by simp
  omega
theorem uvarintFrom_uvarint (r:List UInt8):∀ (k i acc x:Nat),i+k≤8→x < 128 ^ (k+1)→Lib.uvarintFrom i acc (Lib.uvarint x++r)=(acc+x*2 ^ (7*i),(i:Int)+(Lib.uvarint x).length)
 | k,i,acc,x,hi,hx=>by
  by_cases h:x < 128
  ·rw [Lib.uvarint_small h];have e:(x.toUInt8).toNat=x:=by simp;omega
   simp only [List.cons_append,List.nil_append,Lib.uvarintFrom];rw [if_neg (by omega),e,if_pos h,if_neg (by omega)];simp
  ·match k with
   | 0=>simp at hx;omega
   | k+1 =>
    rw [Lib.uvarint_big (by omega)];have e:((x % 128+128).toUInt8).toNat=x % 128+128:=by simp;omega
    simp only [List.cons_append,Lib.uvarintFrom];have hx':x / 128 < 128 ^ (k+1):=by rw [Nat.pow_succ] at hx;exact Nat.div_lt_of_lt_mul (by rw [Nat.mul_comm];exact hx)
    rw [if_neg (by omega),e,if_neg (by omega),uvarintFrom_uvarint r k (i+1) _ (x / 128) (by omega) hx'];have ep:2 ^ (7*(i+1))=128*2 ^ (7*i):=by rw [show 7*(i+1)=7*i+7 by omega,Nat.pow_add];omega
    rw [ep,show (x % 128+128) % 128=x % 128 by omega];have e2:x / 128*(128*2 ^ (7*i))=(128*(x / 128))*2 ^ (7*i):=by rw [← Nat.mul_assoc,Nat.mul_comm (x / 128) 128]
    rw [e2,Nat.add_assoc,← Nat.add_mul,show x % 128+128*(x / 128)=x by omega];simp only [List.length_cons];congr 1
    omega
theorem uvarintDec_uvarint (x:Nat) (hx:x < 9223372036854775808) (r:List UInt8):Lib.uvarintDec (Lib.uvarint x++r)=(x,((Lib.uvarint x).length:Int)):=by
 rw [Lib.uvarintDec,uvarintFrom_uvarint r 8 0 0 x (by omega) (by simpa using hx)];simp
theorem uvarint_zero:Lib.uvarint 0=[0]:=by rw [Lib.uvarint_small (by omega)];rfl
theorem uvarint_len5 {x:Nat} (h:x < 34359738368):(Lib.uvarint x).length≤5:=Lib.uvarint_length 4 x (by simpa using h)
structure BWS where
 ri:Nat
 n:Nat
 buf:List UInt8
 prev:List UInt8
 rs:List Nat
def BWS.sh (s:BWS) (key:List UInt8):Nat:=if s.n % s.ri=0 then 0 else cpl s.prev key
def entry (sh:Nat) (key val:List UInt8):List UInt8:=Lib.uvarint sh++Lib.uvarint (key.length - sh)++Lib.uvarint val.length++key.drop sh++val
def BWS.append (s:BWS) (key val:List UInt8):BWS :=
 { ri:=s.ri,n:=s.n+1,buf:=s.buf++entry (s.sh key) key val,prev:=key,rs:=if s.n % s.ri=0 then s.rs++[s.buf.length] else s.rs }
theorem BWS.sh_le (s:BWS) (key:List UInt8):s.sh key≤key.length:=by
 unfold BWS.sh;split
 ·omega
 ·exact (cpl_le _ _).2
def le32s (l:List Nat):List UInt8:=l.flatMap (Lib.leBytes 4)
theorem le32s_append (a b:List Nat):le32s (a++b)=le32s a++le32s b:=by simp [le32s]
theorem le32s_length (l:List Nat):(le32s l).length=4*l.length:=by
 induction l with
 | nil=>rfl
 | cons x l ih=>simp only [le32s,List.flatMap_cons,List.length_append,leBytes_length,List.length_cons] at *;omega
def BWS.ends (s:BWS):List Nat:=(if s.n=0 then s.rs++[0] else s.rs)
def BWS.finish (s:BWS):BWS:={ s with buf:=s.buf++le32s (s.ends++[s.ends.length]),rs:=s.ends++[s.ends.length] }
def BWS.reset (s:BWS):BWS:={ s with buf:=[],n:=0,rs:=[] }
end
section
open Go Go.RowKit Go.Shelf
theorem un29:Tryz.prog.underlying 29=some (.slice 5):=by kernel_rfl
theorem sz5:(Tryz.prog.info? 5).map (·.size)=some 1:=by kernel_rfl
theorem info5:(Tryz.prog.info? 5).map (fun i=>(i.zero,i.size,i.bytes))=some (some (.int .u8 0),1,1):=by kernel_rfl
theorem drw (w:World) (a b:Nat):∃ k,(w.drewN a).drewN b=w.drewN k:=⟨a+b,by simp only [World.drewN_drewN]⟩
theorem Sl.get {w:World} {b o n c:Nat} {l:List UInt8} (h:Sl w (some ⟨b,o,none⟩) n c l) {j:Nat} (hj:j < n):∃ x,l[j]?=some x∧w.cell? ⟨b,o+j,none⟩=some (.int .u8 x.toNat) :=
 ⟨_,List.getElem?_eq_getElem (by have:=h.len;omega),h.cellAt (by have:=h.len;omega)⟩
theorem setCells_row:∀ (cs:List Value) (w:World) (g o:Nat) (G:Array Value) (E:Nat),Blk w g G E→o+cs.length≤G.size→w.setCells g o cs=w.setRow g (splice G o cs)
 | [],w,g,o,G,E,h,_=>by
  have:splice G o []=G:=by simp [splice]
  rw [this,setRow_self w g G E (0,0) h];rfl
 | v :: cs,w,g,o,G,E,h,hf=>by
  simp at hf;have ih:=setCells_row cs (w.setCell ⟨g,o,none⟩ v) g (o+1) (G.setIfInBounds o v) E (h.set o v) (by simp;omega);simp only [World.setCells];rw [ih,setCell_eq_setRow w g o G E (0,0) v h,setRow_setRow];congr 1
  apply Array.ext_getElem?
  intro k;rw [splice_get (by simp;omega),splice_get (by simp;omega)];by_cases h1:k < o
  ·rw [if_pos (by omega),if_pos h1,Array.getElem?_setIfInBounds_ne (by omega)]
  ·by_cases h2:k=o
   ·subst h2;rw [if_pos (by omega),if_neg h1,if_pos (by simp),Array.getElem?_setIfInBounds_self_of_lt (by omega)];simp
   ·rw [if_neg (by omega),if_neg h1];by_cases h3:k < o+1+cs.length
    ·rw [if_pos h3,if_pos (by simp;omega)];rw [show k - o=(k - (o+1))+1 by omega];simp
    ·rw [if_neg h3,if_neg (by simp;omega),Array.getElem?_setIfInBounds_ne (by omega)]
theorem putUvarint_any (g o n c x:Nat) (hx:x < 18446744073709551616) (w:World) (G:Array Value) (E:Nat) (hG:Blk w g G E) (hn:(Lib.uvarint x).length≤n) (hf:o+(Lib.uvarint x).length≤G.size) :
  Calls Tryz.prog 90 #[.slice (some ⟨g,o,none⟩) n c,.int .u64 x] w fun e w'=>e=.returned (.int .i64 (Lib.uvarint x).length)∧w.setRow g (splice G o (bv (Lib.uvarint x)))=w':=by
 refine (Tryz.binary_PutUvarint g o n c x hx w hn (fun j hj=>⟨by rw [hG.cell'];rw [Array.getElem?_eq_getElem (by omega)];rfl,hG.free _⟩)).mono ?_;rintro e w' ⟨rfl,rfl⟩;exact ⟨rfl,(setCells_row _ w g o G E hG (by rw [bv_length];exact hf)).symm⟩
theorem putUint32_any (g o n c v:Nat) (hv:v < 4294967296) (w:World) (G:Array Value) (E:Nat) (hG:Blk w g G E) (hn:4≤n) (hf:o+4≤G.size) :
  Calls Tryz.prog 94 #[.agg #[],.slice (some ⟨g,o,none⟩) n c,.int .u32 v] w fun e w'=>e=.returned (.tuple #[])∧(w.alloc (.cells #[] 204)).setRow g (splice G o (bv (Lib.leBytes 4 v)))=w':=by
 have hc:∀ j,j < 4→∃ x,w.cell? ⟨g,o+j,none⟩=some x:=fun j hj=>⟨_,by rw [hG.cell'];exact Array.getElem?_eq_getElem (by omega)⟩
 obtain ⟨x0,h0⟩:=hc 0 (by omega);obtain ⟨x1,h1⟩:=hc 1 (by omega);obtain ⟨x2,h2⟩:=hc 2 (by omega);obtain ⟨x3,h3⟩:=hc 3 (by omega);refine (Tryz.binary_LE_PutUint32 g o n c v hv x0 x1 x2 x3 w hn h0 h1 h2 h3 (hG.free _) (hG.free _) (hG.free _) (hG.free _)).mono ?_;rintro e w' ⟨rfl,rfl⟩;exact ⟨rfl,(setCells_row _ _ g o G E (hG.alloc _) (by rw [bv_length,leBytes_length];exact hf)).symm⟩
theorem uint32_any (a:Option Addr) (n c:Nat) (l:List UInt8) (w:World) (h:Sl w a n c l) (hn:4≤n) :
  Calls Tryz.prog 101 #[.agg #[],.slice a n c] w fun e w'=>e=.returned (.int .u32 (Lib.leNat (l.take 4)))∧Below w.heap.size w w':=by
 have hlen:=h.len;obtain ⟨b,o,rfl⟩:=h.form (by omega);have e4:l.take 4=[l[0]'(by omega),l[1]'(by omega),l[2]'(by omega),l[3]'(by omega)]:=by
  match l,hlen with
  | [],h=>simp at h;omega
  | [_],h=>simp at h;omega
  | [_,_],h=>simp at h;omega
  | [_,_,_],h=>simp at h;omega
  | a :: b :: c :: d :: r,_=>rfl
 rw [e4];exact Tryz.binary_LE_Uint32 b o n c _ _ _ _ w hn (h.cellAt (j:=0) (by omega)) (h.cellAt (by omega)) (h.cellAt (by omega)) (h.cellAt (by omega))
theorem uvarint_any (a:Option Addr) (n c:Nat) (l:List UInt8) (w:World) (h:Sl w a n c l) :
  Calls Tryz.prog 99 #[.slice a n c] w fun e w'=>e=.returned (.tuple #[.int .u64 (Lib.uvarintDec l).1,.int .i64 (Lib.uvarintDec l).2])∧w=w':=by
 rcases Nat.eq_zero_or_pos n with h0 | h0
 ·have:l=[]:=List.length_eq_zero_iff.1 (by rw [h.len];exact h0);subst this h0;refine (Tryz.binary_Uvarint_empty a c w).mono ?_;rintro e w' ⟨rfl,rfl⟩;exact ⟨rfl,rfl⟩
 ·obtain ⟨b,o,rfl⟩:=h.form h0;refine (Tryz.binary_Uvarint b o n c l w h.len (fun j hj=>h.cellAt hj)).mono ?_;rintro e w' ⟨rfl,rfl⟩;exact ⟨rfl,rfl⟩
end
section
open Go Go.RowKit Go.Shelf
theorem catch_idle (w:World) :
  CallsD Tryz.prog 130 #[] .returning w fun e u' w'=>e=.returned (.tuple #[])∧u'=.returning∧w'=w:=by
 have hnn:∀ w,(binOp .neq 20 .nilIface .nilIface).run Tryz.prog w=.ok (.bool false) w:=fun w=>Lib.run_neq_nil_nil w Tryz.underlying20
 refine callsD_of_wpS Tryz.func130 rfl fun c₀ cs hu=>?_
 apply wpS_seq
 apply wpS_region
 simp [wpOpsS,go_sem,recoverD,hu,hnn,Tryz.ntmps130,Exit.thenS];refine wpS_cond (t:=false) (by simp [Act.eval,Array.replicate]) ?_;simp only [Bool.false_eq_true,if_false];refine wpS_of_wp (wp_skip ?_);cases c₀
 simp_all [bodyPostS,results]
theorem makeSlice_any (n:Nat) (w:World) (hn:n≤140737488355328) :
  Calls Tryz.prog 127 #[.int .i64 n] w fun e w'=>e=.returned (.slice (some ⟨w.heap.size,0,none⟩) n n)∧w.alloc (.cells (madeCells #[.int .u8 0] n) 5)=w':=by
 have hmk:=fun w=>run_make_row' (P:=Tryz.prog) 29 5 (.int .u8 0) 1 un29 info5 rfl .i64 .i64 n (by omega) (by omega) w
 go_enter_defers Tryz.func127,Tryz.ntmps127
 go_wp2
 refine leaves_cons (f:=130) (args:=#[]) (by simp) (enters_of Tryz.func130 (by kernel_rfl) rfl _ _) ?_;refine (catch_idle _).mono ?_;rintro e u' w'' ⟨rfl,rfl,rfl⟩;refine ⟨_,results_tmp rfl _ _ _,?_⟩;exact ⟨by simp,rfl⟩
def UBuf (w:World) (b:Nat) (C:Array Value) (o:Nat) (F:Option Nat) (l:List UInt8) (v:Value):Prop :=
 (v=.slice none 0 0∧l=[]∧F=none) ∨
 (v=.slice (some ⟨b,o+2,none⟩) l.length 64∧l.length≤64∧F=none∧∀ j (h:j < l.length),C[o+2+j]?=some (.int .u8 (l[j]).toNat)) ∨
 (∃ g cap G,v=.slice (some ⟨g,0,none⟩) l.length cap∧F=some g∧g≠b∧Blk w g G 5∧G.size=cap∧l.length≤cap∧cap≤12884901888 ∧
  (∀ j,j < cap→∃ x:UInt8,G[j]?=some (.int .u8 x.toNat))∧∀ j (h:j < l.length),G[j]?=some (.int .u8 (l[j]).toNat))
structure UB (w:World) (b:Nat) (C:Array Value) (T o:Nat) (F:Option Nat) (l:List UInt8):Prop where
 blk:Blk w b C T
 room:o+66≤C.size
 boot:∀ j,j < 64→∃ x:UInt8,C[o+2+j]?=some (.int .u8 x.toNat)
 off:C[o+1]?=some (.int .i64 0)
 buf:∃ v,C[o]?=some v∧UBuf w b C o F l v
theorem UBuf.form {w:World} {b:Nat} {C:Array Value} {o:Nat} {F:Option Nat} {l:List UInt8} {v:Value} (h:UBuf w b C o F l v) :
  ∃ a c,v=.slice a l.length c∧l.length≤c∧c≤12884901888∧(c=0→a=none∨c=0):=by
 rcases h with ⟨rfl,rfl,_⟩ | ⟨rfl,h,_⟩ | ⟨g,cap,G,rfl,_,_,_,_,h,h2,_⟩
 ·exact ⟨_,_,rfl,by simp,by omega,fun _=>.inl rfl⟩
 ·exact ⟨_,_,rfl,h,by omega,fun h=>by omega⟩
 ·exact ⟨_,_,rfl,h,h2,fun h=>.inr h⟩
theorem len_any (w:World) (b o:Nat) (C:Array Value) (T:Nat) (F:Option Nat) (l:List UInt8) (h:UB w b C T o F l) :
  Calls Tryz.prog 49 #[.pointer (some ⟨b,o,none⟩)] w fun e w'=>e=.returned (.int .i64 l.length)∧∃ k,w'=w.drewN k:=by
 obtain ⟨v,hv,hb⟩:=h.buf;obtain ⟨a,c,rfl,hlc,hc,_⟩:=hb.form;have h0:=h.blk.cell hv;have h1:=h.blk.cell h.off;generalize l.length=n at *;go_enter Tryz.func49,Tryz.ntmps49
 go_wp2
 go_quiet (fail)
 go_wp2
 go_ret
 exact ⟨by simp,_,rfl⟩
theorem UB.cleared {w:World} {b:Nat} {C:Array Value} {T o:Nat} {F:Option Nat} {l:List UInt8} {a:Option Addr} {c:Nat} (h:UB w b C T o F l) (hv:C[o]?=some (.slice a l.length c)) (k:Nat) :
  ∃ C',UB ((((w.drewN k).setCell ⟨b,o+1,none⟩ (.int .i64 0)).setCell ⟨b,o,none⟩ (.slice a 0 c)).drew) b C' T o F []∧C'.size=C.size∧(∀ k,k≠o→C'[k]?=C[k]?):=by
 have hr:=h.room;have hC1:C.setIfInBounds (o+1) (.int .i64 0)=C:=by
  apply Array.ext_getElem?
  intro i;by_cases e:i=o+1
  ·subst e;rw [h.off];exact Array.getElem?_setIfInBounds_self_of_lt (by omega)
  ·rw [Array.getElem?_setIfInBounds_ne (by omega)]
 have hb1:=((h.blk.drewN k).set (o+1) (.int .i64 0)).set o (.slice a 0 c);rw [hC1] at hb1;have hne:∀ i,i≠o→(C.setIfInBounds o (.slice a 0 c))[i]?=C[i]?:=fun i hi=>Array.getElem?_setIfInBounds_ne (by omega)
 refine ⟨C.setIfInBounds o (.slice a 0 c),⟨hb1.drew,by simpa using hr,fun j hj=>?_,?_,_,Array.getElem?_setIfInBounds_self_of_lt (by omega),?_⟩,by simp,hne⟩
 ·rw [hne _ (by omega)];exact h.boot j hj
 ·rw [hne _ (by omega)];exact h.off
 ·obtain ⟨v,hv',hb⟩:=h.buf;rw [hv] at hv';simp only [Option.some.injEq] at hv';subst hv';rcases hb with ⟨hs,rfl,rfl⟩ | ⟨hs,_,rfl,_⟩ | ⟨g,cap,G,hs,rfl,hgb,hB,hsz,hl,hcap,hby,_⟩
  ·simp at hs;obtain ⟨rfl,rfl⟩:=hs;exact .inl ⟨rfl,rfl,rfl⟩
  ·simp at hs;obtain ⟨rfl,rfl⟩:=hs;exact .inr (.inl ⟨rfl,by simp,rfl,fun j hj=>by simp at hj⟩)
  ·simp at hs;obtain ⟨rfl,rfl⟩:=hs;exact .inr (.inr ⟨g,c,G,rfl,rfl,hgb,((((hB.drewN k).other (.int .i64 0) (by simpa using hgb)).other (.slice _ 0 c) (by simpa using hgb)).drew),hsz,by simp,hcap,hby,fun j hj=>by simp at hj⟩)
theorem truncate_zero (w:World) (b o:Nat) (C:Array Value) (T:Nat) (F:Option Nat) (l:List UInt8) (h:UB w b C T o F l) :
  Calls Tryz.prog 126 #[.pointer (some ⟨b,o,none⟩),.int .i64 0] w fun e w'=>e=.returned (.tuple #[])∧∃ C',UB w' b C' T o F []∧C'.size=C.size∧(∀ k,k≠o→C'[k]?=C[k]?)∧Fr (fun k=>k=b) w w':=by
 obtain ⟨v,hv,hb⟩:=h.buf;obtain ⟨a,c,rfl,hlc,hc,_⟩:=hb.form;have h0:=h.blk.cell hv;have h1:=h.blk.cell h.off;have hf0:=h.blk.free o;have hf1:=h.blk.free (o+1);have hlen:=(len_any w b o C T F l h);have hsl:∀ w,(Instr.slice 29 (.slice a l.length c) (some (.int .i64 0)) (some (.int .i64 0)) none).run Tryz.prog w=.ok (.slice a 0 c) w :=
  fun w=>run_slice_zhi (P:=Tryz.prog) 29 5 un29 sz5 .i64 .i64 a l.length c 0 (by omega) w
 have hw0:IntKind.i64.wrap (0:Int)=0:=by decide
 have hend:=fun k=>h.cleared hv k
 clear hv hb;generalize l.length=n at *;go_enter Tryz.func126,Tryz.ntmps126
 go_wp2_with (go_at_call 49;refine hlen.mono ?_;rintro e w1 ⟨rfl,k,rfl⟩)
 refine wp_tail 12 (by kernel_rfl) ?_;simp only [List.take_succ_cons,List.take_zero,List.drop_succ_cons,List.drop_zero];repeat still_step
 refine wpStill_nil ?_;go_wp2
 go_end0
 obtain ⟨C',h1,h2,h3⟩:=hend k;exact ⟨rfl,C',h1,h2,h3,((((Fr.refl (fun k=>k=b) _).drewN k).setC b (o+1) _ rfl).setC b o _ rfl).drew⟩
theorem bytes_exist (f:Nat→Option Value):∀ n:Nat,(∀ j,j < n→∃ x:UInt8,f j=some (.int .u8 x.toNat)) →
  ∃ l:List UInt8,l.length=n∧∀ j (h:j < l.length),f j=some (.int .u8 (l[j]).toNat)
 | 0,_=>⟨[],rfl,fun j h=>by simp at h⟩
 | n+1,h=>by
  obtain ⟨l,hl,hc⟩:=bytes_exist f n (fun j hj=>h j (by omega));obtain ⟨x,hx⟩:=h n (by omega);refine ⟨l++[x],by simp [hl],fun j hj=>?_⟩;by_cases e:j < l.length
  ·rw [List.getElem_append_left e];exact hc j e
  ·have:j=l.length:=by simp at hj;omega
   subst this;simp only [List.getElem_concat_length];rw [hl];exact hx
theorem UB.fits {w w':World} {b:Nat} {C:Array Value} {T o n:Nat} {F:Option Nat} {l:List UInt8} {a:Option Addr} {c:Nat} (h:UB w b C T o F l) (hv:C[o]?=some (.slice a l.length c))
  (hn:l.length+n≤c) (hB:Blk w' b (C.setIfInBounds o (.slice a (l.length+n) c)) T) (hF:∀ g,F=some g→w'.heap[g]?=w.heap[g]?) :
  ∃ junk:List UInt8,junk.length=n∧UB w' b (C.setIfInBounds o (.slice a (l.length+n) c)) T o F (l++junk):=by
 have hr:=h.room;have hne:∀ i,i≠o→(C.setIfInBounds o (.slice a (l.length+n) c))[i]?=C[i]?:=fun i hi=>Array.getElem?_setIfInBounds_ne (by omega)
 have hself:(C.setIfInBounds o (.slice a (l.length+n) c))[o]?=some (.slice a (l.length+n) c):=Array.getElem?_setIfInBounds_self_of_lt (by omega);have hboot:∀ j,j < 64→∃ x:UInt8,(C.setIfInBounds o (.slice a (l.length+n) c))[o+2+j]?=some (.int .u8 x.toNat):=fun j hj=>by rw [hne _ (by omega)];exact h.boot j hj
 have hoff:(C.setIfInBounds o (.slice a (l.length+n) c))[o+1]?=some (.int .i64 0):=by rw [hne _ (by omega)];exact h.off
 obtain ⟨v,hv',hb⟩:=h.buf;rw [hv] at hv';simp only [Option.some.injEq] at hv';subst hv';rcases hb with ⟨hs,rfl,rfl⟩ | ⟨hs,h64,rfl,hc⟩ | ⟨g,cap,G,hs,rfl,hgb,hG,hsz,hl,hcap,hby,hc⟩
 ·simp at hs;obtain ⟨rfl,rfl⟩:=hs;have:n=0:=by simp at hn;exact hn
  subst this;exact ⟨[],rfl,hB,by simpa using hr,hboot,hoff,_,hself,.inl ⟨rfl,rfl,rfl⟩⟩
 ·simp at hs;obtain ⟨rfl,rfl⟩:=hs;obtain ⟨junk,hj,hjc⟩:=bytes_exist (fun j=>C[o+2+(l.length+j)]?) n (fun j hj=>h.boot _ (by omega));refine ⟨junk,hj,hB,by simpa using hr,hboot,hoff,_,hself,.inr (.inl ⟨by simp [hj],by simp [hj];omega,rfl,fun j hj'=>?_⟩)⟩;rw [hne _ (by omega)];by_cases e:j < l.length
  ·rw [List.getElem_append_left e];exact hc j e
  ·rw [List.getElem_append_right (by omega)];have:=hjc (j - l.length) (by simp at hj';omega);rw [show l.length+(j - l.length)=j by omega] at this;exact this
 ·simp at hs;obtain ⟨rfl,rfl⟩:=hs;obtain ⟨junk,hj,hjc⟩:=bytes_exist (fun j=>G[l.length+j]?) n (fun j hj=>hby _ (by omega));refine ⟨junk,hj,hB,by simpa using hr,hboot,hoff,_,hself,.inr (.inr ⟨g,c,G,by simp [hj],rfl,hgb,(hF g rfl).trans hG,hsz,by simp [hj];omega,hcap,hby,fun j hj'=>?_⟩)⟩;by_cases e:j < l.length
  ·rw [List.getElem_append_left e];exact hc j e
  ·rw [List.getElem_append_right (by omega)];have:=hjc (j - l.length) (by simp at hj';omega);rw [show l.length+(j - l.length)=j by omega] at this;exact this
def Grew (b:Nat) (C:Array Value) (T o n:Nat) (F:Option Nat) (l:List UInt8) (w w':World):Prop :=
 ∃ C' F',∃ junk:List UInt8,junk.length=n∧UB w' b C' T o F' (l++junk)∧C'.size=C.size∧(∀ k,k≠o→C'[k]?=C[k]?)∧Fr (fun k=>k=b) w w'∧(∀ g,F'=some g→F=some g∨w.heap.size≤g)
theorem set_same {C:Array Value} {k:Nat} {v:Value} (h:C[k]?=some v):C.setIfInBounds k v=C:=by
 apply Array.ext_getElem?
 intro i;by_cases e:i=k
 ·subst e;rw [h];exact Array.getElem?_setIfInBounds_self_of_lt ((Array.getElem?_eq_some_iff.1 h).1)
 ·rw [Array.getElem?_setIfInBounds_ne (by omega)]
set_option maxHeartbeats 1000000 in
theorem grow_fits (w:World) (b o n:Nat) (C:Array Value) (T:Nat) (F:Option Nat) (l:List UInt8) (h:UB w b C T o F l) (a:Option Addr) (c:Nat) (hv:C[o]?=some (.slice a l.length c))
  (hn:l.length+n≤c) (hcap:c≤12884901888) :
  Calls Tryz.prog 118 #[.pointer (some ⟨b,o,none⟩),.int .i64 n] w fun e w'=>e=.returned (.int .i64 l.length)∧Grew b C T o n F l w w':=by
 have h0:=h.blk.cell hv;have h1:=h.blk.cell h.off;have hf0:=h.blk.free o;have hlen:=(len_any w b o C T F l h);have hsl:∀ w,(Instr.slice 29 (.slice a l.length c) (some (.int .i64 0)) (some (.int .i64 (l.length+n))) none).run Tryz.prog w=.ok (.slice a (l.length+n) c) w :=
  fun w=>run_slice_zhi (P:=Tryz.prog) 29 5 un29 sz5 .i64 .i64 a l.length c (l.length+n) (by omega) w
 have hw0:IntKind.i64.wrap ((l.length:Int)+n)=l.length+n:=IntWalk.i64_in _ (by omega);have hw1:IntKind.i64.wrap (l.length:Int)=l.length:=IntWalk.i64_in _ (by omega);have hw2:wrap64 ((l.length:Int)+n)=l.length+n:=IntWalk.wrap64_in _ ⟨by omega,by omega⟩;have hend:∀ k,Grew b C T o n F l w ((w.setCell ⟨b,o,none⟩ (.slice a (l.length+n) c)).drewN k):=by
  intro k;have hB:=(h.blk.set o (.slice a (l.length+n) c)).drewN k;obtain ⟨junk,hj,hu⟩:=h.fits hv hn hB (fun g hg=>by
   have:g≠b:=by
    obtain ⟨v,hv',hb⟩:=h.buf;rcases hb with ⟨_,_,rfl⟩ | ⟨_,_,rfl,_⟩ | ⟨g,cap,G,hs,rfl,hgb,_⟩
    ·cases hg
    ·cases hg
    ·simp at hg;subst hg;exact hgb
   exact Below.heap_setCell w _ _ g this)
  exact ⟨_,F,junk,hj,hu,by simp,fun k hk=>Array.getElem?_setIfInBounds_ne (by omega),((Fr.refl (fun k=>k=b) _).setC b o _ rfl).drewN k,fun g hg=>.inl hg⟩
 have hgt:decide ((c:Int) < (l.length:Int)+n)=false:=by simp;omega
 have hres:(((l.length:Nat):Int)=l.length):=rfl;clear hv h;generalize l.length=m at *;rcases Nat.eq_zero_or_pos m with hm | hm
 ·subst hm;simp only [Int.natCast_zero,Int.zero_add,Nat.zero_add] at hsl hw0 hw1 hw2 hgt hend hlen h0 hn;clear hres;go_enter Tryz.func118,Tryz.ntmps118
  go_wp2_with (go_at_call 49;refine hlen.mono ?_;rintro e w1 ⟨rfl,k,rfl⟩)
  go_quiet (fail)
  go_wp2
  refine wp_tail 14 (by kernel_rfl) ?_;simp only [List.take_succ_cons,List.take_zero,List.drop_succ_cons,List.drop_zero];repeat still_step
  refine wpStill_nil ?_;go_wp2
  go_ret
  exact ⟨rfl,hend _⟩
 ·have hmz:((m:Int) == 0)=false:=by simp;omega
  go_enter Tryz.func118,Tryz.ntmps118
  go_wp2_with (go_at_call 49;refine hlen.mono ?_;rintro e w1 ⟨rfl,k,rfl⟩)
  go_quiet (fail)
  go_wp2
  refine wp_tail 14 (by kernel_rfl) ?_;simp only [List.take_succ_cons,List.take_zero,List.drop_succ_cons,List.drop_zero];repeat still_step
  refine wpStill_nil ?_;go_wp2
  go_ret
  exact ⟨rfl,hend _⟩
theorem UB.sl {w:World} {b:Nat} {C:Array Value} {T o:Nat} {F:Option Nat} {l:List UInt8} {a:Option Addr} {c:Nat} (h:UB w b C T o F l) (hv:C[o]?=some (.slice a l.length c)):Sl w a l.length c l:=by
 obtain ⟨v,hv',hb⟩:=h.buf;rw [hv] at hv';obtain rfl:=Option.some.inj hv';rcases hb with ⟨hs,rfl,rfl⟩ | ⟨hs,h64,rfl,hc⟩ | ⟨g,cap,G,hs,rfl,hgb,hG,hsz,hl,hcap,hby,hc⟩
 ·simp at hs;obtain ⟨rfl,rfl⟩:=hs;exact Sl.nil' w
 ·simp at hs;obtain ⟨rfl,rfl⟩:=hs;exact Sl.mk' rfl h64 (by unfold maxLen;omega) (fun j hj=>h.blk.cell (hc j hj))
 ·simp at hs;obtain ⟨rfl,rfl⟩:=hs;exact Sl.mk' rfl hl (by unfold maxLen;omega) (fun j hj=>by rw [Nat.zero_add];exact hG.cell (hc j hj))
theorem madeCells_get (n j:Nat) (h:j < n):(madeCells #[Value.int .u8 0] n)[j]?=some (.int .u8 ((0:UInt8).toNat)):=by
 rw [← Array.getElem?_toList,toList_madeCells_one,List.getElem?_replicate,if_pos h];rfl
theorem UB.moved {w w':World} {b:Nat} {C:Array Value} {T o n cap g:Nat} {F:Option Nat} {l:List UInt8} (h:UB w b C T o F l) (hn:l.length+n≤cap) (hcap:cap≤12884901888)
  (hB:Blk w' b (C.setIfInBounds o (.slice (some ⟨g,0,none⟩) (l.length+n) cap)) T) (hgb:g≠b) (hG:Blk w' g (splice (madeCells #[.int .u8 0] cap) 0 (bv l)) 5) :
  ∃ junk:List UInt8,junk.length=n∧UB w' b (C.setIfInBounds o (.slice (some ⟨g,0,none⟩) (l.length+n) cap)) T o (some g) (l++junk):=by
 have hr:=h.room;have hne:∀ i,i≠o→(C.setIfInBounds o (.slice (some ⟨g,0,none⟩) (l.length+n) cap))[i]?=C[i]?:=fun i hi=>Array.getElem?_setIfInBounds_ne (by omega)
 have hself:(C.setIfInBounds o (.slice (some ⟨g,0,none⟩) (l.length+n) cap))[o]?=some (.slice (some ⟨g,0,none⟩) (l.length+n) cap):=Array.getElem?_setIfInBounds_self_of_lt (by omega);have hfit:0+(bv l).length≤(madeCells #[Value.int .u8 0] cap).size:=by rw [bv_length,size_madeCells];omega
 have hlow:∀ j (hj:j < l.length),(splice (madeCells #[Value.int .u8 0] cap) 0 (bv l))[j]?=some (.int .u8 (l[j]).toNat):=fun j hj=>by
  have:=splice_in hfit (j:=j) (by rw [bv_length];exact hj);rw [Nat.zero_add] at this;rw [this,bv_get,List.getElem?_eq_getElem hj];rfl
 have hhigh:∀ j,l.length≤j→j < cap→(splice (madeCells #[Value.int .u8 0] cap) 0 (bv l))[j]?=some (.int .u8 ((0:UInt8).toNat)):=fun j hj hc=>by
  rw [splice_out hfit (by rw [bv_length];omega),madeCells_get _ _ hc]
 refine ⟨List.replicate n 0,by simp,hB,by simpa using hr,fun j hj=>by rw [hne _ (by omega)];exact h.boot j hj,by rw [hne _ (by omega)];exact h.off,_,hself,
  .inr (.inr ⟨g,cap,_,by simp,rfl,hgb,hG,?_,by simp;omega,hcap,fun j hj=>?_,fun j hj=>?_⟩)⟩
 ·rw [splice_size hfit,size_madeCells]
 ·by_cases e:j < l.length
  ·exact ⟨_,hlow j e⟩
  ·exact ⟨_,hhigh j (by omega) hj⟩
 ·by_cases e:j < l.length
  ·rw [List.getElem_append_left e];exact hlow j e
  ·rw [List.getElem_append_right (by omega),List.getElem_replicate];simp at hj;exact hhigh j (by omega) (by omega)
theorem UB.booted {w w':World} {b:Nat} {C:Array Value} {T o n:Nat} {F:Option Nat} (h:UB w b C T o F []) (hn:n≤64)
  (hB:Blk w' b (C.setIfInBounds o (.slice (some ⟨b,o+2,none⟩) n 64)) T) :
  ∃ junk:List UInt8,junk.length=n∧UB w' b (C.setIfInBounds o (.slice (some ⟨b,o+2,none⟩) n 64)) T o none ([]++junk):=by
 have hr:=h.room;have hne:∀ i,i≠o→(C.setIfInBounds o (.slice (some ⟨b,o+2,none⟩) n 64))[i]?=C[i]?:=fun i hi=>Array.getElem?_setIfInBounds_ne (by omega)
 have hself:(C.setIfInBounds o (.slice (some ⟨b,o+2,none⟩) n 64))[o]?=some (.slice (some ⟨b,o+2,none⟩) n 64):=Array.getElem?_setIfInBounds_self_of_lt (by omega);obtain ⟨junk,hj,hjc⟩:=bytes_exist (fun j=>C[o+2+j]?) n (fun j hj=>h.boot _ (by omega));refine ⟨junk,hj,hB,by simpa using hr,fun j hj=>by rw [hne _ (by omega)];exact h.boot j hj,by rw [hne _ (by omega)];exact h.off,_,hself,
  .inr (.inl ⟨by simp [hj],by simp [hj];omega,rfl,fun j hj'=>?_⟩)⟩
 rw [hne _ (by omega)];exact hjc j (by simpa using hj')
set_option maxHeartbeats 1000000 in
theorem grow_boot (w:World) (b o n:Nat) (C:Array Value) (T:Nat) (F:Option Nat) (h:UB w b C T o F []) (hv:C[o]?=some (.slice none 0 0)) (hn:n≤64) (h1n:1≤n) :
  Calls Tryz.prog 118 #[.pointer (some ⟨b,o,none⟩),.int .i64 n] w fun e w'=>e=.returned (.int .i64 0)∧Grew b C T o n F [] w w':=by
 have h0:=h.blk.cell hv;have h1:=h.blk.cell h.off;have hf0:=h.blk.free o;have hf1:=h.blk.free (o+1);have hr:=h.room;have hlen:=(len_any w b o C T F [] h);have hsl:∀ w,(Instr.slice 29 (.slice (some ⟨b,o+2,none⟩) 64 64) (some (.int .i64 0)) (some (.int .i64 n)) none).run Tryz.prog w=.ok (.slice (some ⟨b,o+2,none⟩) n 64) w :=
  fun w=>run_slice_zhi (P:=Tryz.prog) 29 5 un29 sz5 .i64 .i64 _ 64 64 n (by omega) w
 have hw0:IntKind.i64.wrap (n:Int)=n:=IntWalk.i64_in _ (by omega);have hw1:IntKind.i64.wrap (0:Int)=0:=by decide
 have hend:∀ k,Grew b C T o n F [] w ((((w.setCell ⟨b,o,none⟩ (.slice (some ⟨b,o+2,none⟩) 64 64)).setCell ⟨b,o+1,none⟩ (.int .i64 0)).setCell ⟨b,o,none⟩ (.slice (some ⟨b,o+2,none⟩) n 64)).drewN k):=by
  intro k;have hB:=((((h.blk.set o (.slice (some ⟨b,o+2,none⟩) 64 64)).set (o+1) (.int .i64 0)).set o (.slice (some ⟨b,o+2,none⟩) n 64)).drewN k);have hC:(((C.setIfInBounds o (.slice (some ⟨b,o+2,none⟩) 64 64)).setIfInBounds (o+1) (.int .i64 0)).setIfInBounds o (.slice (some ⟨b,o+2,none⟩) n 64))=C.setIfInBounds o (.slice (some ⟨b,o+2,none⟩) n 64):=by
   rw [set_same (k:=o+1) (by rw [Array.getElem?_setIfInBounds_ne (by omega)];exact h.off),Array.setIfInBounds_setIfInBounds]
  rw [hC] at hB;obtain ⟨junk,hj,hu⟩:=h.booted hn hB;exact ⟨_,none,junk,hj,hu,by simp,fun k hk=>Array.getElem?_setIfInBounds_ne (by omega),((((Fr.refl (fun k=>k=b) _).setC b o _ rfl).setC b (o+1) _ rfl).setC b o _ rfl).drewN k,fun g hg=>by cases hg⟩
 have hnil:=fun w=>Lib.run_eql_slice_nil (P:=Tryz.prog) w 29 5 none 0 0 0 0 un29
 have hgt:decide ((0:Int) < (n:Int))=true:=by simp;omega
 have hle:decide ((n:Int)≤64)=true:=by simp;omega
 clear hv h;go_enter Tryz.func118,Tryz.ntmps118
 go_wp2_with (go_at_call 49;refine hlen.mono ?_;rintro e w1 ⟨rfl,k,rfl⟩)
 go_quiet (fail)
 go_wp2
 refine wp_tail 14 (by kernel_rfl) ?_;simp only [List.take_succ_cons,List.take_zero,List.drop_succ_cons,List.drop_zero];repeat still_step
 refine wpStill_nil ?_;go_wp2
 go_ret
 exact ⟨rfl,hend (k+nq+1)⟩
theorem grow_far_end {w:World} {b:Nat} {C:Array Value} {T o n:Nat} {F:Option Nat} {l:List UInt8} (h:UB w b C T o F l) {c:Nat} (hlim:2*c+n≤12884901888) (hbig:l.length+n≤2*c+n)
  (k:Nat):Grew b C T o n F l w ((((((w.alloc (.cells (madeCells #[.int .u8 0] (2*c+n)) 5)).setRow w.heap.size (splice (madeCells #[.int .u8 0] (2*c+n)) 0 (bv l))).setCell ⟨b,o,none⟩ (.slice (some ⟨w.heap.size,0,none⟩) (2*c+n) (2*c+n))).setCell ⟨b,o+1,none⟩ (.int .i64 0)).setCell ⟨b,o,none⟩ (.slice (some ⟨w.heap.size,0,none⟩) (l.length+n) (2*c+n))).drewN k):=by
 have hr:=h.room;have hlt:=h.blk.lt;have hgb:w.heap.size≠b:=by omega
 have hN:=(Blk.new w (madeCells #[.int .u8 0] (2*c+n)) 5).setRow (splice (madeCells #[.int .u8 0] (2*c+n)) 0 (bv l));have hG:=(((hN.other (p:=⟨b,o,none⟩) (.slice (some ⟨w.heap.size,0,none⟩) (2*c+n) (2*c+n)) hgb).other (p:=⟨b,o+1,none⟩) (.int .i64 0) hgb).other (p:=⟨b,o,none⟩) (.slice (some ⟨w.heap.size,0,none⟩) (l.length+n) (2*c+n)) hgb).drewN k;have h1:Blk ((w.alloc (.cells (madeCells #[.int .u8 0] (2*c+n)) 5)).setRow w.heap.size (splice (madeCells #[.int .u8 0] (2*c+n)) 0 (bv l))) b C T :=
  (setRow_other _ _ _ _ (Ne.symm hgb)).trans (h.blk.alloc _)
 have hB:=((((h1.set o (.slice (some ⟨w.heap.size,0,none⟩) (2*c+n) (2*c+n))).set (o+1) (.int .i64 0)).set o (.slice (some ⟨w.heap.size,0,none⟩) (l.length+n) (2*c+n)))).drewN k;rw [set_same (k:=o+1) (by rw [Array.getElem?_setIfInBounds_ne (by omega)];exact h.off),Array.setIfInBounds_setIfInBounds] at hB;obtain ⟨junk,hj,hu⟩:=h.moved hbig hlim hB hgb hG;refine ⟨_,some w.heap.size,junk,hj,hu,by simp,fun k hk=>Array.getElem?_setIfInBounds_ne (by omega),?_,fun g hg=>.inr (by cases hg;exact Nat.le_refl _)⟩
 exact (((((Fr.refl (fun k=>k=b) _).alloc _).setRow (fun h=>by omega) _).setC b o _ rfl).setC b (o+1) _ rfl).setC b o _ rfl |>.drewN k
set_option maxHeartbeats 2000000 in
theorem grow_far (w:World) (b o n:Nat) (C:Array Value) (T:Nat) (F:Option Nat) (l:List UInt8) (h:UB w b C T o F l) (a:Option Addr) (c:Nat) (hv:C[o]?=some (.slice a l.length c))
  (hbig:c < l.length+n) (hlim:l.length+n≤4294967296) (hnb:a=none→64 < n) :
  Calls Tryz.prog 118 #[.pointer (some ⟨b,o,none⟩),.int .i64 n] w fun e w'=>e=.returned (.int .i64 l.length)∧Grew b C T o n F l w w':=by
 have hsle:=h.sl hv;have hlc:=hsle.cap;have h0:=h.blk.cell hv;have h1:=h.blk.cell h.off;have hf0:=h.blk.free o;have hf1:=h.blk.free (o+1);have hr:=h.room;have hlt:=h.blk.lt;have hlen:=(len_any w b o C T F l h);have hcopy:∀ k,(Builtin.copy_ #[29,29] 3 #[.slice (some ⟨w.heap.size,0,none⟩) (2*c+n) (2*c+n),.slice a l.length c]).run Tryz.prog ((w.alloc (.cells (madeCells #[.int .u8 0] (2*c+n)) 5)).drewN k)
   = .ok (.int .i64 l.length) ((((w.alloc (.cells (madeCells #[.int .u8 0] (2*c+n)) 5))).setRow w.heap.size (splice (madeCells #[.int .u8 0] (2*c+n)) 0 (bv l))).drewN k):=fun k =>
  run_copy_sl 29 29 3 5 un29 sz5 ((Blk.new w (madeCells #[.int .u8 0] (2*c+n)) 5).drewN k)
   (hsle.fr (S:=fun _=>False) ((((Fr.refl _ w)).alloc _).drewN k) (fun _ _ h=>h)) (by omega) (by rw [size_madeCells];omega)
 have hsl:∀ w',(Instr.slice 29 (.slice (some ⟨w.heap.size,0,none⟩) (2*c+n) (2*c+n)) (some (.int .i64 0)) (some (.int .i64 (l.length+n))) none).run Tryz.prog w'=.ok (.slice (some ⟨w.heap.size,0,none⟩) (l.length+n) (2*c+n)) w' :=
  fun w'=>run_slice_zhi (P:=Tryz.prog) 29 5 un29 sz5 .i64 .i64 _ (2*c+n) (2*c+n) (l.length+n) (by omega) w'
 have hsz:∀ w',(Instr.slice 29 (.slice a l.length c) (some (.int .i64 0)) none none).run Tryz.prog w'=.ok (.slice a l.length c) w':=fun w'=>run_slice_z (P:=Tryz.prog) 29 5 un29 sz5 .i64 a _ c w'
 have hw0:IntKind.i64.wrap ((l.length:Int)+n)=l.length+n:=IntWalk.i64_in _ (by omega);have hw1:IntKind.i64.wrap (l.length:Int)=l.length:=IntWalk.i64_in _ (by omega);have hend:=h;have hend:=fun k=>grow_far_end (n:=n) h (c:=c) (by omega) (by omega) k
 have hnil:=fun w=>Lib.run_eql_slice_nil (P:=Tryz.prog) w 29 5 a l.length c 0 0 un29
 have hgt:decide ((c:Int) < (l.length:Int)+n)=true:=by simp;omega
 have hmake:=fun W=>makeSlice_any (2*c+n) W (by omega)
 have hne:¬ b=w.heap.size:=by omega
 clear hv;rcases Nat.eq_zero_or_pos l.length with hl0 | hl0
 ·obtain rfl:l=[]:=List.length_eq_zero_iff.1 hl0;clear hl0;simp only [List.length_nil,Int.natCast_zero,Int.zero_add,Nat.zero_add] at *;cases a with
  | none =>
   have hc0:=hsle.nil rfl;subst hc0;have h64:=hnb rfl;have hle:decide ((n:Int)≤64)=false:=by simp;omega
   have hle2:decide ((n:Int)≤0)=false:=by simp;omega
   simp only [Int.natCast_zero,Nat.zero_add,Nat.mul_zero] at *;clear hsle hnb;go_enter Tryz.func118,Tryz.ntmps118
   go_wp2_with (go_at_call 49;refine hlen.mono ?_;rintro e w1 ⟨rfl,k,rfl⟩)
   go_quiet (fail)
   go_wp2_with (go_at_call 127;refine (hmake _).mono ?_;rintro e w1 ⟨rfl,rfl⟩)
   refine wp_tail 10 (by kernel_rfl) ?_;simp only [List.take_succ_cons,List.take_zero,List.drop_succ_cons,List.drop_zero];repeat still_step
   refine wpStill_nil ?_;go_wp2
   refine wp_tail 14 (by kernel_rfl) ?_;simp only [List.take_succ_cons,List.take_zero,List.drop_succ_cons,List.drop_zero];repeat still_step
   refine wpStill_nil ?_;go_wp2
   go_ret
   exact ⟨rfl,hend _⟩
  | some p =>
   clear hsle hnb;have hle2:decide ((n:Int)≤(c:Int) / 2)=false:=by simp;omega
   go_enter Tryz.func118,Tryz.ntmps118
   go_wp2_with (go_at_call 49;refine hlen.mono ?_;rintro e w1 ⟨rfl,k,rfl⟩)
   go_quiet (fail)
   go_wp2_with (go_at_call 127;refine (hmake _).mono ?_;rintro e w1 ⟨rfl,rfl⟩)
   refine wp_tail 10 (by kernel_rfl) ?_;simp only [List.take_succ_cons,List.take_zero,List.drop_succ_cons,List.drop_zero];repeat still_step
   refine wpStill_nil ?_;go_wp2
   refine wp_tail 14 (by kernel_rfl) ?_;simp only [List.take_succ_cons,List.take_zero,List.drop_succ_cons,List.drop_zero];repeat still_step
   refine wpStill_nil ?_;go_wp2
   go_ret
   exact ⟨rfl,hend _⟩
 ·cases a with
  | none=>have:=hsle.nil rfl;omega
  | some p =>
   clear hsle hnb;generalize l.length=m at *;have hmz:((m:Int) == 0)=false:=by simp;omega
   have hle2:decide ((m:Int)+(n:Int)≤(c:Int) / 2)=false:=by simp;omega
   go_enter Tryz.func118,Tryz.ntmps118
   go_wp2_with (go_at_call 49;refine hlen.mono ?_;rintro e w1 ⟨rfl,k,rfl⟩)
   go_quiet (fail)
   go_wp2_with (go_at_call 127;refine (hmake _).mono ?_;rintro e w1 ⟨rfl,rfl⟩)
   refine wp_tail 10 (by kernel_rfl) ?_;simp only [List.take_succ_cons,List.take_zero,List.drop_succ_cons,List.drop_zero];repeat still_step
   refine wpStill_nil ?_;go_wp2
   refine wp_tail 14 (by kernel_rfl) ?_;simp only [List.take_succ_cons,List.take_zero,List.drop_succ_cons,List.drop_zero];repeat still_step
   refine wpStill_nil ?_;go_wp2
   go_ret
   exact ⟨rfl,hend _⟩
end
end Go.Proofs.YtmkdpjicgjhhjaaGreatDoor
