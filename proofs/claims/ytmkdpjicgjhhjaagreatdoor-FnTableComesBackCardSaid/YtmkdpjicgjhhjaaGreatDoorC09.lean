/- Part 9 of the proof of FnTableComesBack: contracts and lemmas, each under the conditions that it states. Texts: Crc, Hash, Bloom, BloomC. -/
import Derived.Test.YtmkdpjicgjhhjaaGreatDoorC08
namespace Go.Proofs.YtmkdpjicgjhhjaaGreatDoor
open Go.Lib (hid)
set_option maxRecDepth 100000
set_option linter.all false
section
open Go Go.RowKit Go.Shelf
def cstep (x:Nat):Nat:=if x % 2=1 then (x / 2) ^^^ 2197175160 else x / 2
def csteps:Nat→Nat→Nat
 | 0,x=>x
 | k+1,x=>cstep (csteps k x)
def ctab (i:Nat):Nat:=csteps 8 i
theorem xor_lt {a b:Nat} (ha:a < 4294967296) (hb:b < 4294967296):a ^^^ b < 4294967296:=Nat.xor_lt_two_pow (n:=32) ha hb
theorem xor_lt8 {a b:Nat} (ha:a < 256) (hb:b < 256):a ^^^ b < 256:=Nat.xor_lt_two_pow (n:=8) ha hb
theorem cstep_lt {x:Nat} (h:x < 4294967296):cstep x < 4294967296:=by
 unfold cstep;split
 ·exact xor_lt (by omega) (by omega)
 ·omega
theorem csteps_lt {x:Nat} (h:x < 4294967296):∀ k,csteps k x < 4294967296
 | 0=>h
 | k+1=>cstep_lt (csteps_lt h k)
def crcByte (c:Nat) (y:UInt8):Nat:=ctab ((c % 256) ^^^ y.toNat) ^^^ (c / 256)
theorem crcByte_lt {c:Nat} (h:c < 4294967296) (y:UInt8):crcByte c y < 4294967296:=by
 have:=y.toNat_lt;exact xor_lt (csteps_lt (by have:=xor_lt8 (a:=c % 256) (b:=y.toNat) (by omega) (by omega);omega) 8) (by omega)
def crcRaw (l:List UInt8):Nat:=4294967295 ^^^ l.foldl crcByte (4294967295 ^^^ 0)
theorem foldl_lt (l:List UInt8):∀ c,c < 4294967296→l.foldl crcByte c < 4294967296:=by
 induction l with
 | nil=>exact fun c h=>h
 | cons y l ih=>exact fun c h=>ih _ (crcByte_lt h y)
theorem crcRaw_lt (l:List UInt8):crcRaw l < 4294967296:=xor_lt (by omega) (foldl_lt l _ (by decide))
def IsTab (w:World) (g:Nat):Prop:=∃ (G:Array Value) (T:Nat),Blk w g G T∧G.size=256∧∀ j,j < 256→G[j]?=some (.int .u32 (ctab j))
set_option maxHeartbeats 2000000 in
theorem update_any (c:Nat) (hc:c < 4294967296) (a:Option Addr) (n cp g:Nat) (l:List UInt8) (w:World) (h:Sl w a n cp l) (hT:IsTab w g) (hn:n≤4294967296) :
  Calls Tryz.prog 131 #[.int .u32 c,.pointer (some ⟨g,0,none⟩),.slice a n cp] w fun e w'=>e=.returned (.int .u32 (4294967295 ^^^ l.foldl crcByte (4294967295 ^^^ c):Nat))∧w=w':=by
 obtain ⟨G,T,hG,hs,hT⟩:=hT;have hlen:=h.len;have hsg:IntKind.u32.signed=false:=rfl;have hmx:IntKind.u32.max=4294967295:=by decide
 have hx0:bits .xor .u32 4294967295 (c:Int)=((4294967295 ^^^ c:Nat):Int):=u32_xor_nat 4294967295 c (by omega) hc;have hx0':bits .xor .u32 IntKind.u32.max (c:Int)=((4294967295 ^^^ c:Nat):Int):=hx0;have hc0:4294967295 ^^^ c < 4294967296:=xor_lt (by omega) hc;have HT:=hid hT;have HG:=hid hG;have HS:=hid h;have HLN:=hid hlen;have HZ:=hid hs;have HMX:=hid hmx;clear hT hG h hs hmx hx0 hlen;generalize hC0:4294967295 ^^^ c=C0 at *
 clear hC0;go_enter Tryz.func131,Tryz.ntmps131
 go_wp2
 go_loopw [0,13,8] (fun c i _ wr=>∃ k:Nat,∃ x:Nat,k≤n∧i=.int .i64 k∧c=.int .u32 x∧Hid (x=(l.take k).foldl crcByte C0)∧x < 4294967296∧wr=w) (fun _ i _ _=>n - (intOf i).toNat)
 case atStart=>exact ⟨0,C0,Nat.zero_le _,rfl,rfl,hid rfl,hc0,rfl⟩
 case round =>
  obtain ⟨k,x,hk,rfl,rfl,hxe,hx,rfl⟩:=hrel;by_cases hlt:k < n
  ·obtain ⟨b,o,rfl⟩:=HS.out.form (by omega);obtain ⟨y,hy,hcy⟩:=HS.out.get hlt;have hi0:(0:Int)≤(k:Int):=by omega
   have hi1:(k:Int) < ((n:Nat):Int):=by omega
   have hy8:=y.toNat_lt;have hq:=xor_lt8 (a:=x % 256) (b:=y.toNat) (by omega) (by omega);have hx1:bits .xor .u8 ((x:Int) % 256) (y.toNat:Int)=((x % 256 ^^^ y.toNat:Nat):Int):=u8_xor_nat (x % 256) y.toNat (by omega) (by omega);have hct:wr.cell? ⟨g,x % 256 ^^^ y.toNat,none⟩=some (.int .u32 (ctab (x % 256 ^^^ y.toNat))):=HG.out.cell (HT.out _ hq);have hx2:bits .xor .u32 ((ctab (x % 256 ^^^ y.toNat):Nat):Int) ((x:Int) / 256)=((crcByte x y:Nat):Int):=u32_xor_nat _ (x / 256) (csteps_lt (by omega) 8) (by omega)
   have hnx:Hid (crcByte x y=(l.take (k+1)).foldl crcByte C0):=hid (by rw [List.take_add_one,hy,List.foldl_append,← hxe.out];rfl);have hlx:=crcByte_lt hx y;clear hy;generalize hQ:x % 256 ^^^ y.toNat=q at *;have HQ:=hid hQ;clear hQ;generalize crcByte x y=x2 at *;generalize ctab q=tq at *;have hq1:(q:Int) < 256:=by omega
   go_wp2
   go_roundw
   case rel=>exact ⟨k+1,x2,by omega,by go_num,rfl,hnx,hlx,by first | rfl | trivial⟩
   case measure=>simp [intOf];omega
  ·have hkn:k=n:=by omega
   have hx3:bits .xor .u32 4294967295 (x:Int)=((4294967295 ^^^ x:Nat):Int):=u32_xor_nat 4294967295 x (by omega) hx;have hx3':bits .xor .u32 IntKind.u32.max (x:Int)=((4294967295 ^^^ x:Nat):Int):=hx3;have HR:Hid (4294967295 ^^^ x=4294967295 ^^^ l.foldl crcByte C0):=hid (by rw [hxe.out,List.take_of_length_le (by rw [HLN.out];omega)]);clear hkn hx3;generalize 4294967295 ^^^ x=x4 at *;go_wp2
   go_ret
   exact ⟨by rw [← HR.out];rfl,rfl⟩
def TabTo (w:World) (g k:Nat):Prop:=∃ (G:Array Value) (T:Nat),Blk w g G T∧G.size=256∧(∀ j,j < 256→∃ v,G[j]?=some v)∧∀ j,j < k→G[j]?=some (.int .u32 (ctab j))
set_option maxHeartbeats 2000000 in
theorem populate_any (g:Nat) (w:World) (G0:Array Value) (T:Nat) (hG:Blk w g G0 T) (hs:G0.size=256) :
  Calls Tryz.prog 133 #[.int .u32 2197175160,.pointer (some ⟨g,0,none⟩)] w fun e w'=>e=.returned (.tuple #[])∧IsTab w' g∧Fr (fun k=>k=g) w w':=by
 have hst:TabTo w g 0:=⟨G0,T,hG,hs,fun j hj=>⟨_,Array.getElem?_eq_getElem (by omega)⟩,fun j hj=>by omega⟩;have HST:=hid hst;clear hst hG hs;go_enter Tryz.func133,Tryz.ntmps133
 go_wp2
 go_loopw [4,5,6] (fun i _ _ wr=>∃ k:Nat,k≤256∧i=.int .i64 k∧Hid (TabTo wr g k)∧Hid (Fr (fun k=>k=g) w wr)) (fun i _ _ _=>256 - (intOf i).toNat)
 case atStart=>exact ⟨0,by omega,rfl,HST,hid (Fr.refl _ _)⟩
 case round =>
  obtain ⟨k,hk,rfl,HT,HF⟩:=hrel;by_cases hlt:k < 256
  ·have hi1:(k:Int) < 256:=by omega
   go_wp2
   obtain ⟨wo,hwo⟩:∃ wo:World,wo=wr:=⟨_,rfl⟩;subst hwo;go_loopw [5,6] (fun c i wr2=>∃ j:Nat,∃ x:Nat,j≤8∧i=.int .i64 j∧c=.int .u32 x∧x < 4294967296∧Hid (x=csteps j k)∧wr2=wo) (fun _ i _=>8 - (intOf i).toNat)
   case atStart=>exact ⟨0,k,by omega,rfl,rfl,by omega,hid rfl,rfl⟩
   case round =>
    obtain ⟨j,x,hj,rfl,rfl,hx,hxe,rfl⟩:=hrel;by_cases hlt2:j < 8
    ·have hi2:(j:Int) < 8:=by omega
     have hand:bits .and .u32 (x:Int) 1=((x % 2:Nat):Int):=by
      have:=u32_and_nat x 1 hx (by omega);rw [Nat.and_one_is_mod] at this;exact this
     have hlx:=cstep_lt hx;have hn:Hid (cstep x=csteps (j+1) k):=hid (by rw [hxe.out];rfl);by_cases ho:x % 2=1
     ·have ho':(((x % 2:Nat):Int) == 1)=true:=by rw [ho];rfl
      have hxo:bits .xor .u32 ((x:Int) / 2) 2197175160=((cstep x:Nat):Int):=by
       have:=u32_xor_nat (x / 2) 2197175160 (by omega) (by omega);unfold cstep;rw [if_pos ho];exact this
      clear ho;generalize cstep x=x2 at *;go_wp2
      go_roundw
      case rel=>exact ⟨j+1,x2,by omega,by go_num,rfl,hlx,hn,by first | rfl | trivial⟩
      case measure=>simp [intOf];omega
     ·have ho':(((x % 2:Nat):Int) == 1)=false:=by rw [beq_eq_false_iff_ne];omega
      have hxo:Hid (((x / 2:Nat))=cstep x):=hid (by unfold cstep;rw [if_neg ho]);clear ho;go_wp2
      go_roundw
      case rel=>exact ⟨j+1,cstep x,by omega,by go_num,by rw [← hxo.out];first | rfl | go_num,hlx,hn,by first | rfl | trivial⟩
      case measure=>simp [intOf];omega
    ·have hj8:j=8:=by omega
     have HX:Hid (x=ctab k):=hid (by rw [hxe.out,hj8];rfl);obtain ⟨G,T,hG,hs,hall,hdone⟩:=HT.out;obtain ⟨v0,hv0⟩:=hall k hlt;have hcell:=hG.cell hv0;have hfz:=hG.free k;have hnext:TabTo (wr.setCell ⟨g,k,none⟩ (.int .u32 x)) g (k+1):=by
      refine ⟨_,T,hG.set k _,by simpa using hs,fun j hj=>?_,fun j hj=>?_⟩
      ·by_cases e:j=k
       ·subst e;exact ⟨_,Array.getElem?_setIfInBounds_self_of_lt (by omega)⟩
       ·rw [Array.getElem?_setIfInBounds_ne (by omega)];exact hall j hj
      ·by_cases e:j=k
       ·subst e;rw [Array.getElem?_setIfInBounds_self_of_lt (by omega),HX.out]
       ·rw [Array.getElem?_setIfInBounds_ne (by omega)];exact hdone j (by omega)
     have hfr:Fr (fun k=>k=g) w (wr.setCell ⟨g,k,none⟩ (.int .u32 x)):=HF.out.setC g k _ rfl;have HN:=hid hnext;have HFR:=hid hfr;have hk0:(0:Int)≤(k:Int):=by omega
     clear hnext hfr hG hs hall hdone hv0 hj8;go_wp2
     go_roundw
     case rel=>exact ⟨k+1,by omega,by go_num,HN,HFR⟩
     case measure=>simp [intOf];omega
  ·have hkn:k=256:=by omega
   have HI:Hid (IsTab wr g):=hid (by obtain ⟨G,T,h1,h2,_,h4⟩:=HT.out;rw [hkn] at h4;exact ⟨G,T,h1,h2,h4⟩);clear hkn;go_wp2
   go_end0
   exact ⟨rfl,HI.out,HF.out⟩
theorem maketab_any (w:World):Calls Tryz.prog 132 #[.int .u32 2197175160] w fun e w'=>e=.returned (.pointer (some ⟨w.heap.size,0,none⟩))∧IsTab w' w.heap.size∧Fr (fun _=>False) w w':=by
 have hp:=populate_any w.heap.size (w.alloc (.cells Tryz.zeroCells267 267)) Tryz.zeroCells267 267 (Blk.new w _ _) (by kernel_rfl);have hf:Fr (fun _=>False) w (w.alloc (.cells Tryz.zeroCells267 267)):=(Fr.refl _ w).alloc _;go_enter Tryz.func132,Tryz.ntmps132
 go_wp2_with (go_at_call 133;refine hp.mono ?_)
 rintro e w1 ⟨rfl,h1,h2⟩;have H1:=hid h1;have H2:=hid (hf.trans h2 (S:=fun _=>False) (fun b hb h=>by omega));clear h1 h2 hp hf;go_wp2
 go_ret
 exact ⟨rfl,H1.out,H2.out⟩
theorem maketable_any (w:World):Calls Tryz.prog 129 #[.int .u32 2197175160] w fun e w'=>e=.returned (.pointer (some ⟨w.heap.size,0,none⟩))∧IsTab w' w.heap.size∧Fr (fun _=>False) w w':=by
 have hp:=maketab_any w;go_enter Tryz.func129,Tryz.ntmps129
 go_wp2_with (go_at_call 132;refine hp.mono ?_)
 rintro e w1 ⟨rfl,h1,h2⟩;have H1:=hid h1;have H2:=hid h2;clear h1 h2 hp;go_wp2
 go_ret
 exact ⟨rfl,H1.out,H2.out⟩
theorem newcrc_any (a:Option Addr) (n cp:Nat) (l:List UInt8) (w:World) (h:Sl w a n cp l) (hn:n≤4294967296) :
  Calls Tryz.prog 97 #[.slice a n cp] w fun e w'=>e=.returned (.int .u32 (crcRaw l))∧Fr (fun _=>False) w w':=by
 have h1:=maketable_any w;have h2:∀ (w1:World),Fr (fun _=>False) w w1→IsTab w1 w.heap.size→Calls Tryz.prog 131 #[.int .u32 0,.pointer (some ⟨w.heap.size,0,none⟩),.slice a n cp] w1 fun e w'=>e=.returned (.int .u32 (crcRaw l))∧w1=w' :=
  fun w1 hf hT=>update_any 0 (by omega) a n cp w.heap.size l w1 (h.fr hf (fun _ _ h=>h)) hT hn
 have H2:=hid h2;clear h2 h;generalize crcRaw l=R at *;go_enter Tryz.func97,Tryz.ntmps97
 go_wp2_with ((go_at_call 120;go_in))
 go_wp2_with (go_at_call 129;refine h1.mono ?_)
 rintro e w1 ⟨rfl,ht,hf⟩;have h3:=H2.out w1 hf ht;have HF:=hid hf;clear ht hf h1;go_wp2_with (first | (go_at_call 131;refine h3.mono ?_;rintro e w2 ⟨rfl,rfl⟩) | go_in)
 go_ret
 exact ⟨rfl,HF.out⟩
def crcMaskI (c:Nat):Int:=(bits .or .u32 ((c:Int) / 32768) ((c:Int)*131072 % 4294967296)+2726488792) % 4294967296
def crcOf (l:List UInt8):Nat:=(crcMaskI (crcRaw l)).toNat
theorem crcOf_lt (l:List UInt8):crcOf l < 4294967296:=by unfold crcOf crcMaskI;omega
theorem mask_any (c:Nat) (w:World) :
  Calls Tryz.prog 98 #[.int .u32 c] w fun e w'=>e=.returned (.int .u32 ((crcMaskI c).toNat:Nat))∧w=w':=by
 have hm:(((crcMaskI c).toNat:Nat):Int)=(bits .or .u32 ((c:Int) / 32768) ((c:Int)*131072 % 4294967296)+2726488792) % 4294967296:=by unfold crcMaskI;omega
 have HM:=hid hm;clear hm;go_enter Tryz.func98,Tryz.ntmps98
 go_wp2
 go_ret
 exact ⟨by rw [HM.out];rfl,rfl⟩
end
section
open Go Go.RowKit Go.Shelf
def hadd (x v:Nat):Nat:=(x+v) % 4294967296
def hmul (x:Nat):Nat:=x*3332679571 % 4294967296
def hx16 (x:Nat):Nat:=x ^^^ (x / 65536)
def hx24 (x:Nat):Nat:=x ^^^ (x / 16777216)
def hsh (k v:Nat):Nat:=v*2 ^ k
def hround (x v:Nat):Nat:=hx16 (hmul (hadd x v))
def htail:List UInt8→Nat→Nat
 | [a,b,c],x=>hx24 (hmul (hadd (hadd (hadd x (hsh 16 c.toNat)) (hsh 8 b.toNat)) a.toNat))
 | [a,b],x=>hx24 (hmul (hadd (hadd x (hsh 8 b.toNat)) a.toNat))
 | [a],x=>hx24 (hmul (hadd x a.toNat))
 | _,x=>x
def hloopG (f:Nat→Nat→Nat) (g:List UInt8→Nat→Nat):List UInt8→Nat→Nat
 | a :: b :: c :: d :: r,x=>hloopG f g r (f x (Lib.leNat [a,b,c,d]))
 | [a,b,c],x=>g [a,b,c] x
 | [a,b],x=>g [a,b] x
 | [a],x=>g [a] x
 | [],x=>g [] x
def hloop (l:List UInt8) (x:Nat):Nat:=hloopG hround htail l x
def hash (l:List UInt8) (s:Nat):Nat:=hloop l (s ^^^ hmul l.length)
theorem hadd_lt (x v:Nat):hadd x v < 4294967296:=Nat.mod_lt _ (by decide)
theorem hmul_lt (x:Nat):hmul x < 4294967296:=Nat.mod_lt _ (by decide)
theorem hx16_lt {x:Nat} (h:x < 4294967296):hx16 x < 4294967296:=xor_lt h (by omega)
theorem hx24_lt {x:Nat} (h:x < 4294967296):hx24 x < 4294967296:=xor_lt h (by omega)
theorem hround_lt (x v:Nat):hround x v < 4294967296:=hx16_lt (hmul_lt _)
theorem leNat_lt4 (a b c d:UInt8):Lib.leNat [a,b,c,d] < 4294967296:=by
 have:=a.toNat_lt;have:=b.toNat_lt;have:=c.toNat_lt;have:=d.toNat_lt;simp [Lib.leNat];omega
theorem hloopG_lt {f:Nat→Nat→Nat} {g:List UInt8→Nat→Nat} {B:Nat} (hf:∀ x v,f x v < B) (hg:∀ l x,x < B→g l x < B):∀ (l:List UInt8) (x:Nat),x < B→hloopG f g l x < B
 | a :: b :: c :: d :: r,x,_=>by rw [hloopG];exact hloopG_lt hf hg r _ (hf _ _)
 | [a,b,c],x,h=>by rw [hloopG];exact hg _ _ h
 | [a,b],x,h=>by rw [hloopG];exact hg _ _ h
 | [a],x,h=>by rw [hloopG];exact hg _ _ h
 | [],x,h=>by rw [hloopG];exact hg _ _ h
theorem htail_lt (l:List UInt8) (x:Nat) (h:x < 4294967296):htail l x < 4294967296:=by
 unfold htail;split
 ·exact hx24_lt (hmul_lt _)
 ·exact hx24_lt (hmul_lt _)
 ·exact hx24_lt (hmul_lt _)
 ·exact h
theorem hloop_lt (l:List UInt8) (x:Nat) (h:x < 4294967296):hloop l x < 4294967296:=hloopG_lt hround_lt htail_lt l x h
theorem hash_lt (l:List UInt8) {s:Nat} (h:s < 4294967296):hash l s < 4294967296:=hloop_lt _ _ (xor_lt h (hmul_lt _))
theorem hloop_step {l:List UInt8} {k n x:Nat} (hn:l.length=n) (h:k+4≤n):hloop (l.drop k) x=hloop (l.drop (k+4)) (hround x (Lib.leNat ((l.drop k).take 4))):=by
 obtain ⟨a,b,c,d,r,e⟩:∃ a b c d r,l.drop k=a :: b :: c :: d :: r:=by
  have hl:(l.drop k).length=n - k:=by simp [hn]
  match hh:l.drop k,hl with
  | [],h'=>simp at h';omega
  | [_],h'=>simp at h';omega
  | [_,_],h'=>simp at h';omega
  | [_,_,_],h'=>simp at h';omega
  | a :: b :: c :: d :: r,_=>exact ⟨a,b,c,d,r,rfl⟩
 have e4:l.drop (k+4)=r:=by rw [← List.drop_drop,e];rfl
 rw [e,e4,hloop,hloop,hloopG];rfl
set_option maxHeartbeats 4000000 in
theorem hash_any (s:Nat) (hs:s < 4294967296) (a:Option Addr) (n c:Nat) (l:List UInt8) (w:World) (h:Sl w a n c l) (hn:n≤4294967295) :
  Calls Tryz.prog 187 #[.slice a n c,.int .u32 s] w fun e w'=>e=.returned (.int .u32 (hash l s))∧Below w.heap.size w w':=by
 have hlen:=h.len;have hc:=h.cap;have hx0:bits .xor .u32 (s:Int) ((hmul n:Nat):Int)=((s ^^^ hmul n:Nat):Int):=u32_xor_nat s _ hs (hmul_lt _);have hm0:IntKind.u32.wrap ((n:Int)*3332679571)=((hmul n:Nat):Int):=by
  have:IntKind.u32.wrap ((n:Int)*3332679571)=((n:Int)*3332679571) % 4294967296:=by rfl
  rw [this];unfold hmul;omega
 have hl0:s ^^^ hmul n < 4294967296:=xor_lt hs (hmul_lt _);have HE:Hid (hash l s=hloop l (s ^^^ hmul n)):=hid (by unfold hash;rw [hlen]);have ht:Int.tmod (n:Int) 4=((n % 4:Nat):Int):=by rw [Int.tmod_eq_emod_of_nonneg (by omega)];omega
 have hw4:IntKind.i64.wrap ((n:Int) - ((n % 4:Nat):Int))=((n - n % 4:Nat):Int):=by
  have:((n:Int) - ((n % 4:Nat):Int))=((n - n % 4:Nat):Int):=by omega
  rw [this];exact IntWalk.i64_in _ (by omega)
 have hw4':IntKind.i64.wrap ((n % 4:Nat):Int)=((n % 4:Nat):Int):=IntWalk.i64_in _ (by omega);generalize hX0:s ^^^ hmul n=x0 at *;generalize hash l s=HH at *;have HX0:=hid hX0;have HS:=hid h;have HLN:=hid hlen;obtain ⟨N4,hN4⟩:∃ N4,N4=n - n % 4:=⟨_,rfl⟩;rw [← hN4] at hw4;clear h hlen hX0;generalize hmul n=mn at *;go_enter Tryz.func187,Tryz.ntmps187
 have hn4i:((n:Int) - (n:Int) % 4)=(N4:Int):=by omega
 have hN4n:N4≤n:=by omega
 have hr4:n - N4 < 4:=by omega
 have hN44:N4 % 4=0:=by omega
 have HN4I:=hid hn4i;have HN4:=hid hN4;clear hn4i hN4 hw4 hw4' ht;go_wp2
 simp only [HN4I.out];clear HN4I HN4 hx0 hm0;go_loopw [6,5] (fun i x wr=>∃ k y:Nat,k≤N4∧k % 4=0∧i=.int .i64 k∧x=.int .u32 y∧y < 4294967296∧Hid (hloop (l.drop k) y=HH)∧Hid (Below w.heap.size w wr)) (fun i _ _=>N4 - (intOf i).toNat)
 case atStart=>exact ⟨0,x0,by omega,rfl,rfl,rfl,hl0,hid (by rw [HE.out];rfl),hid (Below.refl _ _)⟩
 case round =>
  obtain ⟨k,y,hk,hk4,rfl,rfl,hy,HH1,HB⟩:=hrel;have HSR:=hid (HS.out.fr (S:=fun _=>False) (Fr.of_below HB.out) (fun _ _ h=>h));by_cases hlt:k < N4
  ·have hi1:(k:Int) < ((N4:Nat):Int):=by omega
   have hsl:∀ w',(Instr.slice 29 (.slice a n c) (some (.int .i64 k)) none none).run Tryz.prog w'=.ok (.slice (cutA a c k) (n - k) (c - k)) w':=fun w'=>run_slice_lo (P:=Tryz.prog) 29 5 un29 sz5 .i64 a n c k (by omega) w'
   have hu:=fun j=>uint32_any (cutA a c k) (n - k) (c - k) (l.drop k) (wr.drewN j) ((HSR.out.cut (lo:=k) (by omega)).fr (S:=fun _=>False) ((Fr.refl _ wr).drewN j) (fun _ _ h=>h)) (by omega)
   have hst:=hloop_step (x:=y) HLN.out (show k+4≤n by omega);have hv4:Lib.leNat ((l.drop k).take 4) < 4294967296:=by
    have h4:((l.drop k).take 4).length=4:=by have:=HLN.out;simp;omega
    match hq:(l.drop k).take 4,h4 with
    | [a,b,c,d],_=>exact leNat_lt4 a b c d
   generalize Lib.leNat ((l.drop k).take 4)=v at *;have e1:IntKind.u32.wrap ((y:Int)+(v:Int))=((hadd y v:Nat):Int):=by
    have:IntKind.u32.wrap ((y:Int)+(v:Int))=((y:Int)+(v:Int)) % 4294967296:=by rfl
    rw [this];unfold hadd;omega
   have e2:IntKind.u32.wrap (((hadd y v:Nat):Int)*3332679571)=((hmul (hadd y v):Nat):Int):=by
    have:IntKind.u32.wrap (((hadd y v:Nat):Int)*3332679571)=(((hadd y v:Nat):Int)*3332679571) % 4294967296:=by rfl
    rw [this];unfold hmul;omega
   have e3:bits .xor .u32 ((hmul (hadd y v):Nat):Int) (((hmul (hadd y v):Nat):Int) / 65536)=((hround y v:Nat):Int):=u32_xor_nat _ (hmul (hadd y v) / 65536) (hmul_lt _) (by have:=hmul_lt (hadd y v);omega);have hy3:=hround_lt y v;have hya:=hadd_lt y v;have hym:=hmul_lt (hadd y v);have HST:Hid (hloop (l.drop (k+4)) (hround y v)=HH):=hid (by rw [← hst];exact HH1.out);clear hst;generalize hround y v=y3 at *
   generalize hmul (hadd y v)=y2 at *;generalize hadd y v=y1 at *;go_wp2_with fail
   refine Pos.start (fun _=>True) 7 (by kernel_rfl) ?_;have hS:(fun _:World=>True) (wr.drewN 1):=trivial;iterate 5
    refine' Pos.takeK hS rfl (by kernel_rfl) (fun _ _ _ h=>h) (by rfl) ?_ ?_;rotate_left
    ·intro W hW;obtain _:=hW;go_simp;try with_reducible rfl
    intro K hK;go_simp;refine hK _ ?_;clear hK K
   refine Pos.eff rfl (by kernel_rfl) ?_;go_wp2_with (go_at_call 101;refine (hu _).mono ?_;rintro e w2 ⟨rfl,hbe⟩)
   have HBE:Hid (Below w.heap.size w w2):=hid (HB.out.trans ⟨hbe.os,hbe.tape,hbe.output,hbe.size,fun k hk=>hbe.block k (Nat.lt_of_lt_of_le hk HB.out.size)⟩);clear hbe hS;refine ⟨trivial,?_⟩;have hS:(fun _:World=>True) w2:=trivial;iterate 1
    refine' Pos.takeK hS rfl (by kernel_rfl) (fun _ _ _ h=>h) (by rfl) ?_ ?_;rotate_left
    ·intro W hW;obtain _:=hW;go_simp;try with_reducible rfl
    intro K hK;go_simp;refine hK _ ?_;clear hK K
   refine Pos.tail (by kernel_rfl) (by decide) ?_;simp only [List.drop_succ_cons,List.drop_zero];go_wp2
   go_roundw
   case rel=>exact ⟨k+4,y3,by omega,by omega,by go_num,rfl,hy3,HST,HBE⟩
   case measure=>simp [intOf];omega
  ·have hkk:k=N4:=by omega
   subst hkk;have hdl:(l.drop k).length=n - k:=by have:=HLN.out;simp;omega
   have hend:=HH1.out;have hm:=fun x:Nat=>show IntKind.u32.wrap ((x:Int)*3332679571)=((hmul x:Nat):Int) from by
    have:IntKind.u32.wrap ((x:Int)*3332679571)=((x:Int)*3332679571) % 4294967296:=by rfl
    rw [this];unfold hmul;omega
   have ha:=fun x v:Nat=>show IntKind.u32.wrap ((x:Int)+(v:Int))=((hadd x v:Nat):Int) from by
    have:IntKind.u32.wrap ((x:Int)+(v:Int))=((x:Int)+(v:Int)) % 4294967296:=by rfl
    rw [this];unfold hadd;omega
   have hx:=fun x:Nat=>fun h:x < 4294967296=>show bits .xor .u32 ((x:Nat):Int) (((x:Nat):Int) / 16777216)=((hx24 x:Nat):Int) from u32_xor_nat _ (x / 16777216) h (by omega)
   have hi0:decide ((k:Int) < (k:Int))=false:=by simp
   match hq:l.drop k,hdl with
   | [],hdl =>
    have hkn:k=n:=by simp at hdl;omega
    subst hkn;rw [hq] at hend;have hy2:y=HH:=hend;subst hy2;go_wp2
    go_ret
    exact ⟨rfl,HB.out⟩
   | [b0],hdl =>
    simp only [List.length_cons,List.length_nil] at hdl;have hnk:n=k+1:=by omega
    subst hnk;have hw:IntKind.i64.wrap (((k+1:Nat):Int) - (k:Int))=1:=by rw [show (((k+1:Nat):Int) - (k:Int))=1 by omega];rfl
    have hb:∀ j,l[k+j]?=[b0][j]?:=fun j=>by rw [← hq,List.getElem?_drop]
    obtain ⟨b,o,rfl⟩:=HSR.out.form (by omega);obtain ⟨x0',hx0',hc0⟩:=HSR.out.get (j:=k) (by omega);rw [show k=k+0 from rfl,hb 0] at hx0';obtain rfl:b0=x0':=by simpa using hx0'
    have h80:=b0.toNat_lt;have ha0:=ha y b0.toNat;have hl0:=hadd_lt y b0.toNat;rw [hq] at hend;have hy2:hx24 (hmul (hadd y b0.toNat))=HH:=hend;have hm1:=hm (hadd y b0.toNat);have hxx:=hx _ (hmul_lt (hadd y b0.toNat));rw [hy2] at hxx;have hym:=hmul_lt (hadd y b0.toNat);generalize hmul (hadd y b0.toNat)=ym at *;generalize (hadd y b0.toNat)=y0g at *;have hk0:(0:Int)≤(k:Int):=by omega
    clear ha hm hx hb hdl hq hend;go_wp2
    go_ret
    exact ⟨rfl,HB.out⟩
   | [b0,b1],hdl =>
    simp only [List.length_cons,List.length_nil] at hdl;have hnk:n=k+2:=by omega
    subst hnk;have hw:IntKind.i64.wrap (((k+2:Nat):Int) - (k:Int))=2:=by rw [show (((k+2:Nat):Int) - (k:Int))=2 by omega];rfl
    have hb:∀ j,l[k+j]?=[b0,b1][j]?:=fun j=>by rw [← hq,List.getElem?_drop]
    obtain ⟨b,o,rfl⟩:=HSR.out.form (by omega);obtain ⟨x0',hx0',hc0⟩:=HSR.out.get (j:=k) (by omega);rw [show k=k+0 from rfl,hb 0] at hx0';obtain rfl:b0=x0':=by simpa using hx0'
    have h80:=b0.toNat_lt;obtain ⟨x1',hx1',hc1⟩:=HSR.out.get (j:=k+1) (by omega);rw [hb 1] at hx1';obtain rfl:b1=x1':=by simpa using hx1'
    have h81:=b1.toNat_lt;have ha1:IntKind.u32.wrap ((y:Int)+(b1.toNat:Int)*256)=(((hadd y (hsh 8 b1.toNat)):Nat):Int):=by
     rw [← ha];unfold hsh;congr 1 <;> omega
    have hs1:IntKind.u32.wrap ((b1.toNat:Int)*256)=(b1.toNat:Int)*256:=IntWalk.u32_in _ (by omega);have hl1:=hadd_lt y (hsh 8 b1.toNat);have ha0:=ha (hadd y (hsh 8 b1.toNat)) b0.toNat;have hl0:=hadd_lt (hadd y (hsh 8 b1.toNat)) b0.toNat;rw [hq] at hend;have hy2:hx24 (hmul (hadd (hadd y (hsh 8 b1.toNat)) b0.toNat))=HH:=hend;have hm1:=hm (hadd (hadd y (hsh 8 b1.toNat)) b0.toNat);have hxx:=hx _ (hmul_lt (hadd (hadd y (hsh 8 b1.toNat)) b0.toNat))
    rw [hy2] at hxx;have hym:=hmul_lt (hadd (hadd y (hsh 8 b1.toNat)) b0.toNat);generalize hmul (hadd (hadd y (hsh 8 b1.toNat)) b0.toNat)=ym at *;generalize (hadd (hadd y (hsh 8 b1.toNat)) b0.toNat)=y1g at *;generalize (hadd y (hsh 8 b1.toNat))=y0g at *;have hk0:(0:Int)≤(k:Int):=by omega
    clear ha hm hx hb hdl hq hend;go_wp2
    go_ret
    exact ⟨rfl,HB.out⟩
   | [b0,b1,b2],hdl =>
    simp only [List.length_cons,List.length_nil] at hdl;have hnk:n=k+3:=by omega
    subst hnk;have hw:IntKind.i64.wrap (((k+3:Nat):Int) - (k:Int))=3:=by rw [show (((k+3:Nat):Int) - (k:Int))=3 by omega];rfl
    have hb:∀ j,l[k+j]?=[b0,b1,b2][j]?:=fun j=>by rw [← hq,List.getElem?_drop]
    obtain ⟨b,o,rfl⟩:=HSR.out.form (by omega);obtain ⟨x0',hx0',hc0⟩:=HSR.out.get (j:=k) (by omega);rw [show k=k+0 from rfl,hb 0] at hx0';obtain rfl:b0=x0':=by simpa using hx0'
    have h80:=b0.toNat_lt;obtain ⟨x1',hx1',hc1⟩:=HSR.out.get (j:=k+1) (by omega);rw [hb 1] at hx1';obtain rfl:b1=x1':=by simpa using hx1'
    have h81:=b1.toNat_lt;obtain ⟨x2',hx2',hc2⟩:=HSR.out.get (j:=k+2) (by omega);rw [hb 2] at hx2';obtain rfl:b2=x2':=by simpa using hx2'
    have h82:=b2.toNat_lt;have ha2:IntKind.u32.wrap ((y:Int)+(b2.toNat:Int)*65536)=(((hadd y (hsh 16 b2.toNat)):Nat):Int):=by
     rw [← ha];unfold hsh;congr 1 <;> omega
    have hs2:IntKind.u32.wrap ((b2.toNat:Int)*65536)=(b2.toNat:Int)*65536:=IntWalk.u32_in _ (by omega);have hl2:=hadd_lt y (hsh 16 b2.toNat);have ha1:IntKind.u32.wrap (((hadd y (hsh 16 b2.toNat)):Int)+(b1.toNat:Int)*256)=(((hadd (hadd y (hsh 16 b2.toNat)) (hsh 8 b1.toNat)):Nat):Int):=by
     rw [← ha];unfold hsh;congr 1 <;> omega
    have hs1:IntKind.u32.wrap ((b1.toNat:Int)*256)=(b1.toNat:Int)*256:=IntWalk.u32_in _ (by omega);have hl1:=hadd_lt (hadd y (hsh 16 b2.toNat)) (hsh 8 b1.toNat);have ha0:=ha (hadd (hadd y (hsh 16 b2.toNat)) (hsh 8 b1.toNat)) b0.toNat;have hl0:=hadd_lt (hadd (hadd y (hsh 16 b2.toNat)) (hsh 8 b1.toNat)) b0.toNat;rw [hq] at hend;have hy2:hx24 (hmul (hadd (hadd (hadd y (hsh 16 b2.toNat)) (hsh 8 b1.toNat)) b0.toNat))=HH:=hend
    have hm1:=hm (hadd (hadd (hadd y (hsh 16 b2.toNat)) (hsh 8 b1.toNat)) b0.toNat);have hxx:=hx _ (hmul_lt (hadd (hadd (hadd y (hsh 16 b2.toNat)) (hsh 8 b1.toNat)) b0.toNat));rw [hy2] at hxx;have hym:=hmul_lt (hadd (hadd (hadd y (hsh 16 b2.toNat)) (hsh 8 b1.toNat)) b0.toNat);generalize hmul (hadd (hadd (hadd y (hsh 16 b2.toNat)) (hsh 8 b1.toNat)) b0.toNat)=ym at *;generalize (hadd (hadd (hadd y (hsh 16 b2.toNat)) (hsh 8 b1.toNat)) b0.toNat)=y2g at *
    generalize (hadd (hadd y (hsh 16 b2.toNat)) (hsh 8 b1.toNat))=y1g at *;generalize (hadd y (hsh 16 b2.toNat))=y0g at *;have hk0:(0:Int)≤(k:Int):=by omega
    clear ha hm hx hb hdl hq hend;go_wp2
    go_ret
    exact ⟨rfl,HB.out⟩
   | b0 :: b1 :: b2 :: b3 :: r,hdl=>exact absurd hdl (by simp;omega)
end
section
open Go Go.RowKit Go.Shelf
def bhash (l:List UInt8):Nat:=hash l 3164544308
theorem bhash_lt (l:List UInt8):bhash l < 4294967296:=hash_lt l (by decide)
theorem bhash_any (a:Option Addr) (n c:Nat) (l:List UInt8) (w:World) (h:Sl w a n c l) (hn:n≤4294967295) :
  Calls Tryz.prog 186 #[.slice a n c] w fun e w'=>e=.returned (.int .u32 (bhash l))∧Below w.heap.size w w':=by
 have hc:=hash_any 3164544308 (by decide) a n c l w h hn;go_enter Tryz.func186,Tryz.ntmps186
 go_wp2_with (go_at_call 187;refine hc.mono ?_;rintro e w1 ⟨rfl,hb⟩)
 go_ret
 exact ⟨rfl,hb⟩
def bk (n:Nat):Nat:=if n*69 / 100 < 1 then 1 else n*69 / 100
theorem bk_le {n:Nat} (h:n≤20):bk n≤13∧1≤bk n:=by unfold bk;split <;> omega
structure Gen (w:World) (g n:Nat) (hs:List Nat) (v:Value):Prop where
 blk:Blk w g #[.int .i64 n,.int .u8 (bk n),v] 293
 own:w.ownsRow 0 201 1 v hs.length (rv hs)
 ne:v.ownBlock≠some g
theorem newgen_any (n:Nat) (w:World) (h1:1≤n) (hn:n≤20) :
  Calls Tryz.prog 185 #[.int .i64 n] w fun e w'=>e=.returned (.iface 291 (.pointer (some ⟨w.heap.size,0,none⟩)))∧w'=w.alloc (.cells #[.int .i64 n,.int .u8 (bk n),.slice none 0 0] 293):=by
 have hw:IntKind.i64.wrap ((n:Int)*69)=(n:Int)*69:=IntWalk.i64_in _ (by omega);have hq:Int.tdiv ((n:Int)*69) 100=((n*69 / 100:Nat):Int):=by rw [Int.tdiv_eq_ediv_of_nonneg (by omega)];omega
 have hw2:IntKind.i64.wrap ((n*69 / 100:Nat):Int)=((n*69 / 100:Nat):Int):=IntWalk.i64_in _ (by omega);have hw3:IntKind.u8.wrap ((n*69 / 100:Nat):Int)=((n*69 / 100:Nat):Int):=IntWalk.u8_in _ (by omega);by_cases hl:n*69 / 100 < 1
 ·have hbk:bk n=1:=by unfold bk;rw [if_pos hl]
  have h0:n*69 / 100=0:=by omega
  rw [hbk];rw [h0] at hq hw2 hw3;clear hl h0;go_enter Tryz.func185,Tryz.ntmps185
  go_wp2
  go_ret
  exact ⟨rfl,rfl⟩
 ·have hbk:bk n=n*69 / 100:=by unfold bk;rw [if_neg hl]
  have hk:n*69 / 100≤13:=by omega
  rw [hbk];generalize n*69 / 100=k at *;have hd1:decide ((k:Int) < 1)=false:=by simp;omega
  have hd2:decide ((30:Int) < (k:Int))=false:=by simp;omega
  go_enter Tryz.func185,Tryz.ntmps185
  go_wp2
  go_ret
  exact ⟨rfl,rfl⟩
def GenTo (g n:Nat) (v:Value) (hs':List Nat) (w w':World):Prop :=
 ∃ v',Gen w' g n hs' v'∧Fr (fun k=>k=g∨v.ownBlock=some k) w w'∧(∀ k,v'.ownBlock=some k→v.ownBlock=some k∨w.heap.size≤k)
set_option maxHeartbeats 1000000 in
theorem gadd_any (g n:Nat) (hs:List Nat) (v:Value) (a:Option Addr) (m c:Nat) (l:List UInt8) (w:World) (h:Gen w g n hs v) (hl:Sl w a m c l) (hm:m≤4294967295) (hlim:hs.length≤4294967295) :
  Calls Tryz.prog 224 #[.pointer (some ⟨g,0,none⟩),.slice a m c] w fun e w'=>e=.returned (.tuple #[])∧GenTo g n v (hs++[bhash l]) w w':=by
 have hB:=h.blk;have hlt:=hB.lt;have h2:=hB.cell (k:=2) rfl;have hc:=fun k=>bhash_any a m c l (w.drewN k) (hl.fr (S:=fun _=>False) ((Fr.refl _ w).drewN k) (fun _ _ h=>h)) hm
 have hbl:=bhash_lt l;have HG:=hid h;clear h;generalize bhash l=x at *;go_enter Tryz.func224,Tryz.ntmps224
 go_wp2_with fail
 refine Pos.start (fun W=>W.cell? ⟨g,2,none⟩=some v) 9 (by kernel_rfl) ?_;have hS:(fun W:World=>W.cell? ⟨g,2,none⟩=some v) (w.drewN 1):=h2;iterate 6
  refine' Pos.takeK hS rfl (by kernel_rfl) (fun _ _ _ h=>h) (by rfl) ?_ ?_;rotate_left
  ·intro W hW;obtain s1:=hW;go_simp;try with_reducible rfl
  intro K hK;go_simp;refine hK _ ?_;clear hK K
 refine Pos.eff rfl (by kernel_rfl) ?_;go_wp2_with (go_at_call 186;refine (hc _).mono ?_;rintro e w2 ⟨rfl,hbe⟩)
 clear hS;have hf2:Fr (fun k=>k=g∨v.ownBlock=some k) w w2:=⟨hbe.os,hbe.tape,hbe.output,hbe.size,fun k hk _=>hbe.block k hk⟩;have hS:(fun W:World=>W.cell? ⟨g,2,none⟩=some v) w2:=(hbe.cell (p:=⟨g,2,none⟩) (by exact hlt)).trans h2;refine ⟨hS,?_⟩;refine Pos.eff rfl (by kernel_rfl) ?_;go_wp2
 have hf3:Fr (fun k=>k=g∨v.ownBlock=some k) w (w2.alloc (.cells #[.int .u32 x] 201)):=hf2.alloc _;have hown3:(w2.alloc (.cells #[.int .u32 x] 201)).ownsRow 0 201 1 v hs.length (rv hs):=by
  have hb3:Below w.heap.size w (w2.alloc (.cells #[.int .u32 x] 201)):=⟨hf3.os,hf3.tape,hf3.output,hf3.size,fun k hk=>(Below.heap_alloc w2 _ k (Nat.lt_of_lt_of_le hk hbe.size)).trans (hbe.block k hk)⟩;exact own_fr HG.out.own (Fr.of_below (S:=fun _=>False) hb3) (fun _ _ h=>h)
 have hB3:Blk (w2.alloc (.cells #[.int .u32 x] 201)) g #[.int .i64 n,.int .u8 (bk n),v] 293:=by
  have hb2:Blk w2 g #[.int .i64 n,.int .u8 (bk n),v] 293:=(hbe.block g hlt).trans hB;exact hb2.alloc _
 have hnew:=news_new [.int .u32 x] _ (Blk.new w2 #[.int .u32 x] 201);have hsz2:w.heap.size≤w2.heap.size:=hbe.size;have hS3:(w2.alloc (.cells #[.int .u32 x] 201)).cell? ⟨g,2,none⟩=some v:=hB3.cell rfl;have HF3:=hid hf3;have HB3:=hid hB3;clear hS hf2 hbe hf3 hB3;refine ⟨hS3,?_⟩;refine Pos.eff rfl (by kernel_rfl) ?_;refine wpList_app rfl _ _ 105 rfl 201 (.int .u32 0) 1 4 un105 info201 rfl (by omega) v hs.length (rv hs) rfl (by exact hown3) (some ⟨w2.heap.size,0,none⟩) 1 1 [.int .u32 x] rfl rfl (by simp) (by exact hnew) (by simp [Value.oneCell']) (by unfold maxLen;omega) (by omega) ?_
 intro v3 w3 hown4 hgrow hlies;have hB4:Blk w3 g #[.int .i64 n,.int .u8 (bk n),v] 293:=(hgrow.block g (by have:=HB3.out.lt;exact this) (fun e=>HG.out.ne e.symm)).trans HB3.out;have hz4:=hB4.cell (k:=2) rfl;have hfz4:=hB4.free 2;have hng:v3.ownBlock≠some g:=fun e=>by
  rcases hlies with h | h
  ·exact HG.out.ne (h.symm.trans e)
  ·rw [e] at h;simp at h;omega
 have hend:GenTo g n v (hs++[x]) w (w3.setCell ⟨g,2,none⟩ v3):=by
  have hfr4:Fr (fun k=>k=g∨v.ownBlock=some k) w w3:=HF3.out.grown hgrow (fun k hk _=>.inr hk);refine ⟨v3,⟨by have:=hB4.set 2 v3;simpa using this,?_,hng⟩,hfr4.setC g 2 _ (.inl rfl),fun k hk=>?_⟩
  ·rw [rv_append,List.length_append];exact own_fr hown4 ((Fr.refl (fun k=>k=g) w3).setC g 2 _ rfl) (fun k hk e=>hng (e ▸ hk))
  ·rcases hlies with h | h
   ·exact .inl (h.symm.trans hk)
   ·rw [hk] at h;have h':k=w2.heap.size+1:=by simpa using h
    exact .inr (by omega)
 have HE:=hid hend;obtain ⟨a3,c3,rfl,hc3,hc3m,hc3n⟩:=own_form hown4;clear hown4 hc3n;refine ⟨hz4,?_⟩;refine Pos.tail (by kernel_rfl) (by decide) ?_;simp only [List.drop_succ_cons,List.drop_zero];clear hgrow hlies hend;go_wp2
 go_end0
 exact ⟨rfl,HE.out⟩
end
section
open Go Go.RowKit Go.Shelf
def bdel (h:Nat):Nat:=(h / 131072) ||| (h*32768 % 4294967296)
def bpl (h j:Nat):Nat:=(h+j*bdel h) % 4294967296
def bitAt (f:List UInt8) (p:Nat):Prop:=∃ y:UInt8,f[p / 8]?=some y∧y.toNat.testBit (p % 8)=true
def bIn (f:List UInt8) (m k h:Nat):Prop:=∀ j,j < k→bitAt f (bpl h j % (8*m))
theorem bdel_lt {h:Nat} (hh:h < 4294967296):bdel h < 4294967296:=Nat.or_lt_two_pow (n:=32) (by omega) (by omega)
theorem bpl_lt (h j:Nat):bpl h j < 4294967296:=Nat.mod_lt _ (by decide)
theorem bpl_zero {h:Nat} (hh:h < 4294967296):bpl h 0=h:=by unfold bpl;omega
theorem bpl_succ (h j:Nat):bpl h (j+1)=(bpl h j+bdel h) % 4294967296:=by
 unfold bpl;rw [Nat.add_mul,Nat.one_mul,← Nat.add_assoc];omega
def CRes (f:List UInt8) (m k x:Nat) (w:World) (e:Ending) (w':World):Prop:=∃ r,e=.returned (.bool r)∧(bIn f m k x→r=true)∧Below w.heap.size w w'
set_option maxHeartbeats 4000000 in
theorem contains_any (n0:Nat) (a:Option Addr) (m c:Nat) (f:List UInt8) (ka:Option Addr) (kn kc:Nat) (key:List UInt8) (k:Nat) (w:World) (h:Sl w a (m+1) c f) (hk:Sl w ka kn kc key) (hkn:kn≤4294967295)
  (hm:1≤m) (hm2:m≤268435456) (hlast:∃ y:UInt8,f[m]?=some y∧y.toNat=k) (hk30:k≤30) :
  Calls Tryz.prog 183 #[.int .i64 n0,.slice a (m+1) c,.slice ka kn kc] w fun e w'=>CRes f m k (bhash key) w e w':=by
 obtain ⟨b,o,rfl⟩:=h.form (by omega);obtain ⟨yl,hyl,hyk⟩:=hlast;obtain ⟨yl',hyl',hcl⟩:=h.get (j:=m) (by omega);have hyy:yl=yl':=Option.some.inj (hyl.symm.trans hyl');subst hyy;rw [hyk] at hcl;have hlen:=h.len;have hw1:IntKind.i64.wrap ((((m+1:Nat):Int)) - 1)=(m:Int):=by rw [show ((((m+1:Nat):Int)) - 1)=(m:Int) by omega];exact IntWalk.i64_in _ (by omega)
 have hd1:decide ((m:Int) < 1)=false:=by simp;omega
 have hd2:decide ((30:Int) < (k:Int))=false:=by simp;omega
 have hlt1:(m:Int) < ((m+1:Nat):Int):=by omega
 have hc:=bhash_any ka kn kc key w hk hkn;have hbl:=bhash_lt key;have hpl0:=bpl_zero (bhash_lt key);have HS:=hid h;have HP0:=hid hpl0;obtain ⟨N,hN⟩:∃ N,N=8*m:=⟨_,rfl⟩;have hwN:IntKind.i64.wrap ((m:Int)*8)=(N:Int):=by rw [show ((m:Int)*8)=(N:Int) by omega];exact IntWalk.i64_in _ (by omega)
 have hwN2:IntKind.u32.wrap (N:Int)=(N:Int):=IntWalk.u32_in _ (by omega);have hdel:=bdel_lt (bhash_lt key);have hor:bits .or .u32 ((bhash key:Nat) / 131072:Int) ((bhash key:Nat)*32768 % 4294967296:Int)=((bdel (bhash key):Nat):Int):=u32_or_nat (bhash key / 131072) (bhash key*32768 % 4294967296) (by omega) (by omega);have hsucc:=bpl_succ (bhash key);have HSU:=hid hsucc;clear h hk hyl hyl' hyk hpl0 hsucc hlen
 generalize bhash key=x0 at *;generalize hD:bdel x0=d at *;have HD:=hid hD;clear hD;go_enter Tryz.func183,Tryz.ntmps183
 go_wp2_with (go_at_call 186;refine hc.mono ?_;rintro e w1 ⟨rfl,hbe⟩)
 have hNi:(8*(m:Int))=(N:Int):=by omega
 simp only [hNi];have HBE:=hid hbe;have hN8:8≤N:=by omega
 have HNN:=hid hN;have HC:=hid hc;have HHC:Hid (∀ j:Nat,True):=hid (fun _=>trivial);clear hNi hbe hc hor hwN hwN2 hN hw1 hd1 hd2;go_loopw [12,10] (fun j x wr=>∃ i y:Nat,i≤k∧j=.int .u8 i∧x=.int .u32 y∧Hid (y=(x0+i*d) % 4294967296)∧wr=w1) (fun j _ _=>k - (intOf j).toNat)
 case atStart=>exact ⟨0,x0,Nat.zero_le _,rfl,rfl,hid (by omega),rfl⟩
 case round =>
  obtain ⟨i,y,hi,rfl,rfl,HY,rfl⟩:=hrel;have hy:y < 4294967296:=by rw [HY.out];omega
  by_cases hlt:i < k
  ·have hi1:(i:Int) < (k:Int):=by omega
   have hq1:Int.tmod (y:Int) (N:Int)=((y % N:Nat):Int):=by rw [Int.tmod_eq_emod_of_nonneg (by omega)];omega
   have hne:((N:Int) == 0)=false:=by rw [beq_eq_false_iff_ne];omega
   have hqN:y % N < N:=Nat.mod_lt _ (by omega);have hqm:y % N / 8 < m:=by have:=HNN.out;omega
   have hqi:(y:Int) % (N:Int) / 8 < ((m+1:Nat):Int):=by omega
   obtain ⟨yb,hyb,hcb⟩:=(HS.out.fr (S:=fun _=>False) (Fr.of_below HBE.out) (fun _ _ h=>h)).get (j:=y % N / 8) (by omega);have h8b:=yb.toNat_lt;have HYB:=hid hyb;clear hyb;go_wp2
   ·rename_i hz
    go_ret
    refine ⟨false,rfl,fun hin=>?_,HBE.out⟩;exfalso
    obtain ⟨y2,hy2,ht⟩:=hin i hlt;have hbp:bpl x0 i=y:=by unfold bpl;rw [HD.out,HY.out]
    rw [hbp,← HNN.out] at hy2 ht;rw [HYB.out] at hy2;obtain rfl:=Option.some.inj hy2;have hr8:y % N % 8 < 8:=Nat.mod_lt _ (by decide);generalize y % N % 8=r at *;have hp:(2:Nat) ^ r≤128:=by
     have:(2:Nat) ^ r≤2 ^ 7:=Nat.pow_le_pow_right (by decide) (by omega);simpa using this
    have he:((2:Int) ^ r % 4294967296)=((2 ^ r:Nat):Int):=by
     have:((2 ^ r:Nat):Int)=(2:Int) ^ r:=by simp
     rw [← this];generalize 2 ^ r=P at *;omega
    rw [he,u32_and_nat _ _ (by omega) (by omega)] at hz;have h0:yb.toNat &&& 2 ^ r=0:=by simpa using hz
    have h1:(yb.toNat &&& 2 ^ r).testBit r=true:=by rw [Nat.testBit_and,ht,Nat.testBit_two_pow_self];rfl
    rw [h0] at h1;simp at h1
   ·go_roundw
    case rel =>
     refine ⟨i+1,(y+d) % 4294967296,by omega,by go_num,by go_num,hid ?_,by first | rfl | trivial⟩;rw [HY.out,Nat.add_mul,Nat.one_mul,← Nat.add_assoc];omega
    case measure=>simp [intOf];omega
  ·have hi1:¬ ((i:Int) < (k:Int)):=by omega
   go_wp2
   go_ret
   exact ⟨true,rfl,fun _=>rfl,HBE.out⟩
end
end Go.Proofs.YtmkdpjicgjhhjaaGreatDoor
