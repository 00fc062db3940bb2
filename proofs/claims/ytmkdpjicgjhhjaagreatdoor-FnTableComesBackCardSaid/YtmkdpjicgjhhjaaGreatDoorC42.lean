/- Part 42 of the proof of FnTableComesBack: contracts and lemmas, each under the conditions that it states. Texts: L4, L5, L6, L7, RNw, L8. -/
import Derived.Test.YtmkdpjicgjhhjaaGreatDoorC41
import Derived.Test.YtmkdpjicgjhhjaaGreatDoorC29
import Derived.Test.YtmkdpjicgjhhjaaGreatDoorC34
import Derived.Lib.BufferRead
import Derived.Laws.IdiomStrings
namespace Go.Proofs.YtmkdpjicgjhhjaaGreatDoor
open Go.Lib (hid)
set_option maxRecDepth 100000
set_option linter.all false
section
open Go Go.RowKit Go.Shelf
theorem flat_get:∀ (rs:List (Value × Value)) (i:Nat) (r:Value × Value),rs[i]?=some r→(rs.flatMap fun r=>[r.1,r.2])[i*2]?=some r.1∧(rs.flatMap fun r=>[r.1,r.2])[i*2+1]?=some r.2
 | [],i,r,h=>by simp at h
 | x :: rs,0,r,h=>by simp at h;subst h;simp
 | x :: rs,i+1,r,h=>by
  have:=flat_get rs i r (by simpa using h);simp only [List.flatMap_cons];rw [show (i+1)*2=i*2+2 by omega];exact this
def KV2 (B:Nat) (w:World) (r:Value × Value) (ev:KV):Prop:=∃ k1 n1 c1 k2 n2 c2,r=(.slice k1 n1 c1,.slice k2 n2 c2)∧Key B w k1 n1 c1 ev.1∧Key B w k2 n2 c2 ev.2
theorem KV2.below {B:Nat} {w w':World} {r:Value × Value} {ev:KV} (h:KV2 B w r ev) (hb:Below B w w'):KV2 B w' r ev:=by
 obtain ⟨k1,n1,c1,k2,n2,c2,h1,h2,h3⟩:=h;exact ⟨k1,n1,c1,k2,n2,c2,h1,h2.below hb,h3.below hb⟩
theorem KV2.up {B B':Nat} {w:World} {r:Value × Value} {ev:KV} (h:KV2 B w r ev) (hB:B≤B'):KV2 B' w r ev:=by
 obtain ⟨k1,n1,c1,k2,n2,c2,h1,h2,h3⟩:=h;exact ⟨k1,n1,c1,k2,n2,c2,h1,h2.up hB,h3.up hB⟩
theorem pairs_of_row {w:World} {e:Nat} {v:Value} {rs:List (Value × Value)} {l:List KV} (hl:rs.length=l.length) (ho:w.ownsRow 0 e 2 v l.length (rs.flatMap fun r=>[r.1,r.2])) (hk:∀ (i:Nat) (r:Value × Value) (ev:KV),rs[i]?=some r→l[i]?=some ev→KV2 w.heap.size w r ev) :
  ∃ a c,v=.slice a l.length c∧Pairs w.heap.size w a l.length c l:=by
 obtain ⟨a,c,hv,hcap,hm,hn⟩:=own_form ho;subst hv;refine ⟨a,c,rfl,rfl,hcap,fun i ev hev=>?_⟩;have hil:=lt_of_some hev;obtain ⟨r,hr⟩:∃ r,rs[i]?=some r:=⟨_,List.getElem?_eq_getElem (by omega)⟩;obtain ⟨k1,n1,c1,k2,n2,c2,h1,h2,h3⟩:=hk i r ev hr hev;subst h1;obtain ⟨f1,f2⟩:=flat_get rs i _ hr;have ho2:=ho;obtain ⟨_,⟨e1,e2⟩ | ⟨g,cap,cur,e1,_⟩⟩:=ho2
 ·exfalso;omega
 ·cases e1
  have hg:=own_lt ho (k:=g) rfl;refine ⟨g,0,k1,n1,c1,k2,n2,c2,rfl,hg,?_,?_,h2,h3⟩
  ·rw [Nat.zero_add,World.ownsRow.cellAt ho (i*2) (by omega)];exact f1
  ·rw [Nat.zero_add,World.ownsRow.cellAt ho (i*2+1) (by omega)];exact f2
theorem own_key {w:World} {a:Option Addr} {c:Nat} {l:Bs} (h:w.ownsRow 0 5 1 (.slice a l.length c) l.length (bv l)):Key w.heap.size w a l.length c l :=
 ⟨own_sl h,fun g p e _=>own_lt h (k:=g) (by
  obtain ⟨_,⟨e1,e2⟩ | ⟨g',cap,cur,e1,_⟩⟩:=h
  ·simp only [Value.slice.injEq] at e1;rw [e1.1] at e;cases e
  ·simp only [Value.slice.injEq] at e1;rw [e1.1] at e;cases e
   rw [e1.1];rfl)⟩
theorem pairs_of_at {S:Nat→Prop} {w:World} {v:Value} {l:List KV} {rs:List (Value × Value)} (h:PairsAt S w v l rs):∃ a c,v=.slice a l.length c∧Pairs w.heap.size w a l.length c l :=
 pairs_of_row h.len h.own (fun i r ev h1 h2=>by
  obtain ⟨ka,kc,va,vc,e1,e2,o1,o2,_⟩:=h.at' i r ev h1 h2;refine ⟨ka,_,kc,va,_,vc,?_,own_key (by rw [e1] at o1;exact o1),own_key (by rw [e2] at o2;exact o2)⟩;rw [← e1,← e2])
theorem un36:Tryz.prog.underlying 36=some (.slice 88):=by kernel_rfl
theorem un86:Tryz.prog.underlying 86=some (.slice 88):=by kernel_rfl
theorem info88:(Tryz.prog.info? 88).map (fun i=>(i.zero,i.size,i.bytes))=some (some (.agg #[.slice none 0 0,.slice none 0 0]),2,48):=by kernel_rfl
def MkR (B:Nat) (w0:World) (l:List KV) (v:Value) (w:World):Prop :=
 ∃ rs:List (Value × Value),rs.length=l.length∧w.ownsRow 0 88 2 v l.length (rs.flatMap fun r=>[r.1,r.2])∧(∀ (i:Nat) (r:Value × Value) (ev:KV),rs[i]?=some r→l[i]?=some ev→KV2 B w r ev)∧Below B w0 w∧∀ g,v.ownBlock=some g→B≤g
theorem MkR.nil (B:Nat) (w:World):MkR B w [] (.slice none 0 0) w:=⟨[],rfl,World.ownsRow_nil w 0 88 2,fun i r ev h=>by simp at h,Below.refl _ _,fun g e=>(nomatch e)⟩
theorem MkR.below {B:Nat} {w0 w w':World} {l:List KV} {v:Value} (h:MkR B w0 l v w) (hb:Below w.heap.size w w') (hB:B≤w.heap.size):MkR B w0 l v w':=by
 obtain ⟨rs,h1,h2,h3,h4,h5⟩:=h;exact ⟨rs,h1,own_same h2 (fun g e=>hb.block g (own_lt h2 e)),fun i r ev g1 g2=>(h3 i r ev g1 g2).below (hb.mono hB),h4.trans (hb.mono hB),h5⟩
theorem MkR.app {B:Nat} {w0 w:World} {l:List KV} {v x y:Value} {ev:KV} (h:MkR B w0 l v w) (hB:B≤w.heap.size) (hk:KV2 B w (x,y) ev):∃ rs:List (Value × Value),(w.alloc (.cells #[x,y] 88)).ownsRow 0 88 2 v l.length (rs.flatMap fun r=>[r.1,r.2]) ∧
  ∀ v8 w8,w8.ownsRow 0 88 2 v8 (l.length+1) ((rs.flatMap fun r=>[r.1,r.2])++[x,y])→(w.alloc (.cells #[x,y] 88)).grownBy w8 v.ownBlock→Lies (w.alloc (.cells #[x,y] 88)) v v8→MkR B w0 (l++[ev]) v8 w8:=by
 obtain ⟨rs,h1,h2,h3,h4,h5⟩:=h;have hb3:Below w.heap.size w (w.alloc (.cells #[x,y] 88)):=(Below.refl _ _).alloc (Nat.le_refl _) _;have hs3:(w.alloc (.cells #[x,y] 88)).heap.size=w.heap.size+1:=by simp
 generalize (w.alloc (.cells #[x,y] 88))=w3 at *;refine ⟨rs,own_same h2 (fun g e=>hb3.block g (own_lt h2 e)),fun v8 w8 g1 g2 g3=>?_⟩;have hbl:Below B w w8:=(hb3.mono hB).trans ⟨g2.os,g2.tape,g2.output,g2.size,fun k hk=>g2.block k (by omega) (fun e=>by have:=h5 k e.symm;omega)⟩;refine ⟨rs++[(x,y)],by simp [h1],by rw [List.length_append,List.flatMap_append];simpa using g1,fun i r ev' e1 e2=>?_,h4.trans hbl,fun g hg=>?_⟩
 ·by_cases hi:i < l.length
  ·rw [List.getElem?_append_left (by rw [h1];exact hi)] at e1;rw [List.getElem?_append_left hi] at e2;exact (h3 i r ev' e1 e2).below hbl
  ·have h6:=lt_of_some e2;rw [List.length_append,List.length_singleton] at h6;have:i=l.length:=by omega
   subst this;rw [List.getElem?_append_right (by rw [h1];exact Nat.le_refl _),h1] at e1;rw [List.getElem?_append_right (Nat.le_refl _)] at e2;simp at e1 e2;subst e1 e2;exact hk.below hbl
 ·rcases g3 with e | e
  ·exact h5 g (e.symm.trans hg)
  ·rw [hg] at e;have:g=w3.heap.size:=by simpa using e
   omega
theorem MkR.pairs {B:Nat} {w0 w:World} {l:List KV} {v:Value} (h:MkR B w0 l v w) (hB:B≤w.heap.size):∃ a c,v=.slice a l.length c∧Pairs w.heap.size w a l.length c l:=by
 obtain ⟨rs,h1,h2,h3,h4,h5⟩:=h;exact pairs_of_row h1 h2 (fun i r ev g1 g2=>(h3 i r ev g1 g2).up hB)
set_option maxHeartbeats 4000000 in
theorem pairs_any (w:World) (a:Option Addr) (n c:Nat) (l:List KV) (hP:Pairs w.heap.size w a n c l) (hn:n≤2147483647):Calls Tryz.prog 12 #[.slice a n c] w fun e w'=>∃ a' c',e=.returned (.slice a' n c')∧Pairs w'.heap.size w' a' n c' l∧Below w.heap.size w w':=by
 have HP:=hid hP;have hlen:=hP.len;clear hP;go_enter Tryz.func12,Tryz.ntmps12
 go_wp2_with fail
 go_loopw [8,3] (fun i v wr=>∃ j:Nat,i=.int .i64 j∧j≤n∧Hid (MkR w.heap.size w (l.take j) v wr)) (fun i _ _=>n - (intOf i).toNat)
 case atStart=>exact ⟨0,rfl,Nat.zero_le _,hid (MkR.nil _ _)⟩
 case round =>
  obtain ⟨j,rfl,hj,hr⟩:=hrel;by_cases hlt:j < n
  ·obtain ⟨ev,hev⟩:∃ ev,l[j]?=some ev:=⟨_,List.getElem?_eq_getElem (by rw [hlen];exact hlt)⟩;obtain ⟨g,o,k1,n1,c1,k2,n2,c2,rfl,hgB,hq0,hq1,hk1,hk2⟩:=HP.out.at' j ev hev;have hbr:Below w.heap.size w wr:=by obtain ⟨_,_,_,_,q,_⟩:=hr.out;exact q
   have hc:∀ j,wr.cell? ⟨g,j,none⟩=w.cell? ⟨g,j,none⟩:=fun j=>World.cell?_of_block (a:=⟨g,j,none⟩) (hbr.block g hgB)
   rw [← hc] at hq0 hq1;obtain ⟨wb,hwb⟩:∃ wb,wb=wr.alloc (.cells #[.slice k1 n1 c1,.slice k2 n2 c2] 40):=⟨_,rfl⟩;have hbb:Below wr.heap.size wr wb:=by rw [hwb];exact (Below.refl _ _).alloc (Nat.le_refl _) _
   have hmk:=hr.out.below hbb hbr.size;have hsz:=hbb.size;have hbs:=hbr.size;obtain ⟨rs,hown,happ⟩:=hmk.app (x:=.slice k1 n1 c1) (y:=.slice k2 n2 c2) (ev:=ev) (by omega) ⟨k1,n1,c1,k2,n2,c2,rfl,hk1.below (hbr.trans (hbb.mono hbr.size)),hk2.below (hbr.trans (hbb.mono hbr.size))⟩;have hlt2:(l.take j).length=j:=by rw [List.length_take];omega
   rw [hlt2] at hown happ;have htk:l.take (j+1)=l.take j++[ev]:=by rw [List.take_add_one,hev];rfl
   rw [← htk] at happ;have HOWN:=hid hown;have HAPP:=hid happ;have HWB:=hid hwb;clear hwb hbb hmk hown happ hk1 hk2 hev hr hc hbr htk hlt2 hsz hbs;go_upto_region 5 with fail
   rw [← HWB.out];have hz0:wb.cell? ⟨wr.heap.size,0,none⟩=some (.slice k1 n1 c1):=by rw [HWB.out];exact (Blk.new wr _ _).cell (k:=0) rfl
   have hz1:wb.cell? ⟨wr.heap.size,1,none⟩=some (.slice k2 n2 c2):=by rw [HWB.out];exact (Blk.new wr _ _).cell (k:=1) rfl
   clear HWB;go_wp2_with (at_builtin;go_must (refine wpList_app rfl _ _ 36 rfl 88 (.agg #[.slice none 0 0,.slice none 0 0]) 2 48 un36 info88 rfl (by omega) u3 j (rs.flatMap fun r=>[r.1,r.2]) rfl (by exact HOWN.out) (some ⟨wb.heap.size,0,none⟩) 1 1 [.slice k1 n1 c1,.slice k2 n2 c2] rfl rfl (fun e=>by cases e) (by exact news_new [.slice k1 n1 c1,.slice k2 n2 c2] _ (Blk.new wb _ _)) (by simp [Value.oneCell']) (by unfold maxLen;omega) (by omega) ?_);go_must (intro v9 w9 hown9 hgrow9 hlies9);go_must (have HY:=hid (HAPP.out v9 w9 hown9 hgrow9 hlies9));go_must (clear hown9 hgrow9 hlies9))
   go_roundw
   case rel=>exact ⟨j+1,by go_num,hlt,HY⟩
   case measure=>simp [intOf];omega
  ·have hjn:j=n:=by omega
   have hm:MkR w.heap.size w l u3 wr:=by have:=hr.out;rwa [List.take_of_length_le (by omega)] at this
   have hbr:Below w.heap.size w wr:=by obtain ⟨_,_,_,_,q,_⟩:=hm;exact q
   obtain ⟨a',c',hv,hp⟩:=hm.pairs hbr.size;rw [hlen] at hp hv;have HF:=hid (show Pairs wr.heap.size wr a' n c' l∧Below w.heap.size w wr from ⟨hp,hbr⟩);subst hjn;clear hr hm hbr hp;subst hv;go_wp2
   go_ret
   exact ⟨_,_,rfl,HF.out⟩
end
section
open Go Go.RowKit Go.Shelf
def cmpI:Bs→Bs→Int
 | x :: a,y :: b=>if x=y then cmpI a b else (x.toNat:Int) - y.toNat
 | a,b=>(a.length:Int) - b.length
theorem cmpI_at:∀ (i:Nat) (a b:Bs),(∀ j,j < i→a[j]?=b[j]?)→i≤a.length→i≤b.length→cmpI a b=cmpI (a.drop i) (b.drop i)
 | 0,a,b,_,_,_=>by simp
 | i+1,[],b,_,h,_=>by simp at h
 | i+1,x :: a,[],_,_,h=>by simp at h
 | i+1,x :: a,y :: b,hj,h1,h2=>by
  have h0:=hj 0 (by omega);simp at h0;subst h0;rw [cmpI,if_pos rfl,cmpI_at i a b (fun j hji=>by have:=hj (j+1) (by omega);simpa using this) (by simpa using h1) (by simpa using h2)];rfl
theorem cmpI_ne {a b:Bs} {i:Nat} {x y:UInt8} (hj:∀ j,j < i→a[j]?=b[j]?) (h1:a[i]?=some x) (h2:b[i]?=some y) (hne:x≠y):cmpI a b=(x.toNat:Int) - y.toNat:=by
 have l1:=lt_of_some h1;have l2:=lt_of_some h2;rw [cmpI_at i a b hj (by omega) (by omega)];have e1:a.drop i=x :: a.drop (i+1):=by rw [List.drop_eq_getElem_cons l1];congr 1;exact (List.getElem?_eq_some_iff.1 h1).2
 have e2:b.drop i=y :: b.drop (i+1):=by rw [List.drop_eq_getElem_cons l2];congr 1;exact (List.getElem?_eq_some_iff.1 h2).2
 rw [e1,e2,cmpI,if_neg hne]
theorem cmpI_end {a b:Bs} {i:Nat} (hj:∀ j,j < i→a[j]?=b[j]?) (h1:i≤a.length) (h2:i≤b.length) (h:i=a.length∨i=b.length):cmpI a b=(a.length:Int) - b.length:=by
 rw [cmpI_at i a b hj h1 h2];have hl:∀ a b:Bs,(a=[]∨b=[])→cmpI a b=(a.length:Int) - b.length:=fun a b h=>by
  cases a with
  | nil=>cases b <;> rfl
  | cons x a=>cases b with
   | nil=>rfl
   | cons y b=>rcases h with h | h <;> cases h
 rw [hl _ _ (h.imp (fun e=>by rw [e,List.drop_length]) (fun e=>by rw [e,List.drop_length])),List.length_drop,List.length_drop];omega
theorem cmpI_sign:∀ a b:Bs,(cmpI a b < 0↔Lib.compareBytes a b=-1)∧(cmpI a b=0↔Lib.compareBytes a b=0)
 | [],[]=>by simp [cmpI,Lib.compareBytes]
 | [],y :: b=>by simp [cmpI,Lib.compareBytes];omega
 | x :: a,[]=>by simp [cmpI,Lib.compareBytes];omega
 | x :: a,y :: b=>by
  have ih:=cmpI_sign a b;rw [cmpI];by_cases h:x=y
  ·subst h;rw [if_pos rfl];have:Lib.compareBytes (x :: a) (x :: b)=Lib.compareBytes a b:=by simp [Lib.compareBytes]
   rw [this];exact ih
  ·rw [if_neg h];have hne:x.toNat≠y.toNat:=fun e=>h (UInt8.toNat_inj.1 e)
   rcases Nat.lt_or_ge x.toNat y.toNat with hl | hl
   ·have:Lib.compareBytes (x :: a) (y :: b)=-1:=by
     have h3:x < y:=hl;simp [Lib.compareBytes,h3]
    rw [this];constructor <;> constructor <;> intro h' <;> omega
   ·have:Lib.compareBytes (x :: a) (y :: b)=1:=by
     have h3:y < x:=by show y.toNat < x.toNat;omega
     have h4:¬ x < y:=fun h5=>by have h6:x.toNat < y.toNat:=h5;omega
     simp [Lib.compareBytes,h3,h4]
    rw [this];constructor <;> constructor <;> intro h' <;> omega
set_option maxHeartbeats 4000000 in
theorem lcmp_any (w:World) (a b:Option Addr) (n1 c1 n2 c2:Nat) (l1 l2:Bs) (h1:Sl w a n1 c1 l1) (h2:Sl w b n2 c2 l2):Calls Tryz.prog 34 #[.slice a n1 c1,.slice b n2 c2] w fun e w'=>e=.returned (.int .i64 (cmpI l1 l2))∧Below w.heap.size w w':=by
 have hl1:=h1.len;have hl2:=h2.len;have hm1:n1≤9223372036854775807:=by have:=h1.cap;have:=h1.max;unfold maxLen at *;omega
 have hm2:n2≤9223372036854775807:=by have:=h2.cap;have:=h2.max;unfold maxLen at *;omega
 have H1:=hid h1;have H2:=hid h2;have HL:=hid (show l1.length=n1∧l2.length=n2 from ⟨hl1,hl2⟩);clear h1 h2 hl1 hl2;go_enter Tryz.func34,Tryz.ntmps34
 go_wp2_with fail
 go_loopw [5] (fun v wr=>∃ i:Nat,v=.int .i64 i∧i≤n1∧i≤n2∧Hid (∀ j,j < i→l1[j]?=l2[j]?)∧∃ k,wr=w.drewN k) (fun v _=>n1 - (intOf v).toNat)
 case atStart=>exact ⟨0,rfl,Nat.zero_le _,Nat.zero_le _,hid (fun j h=>by omega),0,rfl⟩
 case round =>
  obtain ⟨i,rfl,hi1,hi2,hj,k,rfl⟩:=hrel;by_cases h1:i < n1
  ·by_cases h2:i < n2
   ·obtain ⟨p,o,rfl⟩:=H1.out.form (by omega);obtain ⟨q,o2,rfl⟩:=H2.out.form (by omega);obtain ⟨x,hx,hcx⟩:=H1.out.get h1;obtain ⟨y,hy,hcy⟩:=H2.out.get h2;have hi3:(i:Int) < (n1:Int):=by omega
    have hi4:(i:Int) < (n2:Int):=by omega
    have HX:=hid (show l1[i]?=some x∧l2[i]?=some y from ⟨hx,hy⟩);clear hx hy;by_cases hxy:x=y
    ·have hbn:((x.toNat:Int) != (y.toNat:Int))=false:=by rw [hxy];simp
     have hbe:((x.toNat:Int) == (y.toNat:Int))=true:=by rw [hxy];simp
     have hpn:Hid (∀ j,j < i+1→l1[j]?=l2[j]?):=hid fun j hj'=>by
      by_cases e:j=i
      ·subst e;rw [HX.out.1,HX.out.2,hxy]
      ·exact hj.out j (by omega)
     clear hxy;go_wp2
     go_quiet (fail)
     go_wp2
     go_roundw
     case rel=>exact ⟨i+1,by go_num,by omega,by omega,hpn,_,rfl⟩
     case measure=>simp [intOf];omega
    ·have hnn:¬ x.toNat=y.toNat:=fun e=>hxy (UInt8.toNat_inj.1 e)
     have hbn:((x.toNat:Int) != (y.toNat:Int))=true:=by simp;omega
     have hbe:((x.toNat:Int) == (y.toNat:Int))=false:=by rw [beq_eq_false_iff_ne];omega
     have hR:Hid (cmpI l1 l2=(x.toNat:Int) - y.toNat):=hid (cmpI_ne hj.out HX.out.1 HX.out.2 hxy);have hx8:=x.toNat_lt;have hy8:=y.toNat_lt;clear hxy hnn;go_wp2
     go_quiet (fail)
     go_wp2
     go_quiet (fail)
     go_wp2
     go_ret
     rw [hR.out];exact ⟨rfl,(Below.drewN' w.heap.size w _).trans ((Below.drewN' w.heap.size _ _).trans (Below.drewN' w.heap.size _ _))⟩
   ·have hR:Hid (cmpI l1 l2=(n1:Int) - n2):=hid (by rw [cmpI_end hj.out (by rw [HL.out.1];exact hi1) (by rw [HL.out.2];exact hi2) (.inr (by rw [HL.out.2];omega)),HL.out.1,HL.out.2]);clear hj;go_wp2
    go_ret
    rw [hR.out];exact ⟨rfl,Below.drewN' _ _ _⟩
  ·have hR:Hid (cmpI l1 l2=(n1:Int) - n2):=hid (by rw [cmpI_end hj.out (by rw [HL.out.1];exact hi1) (by rw [HL.out.2];exact hi2) (.inl (by rw [HL.out.1];omega)),HL.out.1,HL.out.2]);clear hj;go_wp2
   go_ret
   rw [hR.out];exact ⟨rfl,Below.drewN' _ _ _⟩
end
section
open Go Go.RowKit Go.Shelf
def RetB (P:Prop) (w:World) (e:Ending) (w':World):Prop:=∃ b,e=.returned (.bool b)∧(b=true→P)∧Below w.heap.size w w'
theorem rising_of {l:List KV} (h:∀ j,j+1 < l.length→∀ a b:KV,l[j]?=some a→l[j+1]?=some b→Lib.compareBytes a.1 b.1=-1):Rising l:=fun i j a b hij ha hb=>by
 induction j generalizing b with
 | zero=>omega
 | succ j ih =>
  have hl:=lt_of_some hb;have hj:l[j]?=some l[j]:=List.getElem?_eq_getElem (by omega);have h1:=h j hl _ _ hj hb;rcases Nat.eq_or_lt_of_le (show i≤j by omega) with e | e
  ·subst e;rw [hj] at ha;cases ha
   exact h1
  ·exact cmp_trans (ih _ e hj) h1
theorem Pairs.get {B:Nat} {w:World} {a:Option Addr} {n c:Nat} {l:List KV} (h:Pairs B w a n c l) (hB:B≤w.heap.size) {i:Nat} {e:KV} (he:l[i]?=some e):∃ g o k1 n1 c1 k2 n2 c2,a=some ⟨g,o,none⟩∧w.cell? ⟨g,o+i*2,none⟩=some (.slice k1 n1 c1)∧w.cell? ⟨g,o+i*2+1,none⟩=some (.slice k2 n2 c2)∧Sl w k1 n1 c1 e.1∧Sl w k2 n2 c2 e.2:=by
 obtain ⟨g,o,k1,n1,c1,k2,n2,c2,h1,_,h2,h3,h4,h5⟩:=h.at' i e he;exact ⟨g,o,k1,n1,c1,k2,n2,c2,h1,h2,h3,h4.sl,h5.sl⟩
theorem Pairs.up {B B':Nat} {w:World} {a:Option Addr} {n c:Nat} {l:List KV} (h:Pairs B w a n c l) (hB:B≤B'):Pairs B' w a n c l :=
 ⟨h.len,h.cap,fun i e he=>by
  obtain ⟨g,o,k1,n1,c1,k2,n2,c2,h1,h2,h3,h4,h5,h6⟩:=h.at' i e he;exact ⟨g,o,k1,n1,c1,k2,n2,c2,h1,Nat.lt_of_lt_of_le h2 hB,h3,h4,h5.up hB,h6.up hB⟩⟩
set_option maxHeartbeats 4000000 in
theorem ordered_any (w:World) (a:Option Addr) (n c:Nat) (l:List KV) (hP:Pairs w.heap.size w a n c l) (hn:n≤2147483647):Calls Tryz.prog 16 #[.slice a n c] w (RetB (Rising l) w):=by
 have HP:=hid hP;have hlen:=hP.len;clear hP;go_enter Tryz.func16,Tryz.ntmps16
 go_wp2_with fail
 go_loopw [3] (fun i wr=>∃ J:Nat,i=.int .i64 J∧1≤J∧J≤n+1∧Hid ((∀ k,k+1 < J→∀ a b:KV,l[k]?=some a→l[k+1]?=some b→Lib.compareBytes a.1 b.1=-1)∧Below w.heap.size w wr)) (fun i _=>n+1 - (intOf i).toNat)
 case atStart=>exact ⟨1,rfl,Nat.le_refl _,by omega,hid ⟨fun k h=>by omega,Below.refl _ _⟩⟩
 case round =>
  obtain ⟨J,rfl,hj1,hj,hr⟩:=hrel;by_cases hlt:J < n
  ·obtain ⟨j,hjJ⟩:∃ j,J=j+1:=⟨J - 1,by omega⟩;obtain ⟨e1,he1⟩:∃ ev,l[j]?=some ev:=⟨_,List.getElem?_eq_getElem (by rw [hlen];omega)⟩;obtain ⟨e2,he2⟩:∃ ev,l[J]?=some ev:=⟨_,List.getElem?_eq_getElem (by rw [hlen];omega)⟩;have hP:=HP.out.below hr.out.2;obtain ⟨g,o,k1,n1,c1,_,_,_,rfl,hq1,_,hk1,_⟩:=hP.get hr.out.2.size he1;obtain ⟨g2,o2,k2,n2,c2,_,_,_,hgg,hq2,_,hk2,_⟩:=hP.get hr.out.2.size he2;cases hgg
   have hcmp:=lcmp_any (wr.drewN 1) k1 k2 n1 c1 n2 c2 e1.1 e2.1 (hk1.drewN 1) (hk2.drewN 1);have hi1:(J:Int) < (n:Int):=by omega
   have hi2:(j:Int) < (n:Int):=by omega
   have hj2:j < n:=by omega
   have hwj:IntKind.i64.wrap ((J:Int) - 1)=(j:Int):=by rw [show (J:Int) - 1=(j:Int) by omega];exact IntWalk.i64_in _ (by omega)
   have HE:=hid (show l[j]?=some e1∧l[J]?=some e2∧J=j+1 from ⟨he1,he2,hjJ⟩);clear he1 he2 hk1 hk2 hP hjJ;go_upto_region 4 with fail
   refine wp_tail 11 (by kernel_rfl) ?_;simp only [List.take_succ_cons,List.take_zero,List.drop_succ_cons,List.drop_zero];repeat still_step
   refine wpStill_nil ?_;go_wp2_with fail
   refine hcmp.mono ?_;rintro e w2 ⟨rfl,hb2⟩;have hb2':Below w.heap.size w w2:=(hr.out.2.trans (Below.drewN' _ wr 1)).trans (hb2.mono hr.out.2.size);have hsg:=cmpI_sign e1.1 e2.1;clear hcmp hb2;generalize cmpI e1.1 e2.1=z at *;by_cases hz:z < 0
   ·have HN:Hid ((∀ k,k+1 < J+1→∀ a b:KV,l[k]?=some a→l[k+1]?=some b→Lib.compareBytes a.1 b.1=-1)∧Below w.heap.size w w2):=hid ⟨fun k hk a b ha hb=>by
     by_cases e:k+1 < J
     ·exact hr.out.1 k e a b ha hb
     ·obtain ⟨y1,y2,y3⟩:=HE.out;have:k=j:=by omega
      subst this;rw [y1] at ha;rw [← y3,y2] at hb;cases ha
      cases hb
      exact hsg.1.1 hz,hb2'⟩
    have hz2:¬ (0:Int)≤z:=by omega
    clear hr hsg hb2';try dsimp only
    go_wp2_with fail
    go_roundw
    case rel=>exact ⟨J+1,by go_num,by omega,by omega,HN⟩
    case measure=>simp [intOf];omega
   ·have hz2:(0:Int)≤z:=by omega
    have HF:=hid hb2';clear hr hsg hb2';try dsimp only
    go_wp2
    go_ret
    exact ⟨false,rfl,fun h=>(nomatch h),HF.out⟩
  ·have HF:Hid (Rising l∧Below w.heap.size w wr):=hid ⟨rising_of (fun k hk a b ha hb=>hr.out.1 k (by omega) a b ha hb),hr.out.2⟩;have hge:(n:Int)≤(J:Int):=by omega
   clear hr;go_wp2
   go_ret
   exact ⟨true,rfl,fun _=>HF.out.1,HF.out.2⟩
end
section
open Go Go.RowKit Go.Shelf
theorem sidx_eq {l:List KV} {t:Bs} {i:Nat} (h1:∀ (k:Nat) (e:KV),k < i→l[k]?=some e→Lib.compareBytes e.1 t=-1) (h2:i=l.length∨∃ e:KV,l[i]?=some e∧Lib.compareBytes e.1 t≠-1):sidx l t=i:=by
 rcases Nat.lt_trichotomy (sidx l t) i with h | h | h
 ·exfalso
  have hi:i≤l.length:=by
   rcases h2 with e | ⟨e,he,_⟩
   ·omega
   ·exact Nat.le_of_lt (lt_of_some he)
  have h3:l[sidx l t]?=some l[sidx l t]:=List.getElem?_eq_getElem (by omega);have h4:=h1 _ _ h h3;have h5:=sidx_ge h3;omega
 ·exact h
 ·exfalso
  rcases h2 with e | ⟨e,he,hne⟩
  ·have:=sidx_le l t;omega
  ·exact hne (sidx_lt h he)
def isAt (l:List KV) (t:Bs):Bool:=match l[sidx l t]? with
 | some e=>decide (e.1=t)
 | none=>false
theorem cmpI_eq0 (a b:Bs):(cmpI a b == 0)=decide (a=b):=by
 have h:=(cmpI_sign a b).2;by_cases e:a=b
 ·subst e;rw [decide_eq_true rfl,beq_iff_eq];exact h.2 (cmp_self a)
 ·rw [decide_eq_false e,beq_eq_false_iff_ne];exact fun e'=>e (cmp_eq0 (h.1 e'))
set_option maxHeartbeats 8000000 in
theorem mapAt_any (w:World) (a:Option Addr) (n c:Nat) (l:List KV) (hP:Pairs w.heap.size w a n c l) (hn:n≤2147483647) (ka:Option Addr) (kn kc:Nat) (tk:Bs) (hk:Key w.heap.size w ka kn kc tk):Calls Tryz.prog 80 #[.slice a n c,.slice ka kn kc] w fun e w'=>e=.returned (.tuple #[.int .i64 (sidx l tk),.bool (isAt l tk)])∧Below w.heap.size w w':=by
 have HP:=hid hP;have HK:=hid hk;have hlen:=hP.len;clear hP hk;go_enter Tryz.func80,Tryz.ntmps80
 go_wp2_with fail
 go_loopw [6] (fun v wr=>∃ i:Nat,v=.int .i64 i∧i≤n∧Hid ((∀ (k:Nat) (e:KV),k < i→l[k]?=some e→Lib.compareBytes e.1 tk=-1)∧Below w.heap.size w wr)) (fun v _=>n - (intOf v).toNat)
 case atStart=>exact ⟨0,rfl,Nat.zero_le _,hid ⟨fun k e h=>by omega,Below.refl _ _⟩⟩
 case round =>
  obtain ⟨i,rfl,hi,hr⟩:=hrel;by_cases hlt:i < n
  ·obtain ⟨ev,hev⟩:∃ ev,l[i]?=some ev:=⟨_,List.getElem?_eq_getElem (by rw [hlen];exact hlt)⟩;have hP:=HP.out.below hr.out.2;obtain ⟨g,o,k1,n1,c1,_,_,_,rfl,hq1,_,hk1,_⟩:=hP.get hr.out.2.size hev;have hcmp:=lcmp_any wr k1 ka n1 c1 kn kc ev.1 tk hk1 (HK.out.below hr.out.2).sl;have hsg:=cmpI_sign ev.1 tk;have heq:=cmpI_eq0 ev.1 tk;have HEV:=hid hev;clear hP hev;have hgw:g < w.heap.size:=by
    obtain ⟨_,_,_,_,_,_,_,_,e,h,_⟩:=HP.out.at' i ev HEV.out;cases e;exact h
   generalize cmpI ev.1 tk=z at *;go_wp2_with fail
   refine hcmp.mono ?_;rintro e w2 ⟨rfl,hb2⟩;have hb2':Below w.heap.size w w2:=hr.out.2.trans (hb2.mono hr.out.2.size);have hq2:w2.cell? ⟨g,o+i*2,none⟩=some (.slice k1 n1 c1):=(World.cell?_of_block (a:=⟨g,o+i*2,none⟩) (hb2.block g (Nat.lt_of_lt_of_le hgw hr.out.2.size))).trans hq1;clear hcmp;by_cases hz:z < 0
   ·have HN:Hid ((∀ (k:Nat) (e:KV),k < i+1→l[k]?=some e→Lib.compareBytes e.1 tk=-1)∧Below w.heap.size w w2):=hid ⟨fun k e hk he=>by
     by_cases h:k < i
     ·exact hr.out.1 k e h he
     ·have:k=i:=by omega
      subst this;rw [HEV.out] at he;cases he
      exact hsg.1.1 hz,hb2'⟩
    clear hr hsg hb2' hb2;try dsimp only
    go_wp2_with fail
    go_roundw
    case rel=>exact ⟨i+1,by go_num,by omega,HN⟩
    case measure=>simp [intOf];omega
   ·have hsx:sidx l tk=i:=sidx_eq hr.out.1 (.inr ⟨ev,HEV.out,fun e=>hz (hsg.1.2 e)⟩);have his:isAt l tk=decide (ev.1=tk):=by unfold isAt;rw [hsx,HEV.out]
    have hcmp2:=lcmp_any w2 k1 ka n1 c1 kn kc ev.1 tk (hk1.fr (S:=fun _=>False) (Fr.of_below hb2) (fun _ _ h=>h)) (HK.out.below hb2').sl;have HS:=hid (show sidx l tk=i∧isAt l tk=(cmpI ev.1 tk == 0)∧Below w.heap.size w w2 from ⟨hsx,by rw [his,← cmpI_eq0],hb2'⟩);generalize hzz:cmpI ev.1 tk=z2 at *;clear hr hsg hb2' hb2 hk1 hsx his heq hq1 hzz;try dsimp only
    go_wp2_with fail
    refine hcmp2.mono ?_;rintro e w3 ⟨rfl,hb3⟩;have hb3':Below w.heap.size w w3:=HS.out.2.2.trans (hb3.mono HS.out.2.2.size);have HF:=hid hb3';clear hcmp2 hb3 hb3';try dsimp only
    go_wp2
    go_returns
    rw [HS.out.1,HS.out.2.1];exact ⟨rfl,HF.out⟩
  ·have hin:i=n:=by omega
   have hsx:sidx l tk=i:=sidx_eq hr.out.1 (.inl (by omega));have his:isAt l tk=false:=by unfold isAt;rw [hsx,List.getElem?_eq_none (by omega)]
   have HS:=hid (show sidx l tk=i∧isAt l tk=false∧Below w.heap.size w wr from ⟨hsx,his,hr.out.2⟩);subst hin;clear hr hsx his;go_wp2
   go_returns
   rw [HS.out.1,HS.out.2.1];exact ⟨rfl,HS.out.2.2⟩
theorem bound_any (w:World) (a:Option Addr) (n c:Nat):Calls Tryz.prog 86 #[.slice a n c] w fun e w'=>e=.returned (if n=0 then .slice none 0 0 else .slice a n c)∧w'=w:=by
 by_cases h:n=0
 ·have hb:((n:Int) == 0)=true:=by rw [beq_iff_eq];omega
  rw [if_pos h];clear h;go_enter Tryz.func86,Tryz.ntmps86
  go_wp2
  go_ret
  exact ⟨rfl,rfl⟩
 ·have hb:((n:Int) == 0)=false:=by rw [beq_eq_false_iff_ne];omega
  rw [if_neg h];clear h;go_enter Tryz.func86,Tryz.ntmps86
  go_wp2
  go_ret
  exact ⟨rfl,rfl⟩
end
section
open Go Go.RowKit Go.Shelf
theorem conv_sl {w:World} {a:Option Addr} {n c:Nat} {l:Bs} (h:Sl w a n c l):(convert 29 9 (.slice a n c)).run Tryz.prog w=.ok (.string ⟨l.toArray⟩) w:=by
 obtain rfl:n=l.length:=h.len.symm;cases l with
 | nil =>
  cases a with
  | none=>exact Lib.run_convert_nil_bytes w 29 9 5 c (by kernel_rfl) (by kernel_rfl) (by kernel_rfl)
  | some a=>exact run_convert_bytes_back w 29 9 5 a c [] (by kernel_rfl) (by kernel_rfl) (by kernel_rfl) (fun j hj=>absurd hj (by simp))
 | cons x l =>
  obtain ⟨b,o,rfl⟩:=h.form (by simp);refine run_convert_bytes_back w 29 9 5 ⟨b,o,none⟩ c (x :: l) (by kernel_rfl) (by kernel_rfl) (by kernel_rfl) (fun j hj=>?_);have:=h.cellAt hj;by_cases hj0:j=0
  ·subst hj0;simpa [Addr.add] using this
  ·simpa [Addr.add,hj0] using this
def fkeyS:ByteArray:=⟨#[102,105,108,116,101,114,46,108,101,118,101,108,100,98,46,66,117,105,108,116,105,110,66,108,111,111,109,70,105,108,116,101,114]⟩
def fpreS:ByteArray:=⟨#[102,105,108,116,101,114,46]⟩
def fnameS:ByteArray:=⟨#[108,101,118,101,108,100,98,46,66,117,105,108,116,105,110,66,108,111,111,109,70,105,108,116,101,114]⟩
theorem fkey_s:(⟨fkey.toArray⟩:ByteArray)=fkeyS:=rfl
theorem hasPrefix0_any (w:World):Calls Tryz.prog 108 #[.string fkeyS,.string fpreS] w fun e w'=>e=.returned (.bool true)∧w'=w:=by
 have h1:fkeyS.size=33:=by decide
 have h2:fpreS.size=7:=by decide
 have h3:fkeyS.extract 0 7=fpreS:=by decide
 generalize fkeyS=A at *;generalize fpreS=B at *;go_enter Tryz.func108,Tryz.ntmps108
 go_wp2
 go_ret
 exact ⟨rfl,rfl⟩
theorem hasPrefix_any (w:World):Calls Tryz.prog 62 #[.string fkeyS,.string fpreS] w fun e w'=>e=.returned (.bool true)∧w'=w:=by
 have h:=hasPrefix0_any w;generalize fkeyS=A at *;generalize fpreS=B at *;go_enter Tryz.func62,Tryz.ntmps62
 go_wp2_with fail
 refine h.mono ?_;rintro e w' ⟨rfl,rfl⟩;try dsimp only
 go_wp2
 go_ret
 exact ⟨rfl,rfl⟩
theorem getStrict8_any {w:World} {o bs ri n:Nat} (h:OptAt w o bs ri n):Calls Tryz.prog 54 #[.pointer (some ⟨o,0,none⟩),.int .u64 8] w fun e w'=>e=.returned (.bool true)∧w'=w:=by
 have h29:w.cell? ⟨o,29,none⟩=some (.int .u64 127):=Blk.cell (k:=29) h rfl;clear h;go_enter Tryz.func54,Tryz.ntmps54
 go_wp2
 go_ret
 exact ⟨rfl,rfl⟩
theorem fdata_last (cs:List (List Nat × List UInt8)):(∃ r,(fdata (cbuf cs) (coffs cs)).drop ((fdata (cbuf cs) (coffs cs)).length - 5)=Lib.leBytes 4 (cbuf cs).length++r)∧(fdata (cbuf cs) (coffs cs))[(fdata (cbuf cs) (coffs cs)).length - 1]?=some 11:=by
 have hl:=fdata_flen cs;obtain ⟨r,hd⟩:=fdata_at (cs:=cs) (i:=cs.length) (Nat.le_refl _);rw [List.take_length] at hd;refine ⟨⟨r,by rw [show (fdata (cbuf cs) (coffs cs)).length - 5=(cbuf cs).length+4*cs.length by omega];exact hd⟩,?_⟩;unfold fdata at *;rw [List.getElem?_append_right (by simp)];simp
end
section
open Go Go.RowKit Go.Shelf
def KVo (B:Nat) (w:World) (x y:Value):Option KV→Prop
 | some ev=>KV2 B w (x,y) ev
 | none=>x=.slice none 0 0∧y=.slice none 0 0
set_option maxHeartbeats 4000000 in
theorem atp_any (w:World) (a:Option Addr) (n c i:Nat) (l:List KV) (hP:Pairs w.heap.size w a n c l) (hn:n≤2147483647):Calls Tryz.prog 82 #[.slice a n c,.int .i64 i] w fun e w'=>∃ x y,e=.returned (.agg #[x,y])∧KVo w.heap.size w' x y l[i]?∧Below w.heap.size w w':=by
 have hlen:=hP.len;obtain ⟨w1,hw1⟩:∃ w1,w1=w.alloc (.cells #[.slice none 0 0,.slice none 0 0] 88):=⟨_,rfl⟩;have hb1:Below w.heap.size w w1:=by rw [hw1];exact (Below.refl _ _).alloc (Nat.le_refl _) _
 have hB:Blk w1 w.heap.size #[.slice none 0 0,.slice none 0 0] 88:=by rw [hw1];exact Blk.new _ _ _
 have z0:=hB.cell (k:=0) rfl;have z1:=hB.cell (k:=1) rfl;have f0:=hB.free 0;have f1:=hB.free 1;by_cases hi:i < n
 ·obtain ⟨ev,hev⟩:∃ ev,l[i]?=some ev:=⟨_,List.getElem?_eq_getElem (by rw [hlen];exact hi)⟩;obtain ⟨g,o,k1,n1,c1,k2,n2,c2,rfl,hgB,hq0,hq1,hk1,hk2⟩:=(hP.below hb1).at' i ev hev;have hgw:g≠w.heap.size:=by omega
  have hi2:(i:Int) < (n:Int):=by omega
  have HF:Hid (∀ k,CC ((((w1.setCell ⟨w.heap.size,0,none⟩ (.slice k1 n1 c1)).setCell ⟨w.heap.size,1,none⟩ (.slice k2 n2 c2))).drewN k) w.heap.size (.slice k1 n1 c1) (.slice k2 n2 c2)∧KVo w.heap.size ((((w1.setCell ⟨w.heap.size,0,none⟩ (.slice k1 n1 c1)).setCell ⟨w.heap.size,1,none⟩ (.slice k2 n2 c2))).drewN k) (.slice k1 n1 c1) (.slice k2 n2 c2) l[i]?∧Below w.heap.size w ((((w1.setCell ⟨w.heap.size,0,none⟩ (.slice k1 n1 c1)).setCell ⟨w.heap.size,1,none⟩ (.slice k2 n2 c2))).drewN k)):=hid (fun k=>by
   have hB2:=((hB.set 0 (.slice k1 n1 c1)).set 1 (.slice k2 n2 c2)).drewN k;have hbb:Below w.heap.size w1 ((((w1.setCell ⟨w.heap.size,0,none⟩ (.slice k1 n1 c1)).setCell ⟨w.heap.size,1,none⟩ (.slice k2 n2 c2))).drewN k):=((((Below.refl _ w1).setCell (p:=⟨w.heap.size,0,none⟩) (Nat.le_refl _) _).setCell (p:=⟨w.heap.size,1,none⟩) (Nat.le_refl _) _).trans (Below.drewN' _ _ k));refine ⟨⟨hB2.cell (k:=0) rfl,hB2.cell (k:=1) rfl⟩,?_,hb1.trans hbb⟩
   rw [hev];exact ⟨k1,n1,c1,k2,n2,c2,rfl,hk1.below hbb,hk2.below hbb⟩)
  clear hP hk1 hk2 hB hb1 hev;go_enter Tryz.func82,Tryz.ntmps82
  go_upto_region 1 with fail
  rw [← hw1];clear hw1;go_wp2
  obtain ⟨h1,h2,h3⟩:=HF.out 0;have r0:=h1.c0;have r1:=h1.c1;refine bodyPost_ret (v:=.agg #[.slice k1 n1 c1,.slice k2 n2 c2]) (results_cell rfl rfl ?_) rfl ?_
  ·have r0':((w1.setCell ⟨w.heap.size,0,none⟩ (.slice k1 n1 c1)).setCell ⟨w.heap.size,1,none⟩ (.slice k2 n2 c2)).cell? ⟨w.heap.size,0,none⟩=some (.slice k1 n1 c1):=r0;have r1':((w1.setCell ⟨w.heap.size,0,none⟩ (.slice k1 n1 c1)).setCell ⟨w.heap.size,1,none⟩ (.slice k2 n2 c2)).cell? ⟨w.heap.size,1,none⟩=some (.slice k2 n2 c2):=r1;generalize (w1.setCell ⟨w.heap.size,0,none⟩ (.slice k1 n1 c1)).setCell ⟨w.heap.size,1,none⟩ (.slice k2 n2 c2)=W at *
   go_simp
  ·exact ⟨_,_,rfl,h2,h3⟩
 ·have hi2:¬ (i:Int) < (n:Int):=by omega
  have HNO:Hid (l[i]?=none):=hid (List.getElem?_eq_none (by omega));have HF:Hid (KVo w.heap.size ((w1.setCell ⟨w.heap.size,0,none⟩ (.slice none 0 0)).setCell ⟨w.heap.size,1,none⟩ (.slice none 0 0)) (.slice none 0 0) (.slice none 0 0) l[i]?∧Below w.heap.size w ((w1.setCell ⟨w.heap.size,0,none⟩ (.slice none 0 0)).setCell ⟨w.heap.size,1,none⟩ (.slice none 0 0))∧CC ((w1.setCell ⟨w.heap.size,0,none⟩ (.slice none 0 0)).setCell ⟨w.heap.size,1,none⟩ (.slice none 0 0)) w.heap.size (.slice none 0 0) (.slice none 0 0)):=hid (by
   have hB2:=((hB.set 0 (.slice none 0 0)).set 1 (.slice none 0 0));rw [List.getElem?_eq_none (by omega)];exact ⟨⟨rfl,rfl⟩,(hb1.setCell (p:=⟨w.heap.size,0,none⟩) (Nat.le_refl _) _).setCell (p:=⟨w.heap.size,1,none⟩) (Nat.le_refl _) _,hB2.cell (k:=0) rfl,hB2.cell (k:=1) rfl⟩)
  clear hP hB hb1;go_enter Tryz.func82,Tryz.ntmps82
  go_upto_region 1 with fail
  rw [← hw1];clear hw1;go_wp2
  obtain ⟨h2,h3,h4⟩:=HF.out;have r0:=h4.c0;have r1:=h4.c1;generalize (w1.setCell ⟨w.heap.size,0,none⟩ (.slice none 0 0)).setCell ⟨w.heap.size,1,none⟩ (.slice none 0 0)=W at *;refine bodyPost_ret (v:=.agg #[.slice none 0 0,.slice none 0 0]) (results_cell rfl rfl ?_) rfl ?_
  ·go_simp
  ·rw [HNO.out] at h2;first | exact ⟨_,_,rfl,h2,h3⟩ | (rw [HNO.out];exact ⟨_,_,rfl,h2,h3⟩)
theorem found_no (w:World) (pv fv:Value) (n:Int) (ok:Bool) (x y:Value) (hp:(∃ a n c,pv=.slice a n c)∧(∃ a n c,fv=.slice a n c)∧(∃ a n c,x=.slice a n c)∧∃ a n c,y=.slice a n c):Calls Tryz.prog 81 #[.agg #[pv,fv,.int .i64 n,.bool ok],.bool false,.agg #[x,y]] w fun e w'=>e=.returned (.bool (!ok))∧Below w.heap.size w w':=by
 obtain ⟨⟨pa,pn,pc,rfl⟩,⟨fa,fn,fc,rfl⟩,⟨xa,xn,xc,rfl⟩,ya,yn,yc,rfl⟩:=hp;have hb:Below w.heap.size w ((w.alloc (.cells #[.slice pa pn pc,.slice fa fn fc,.int .i64 n,.bool ok] 71)).alloc (.cells #[.slice xa xn xc,.slice ya yn yc] 88)):=((Below.refl _ _).alloc (Nat.le_refl _) _).alloc (by simp) _;have HB:=hid hb;clear hb;go_enter Tryz.func81,Tryz.ntmps81
 go_wp2
 go_ret
 exact ⟨rfl,HB.out⟩
set_option maxHeartbeats 4000000 in
theorem found_yes (w:World) (pa:Option Addr) (pc:Nat) (fv:Value) (n:Int) (x y:Value) (ev:KV) (hP:Pairs w.heap.size w pa 1 pc [ev]) (hk:KV2 w.heap.size w (x,y) ev) (hf:∃ a n c,fv=.slice a n c):Calls Tryz.prog 81 #[.agg #[.slice pa 1 pc,fv,.int .i64 n,.bool true],.bool true,.agg #[x,y]] w fun e w'=>e=.returned (.bool true)∧Below w.heap.size w w':=by
 obtain ⟨fa,fn,fc,rfl⟩:=hf;obtain ⟨x1,xn,xc,y1,yn,yc,hxy,hx,hy⟩:=hk;cases hxy
 obtain ⟨W,hW⟩:∃ W,W=(w.alloc (.cells #[.slice pa 1 pc,.slice fa fn fc,.int .i64 n,.bool true] 71)).alloc (.cells #[.slice x1 xn xc,.slice y1 yn yc] 88):=⟨_,rfl⟩;have hb:Below w.heap.size w W:=by rw [hW];exact ((Below.refl _ _).alloc (Nat.le_refl _) _).alloc (by simp) _
 have hA:Blk W w.heap.size #[.slice pa 1 pc,.slice fa fn fc,.int .i64 n,.bool true] 71:=by rw [hW];exact (Blk.new w _ _).alloc _
 have hX:Blk W (w.heap.size+1) #[.slice x1 xn xc,.slice y1 yn yc] 88:=by
  rw [hW];have:=Blk.new (w.alloc (.cells #[.slice pa 1 pc,.slice fa fn fc,.int .i64 n,.bool true] 71)) #[.slice x1 xn xc,.slice y1 yn yc] 88;simpa using this
 obtain ⟨g,o,k1,n1,c1,k2,n2,c2,rfl,hgB,hq0,hq1,hk1,hk2⟩:=(hP.below hb).at' 0 ev rfl;simp only [Nat.zero_mul,Nat.add_zero] at hq0 hq1;have e1:=conv_sl ((hx.below hb).sl.drewN 1);have e2:=conv_sl ((hy.below hb).sl.drewN 1);have e3:=conv_sl (hk1.sl.drewN 1);have e4:=conv_sl (hk2.sl.drewN 1);generalize (⟨ev.1.toArray⟩:ByteArray)=S1 at *;generalize (⟨ev.2.toArray⟩:ByteArray)=S2 at *;have a0:=hA.cell (k:=0) rfl
 have a3:=hA.cell (k:=3) rfl;have b0:=hX.cell (k:=0) rfl;have b1:=hX.cell (k:=1) rfl;have HB:=hid (hb.trans (Below.drewN' w.heap.size W 1));clear hb hA hX hk1 hk2 hx hy hP;go_enter Tryz.func81,Tryz.ntmps81
 go_upto_region 3 with fail
 rw [← hW];clear hW;refine wp_tail 32 (by kernel_rfl) ?_;simp only [List.take_succ_cons,List.take_zero,List.drop_succ_cons,List.drop_zero];repeat still_step
 refine wpStill_nil ?_;go_wp2
 go_ret
 exact ⟨rfl,HB.out⟩
end
end Go.Proofs.YtmkdpjicgjhhjaaGreatDoor
