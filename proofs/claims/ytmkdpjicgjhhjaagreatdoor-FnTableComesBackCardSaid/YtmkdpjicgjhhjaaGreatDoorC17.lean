/- Part 17 of the proof of FnTableComesBack: contracts and lemmas, each under the conditions that it states. Texts: WApp, PBlk, Opts. -/
import Derived.Test.YtmkdpjicgjhhjaaGreatDoorC16
import Derived.Test.YtmkdpjicgjhhjaaGreatDoorC03
import Derived.Test.YtmkdpjicgjhhjaaGreatDoorC10
import Derived.Handy
namespace Go.Proofs.YtmkdpjicgjhhjaaGreatDoor
open Go.Lib (hid)
set_option maxRecDepth 100000
set_option linter.all false
section
open Go Go.RowKit Go.Shelf
open Go.Lib (compareBytes)
structure Key (base:Nat) (w:World) (a:Option Addr) (n c:Nat) (l:List UInt8):Prop where
 sl:Sl w a n c l
 low:∀ g p,a=some ⟨g,p,none⟩→0 < n→g < base
theorem Key.below {base:Nat} {w w':World} {a:Option Addr} {n c:Nat} {l:List UInt8} (h:Key base w a n c l) (hb:Below base w w'):Key base w' a n c l :=
 ⟨h.sl.fr' fun g p ha j hj=>World.cell?_of_block (hb.block g (h.low g p ha (by omega))),h.low⟩
theorem Key.drewN {base:Nat} {w:World} {a:Option Addr} {n c:Nat} {l:List UInt8} (h:Key base w a n c l) (k:Nat):Key base (w.drewN k) a n c l:=⟨h.sl.drewN k,h.low⟩
theorem Below.drewN' (base:Nat) (w:World) (k:Nat):Below base w (w.drewN k):=⟨rfl,rfl,rfl,Nat.le_refl _,fun _ _=>rfl⟩
theorem WIn.drewN {base:Nat} {w:World} {b bb bs n:Nat} {s:WS} (h:WIn base w b bb bs n s) (k:Nat):WIn base (w.drewN k) b bb bs n s:=by
 obtain ⟨lab,C,OD,OI,OF,h⟩:=h;exact ⟨lab,C,OD,OI,OF,h.ext (fun _ _=>rfl)⟩
def FtAdd (l:List UInt8):Option FS→Option FS→Prop
 | none,none=>True
 | some fs,some fs'=>fs'={ fs with keys:=fs.keys++[bhash l] }
 | _,_=>False
theorem FtAdd.ok {n:Nat} {l:List UInt8} {x y:Option FS} (h:FtAdd l x y) (hx:match x with | none=>True | some fs=>fs.ok n):match y with | none=>True | some fs=>fs.ok n:=by
 cases x <;> cases y <;> try trivial
 ·simp only [FtAdd] at h;subst h;exact ⟨hx.1,fun z hz=>(List.mem_append.1 hz).elim (hx.2 z) (fun e=>by rw [List.mem_singleton.1 e];exact bhash_lt l)⟩
theorem FtAdd.good {n:Nat} {l:List UInt8}:∀ {x y:Option FS},FtAdd l x y→(match x with | none=>True | some fs=>fs.ok n∧n≤20∧fs.cs.length≤1048576∧ktot fs.ks≤4194304)→FtOk n y
 | none,none,_,_=>trivial
 | none,some _,h,_=>h.elim
 | some _,none,h,_=>h.elim
 | some fs,some fs',h,h1=>by
  have h3:=FtAdd.ok (n:=n) (x:=some fs) (y:=some fs') h h1.1;simp only [FtAdd] at h;subst h;refine ⟨h3,h1.2.1,Nat.le_trans h1.2.2.1 (by decide),?_⟩;have:=h1.2.2.2;unfold ktot FS.ks at *;simp only [List.length_append,List.length_singleton] at *;omega
theorem fadd_ww (w:World) (base b bb bs n:Nat) (s:WS) (h:WIn base w b bb bs n s) (a:Option Addr) (m c:Nat) (l:List UInt8) (hl:Sl w a m c l) (hm:m≤4294967294) (hk:match s.filt with | none=>True | some fs=>ktot fs.ks≤67108863) :
  Calls Tryz.prog 45 #[.pointer (some ⟨b,148,none⟩),.slice a m c] w fun e w'=>e=.returned (.tuple #[])∧∃ ft',FtAdd l s.filt ft'∧WIn base w' b bb bs n { s with filt:=ft' }∧Below base w w':=by
 obtain ⟨lab,C,OD,OI,OF,h⟩:=h;cases hs:s.filt with
 | none =>
  have h3:=h.filt;rw [hs] at h3;refine (fadd_nil w b 148 (.slice a m c) (h.data.ub.blk.cell h3.1)).mono ?_;rintro e w' ⟨rfl,rfl⟩;refine ⟨rfl,none,trivial,⟨lab,C,OD,OI,OF,?_⟩,Below.refl _ _⟩;have:({ s with filt:=none }:WS)=s:=by rw [← hs]
  rw [this];exact h
 | some fs =>
  have h3:=h.filt;rw [hs] at h3 hk;have hkl:fs.raw.keys.length≤67108863:=by
   have:ktot fs.ks≤67108863:=hk;unfold ktot FS.ks at this;simp only [FS.raw] at *;omega
  refine (fadd_any w b 148 n C 117 OF fs.raw h3.1 a m c l hl hm hkl).mono ?_;rintro e w' ⟨rfl,hx⟩;have hx':FBTo b C 117 148 n OF ({ fs with keys:=fs.keys++[bhash l] }:FS).raw w w':=hx;exact ⟨rfl,some { fs with keys:=fs.keys++[bhash l] },rfl,(h.filtTo hs hx').win,(h.filtTo hs hx').2⟩
theorem dappend_ww (w:World) (base b bb bs n:Nat) (s:WS) (h:WIn base w b bb bs n s) (ka:Option Addr) (kn kc:Nat) (key:List UInt8) (hk:Key base w ka kn kc key) (va:Option Addr) (vn vc:Nat) (val:List UInt8) (hv:Key base w va vn vc val)
  (hbuf:s.data.buf.length+kn+vn+40≤4294967295) (hn:s.data.n≤4294967295) (hr:s.data.rs.length≤4294967295) (hp:s.data.prev.length≤4294967295) (hri:1≤s.data.ri) (hri2:s.data.ri≤4294967295) :
  Calls Tryz.prog 44 #[.pointer (some ⟨b,6,none⟩),.slice ka kn kc,.slice va vn vc] w fun e w'=>e=.returned (.tuple #[])∧WIn base w' b bb bs n { s with data:=s.data.append key val }∧Below base w w':=by
 obtain ⟨lab,C,OD,OI,OF,h⟩:=h;have haw:∀ (a:Option Addr) (n c:Nat) (l:List UInt8),Key base w a n c l→Away b 6 241 OD a n:=fun a n c l hk g p ha h0=>by
  have hg:=hk.low g p ha h0;exact ⟨fun hO=>by have:=h.low g (by rw [h.labD g hO];decide);omega,fun e=>by subst e;have:=h.low g (by rw [h.labB];decide);omega⟩
 refine (append_any w b C 117 6 241 OD s.data h.data ka kn kc key hk.sl (haw _ _ _ _ hk) va vn vc val hv.sl (haw _ _ _ _ hv) hbuf hn hr hp hri hri2).mono ?_;rintro e w' ⟨rfl,hx⟩;exact ⟨rfl,(h.dataTo hx).win,(h.dataTo hx).2⟩
structure WB (n:Nat) (s:WS):Prop where
 db:s.data.buf.length≤33554432
 dn:s.data.n≤33554432
 dr:s.data.rs.length≤4194304
 drv:∀ x∈s.data.rs,x < 4294967296
 dp:s.data.prev.length≤33554432
 dri:1≤s.data.ri
 dri2:s.data.ri≤1000
 ib:s.index.buf.length≤33554432
 in':s.index.n≤33554432
 ir:s.index.rs.length≤4194304
 irv:∀ x∈s.index.rs,x < 4294967296
 ip:s.index.prev.length≤33554432
 iri:s.index.ri=1
 po:s.po < 34359738368
 pl:s.pl < 34359738368
 fl:s.file.length≤67108864
 en:s.ent≤67108864
 ft:match s.filt with | none=>True | some fs=>fs.ok n∧n≤20∧fs.cs.length≤1048576∧ktot fs.ks≤4194304
def FinTo (n:Nat) (s s':WS):Prop :=
 ∃ ft',FtTo n ((s.file++sealB s.data.finish.buf).length / 2048) s.filt ft'∧s'={ s with data:={ s.data.finish with buf:=[],n:=0,rs:=[] },file:=s.file++sealB s.data.finish.buf,po:=s.file.length,pl:=s.data.finish.buf.length,filt:=ft' }
def BWS.len (s:BWS):Nat:=s.buf.length+4*(if s.rs.length=0 then 1 else s.rs.length)+4
def AppTo (bs n:Nat) (s:WS) (key val:List UInt8) (s':WS):Prop :=
 ∃ s1 ft s4,FlTo s key s1∧FtAdd key s1.filt ft∧(if bs≤(s1.data.append key val).len then FinTo n { s1 with data:=s1.data.append key val,filt:=ft } s4 else s4={ s1 with data:=s1.data.append key val,filt:=ft })∧s'={ s4 with ent:=s4.ent+1 }
theorem FlTo.data {s s1:WS} {key:List UInt8} (h:FlTo s key s1):s1.data.buf=s.data.buf∧s1.data.n=s.data.n∧s1.data.rs=s.data.rs∧s1.data.ri=s.data.ri∧s1.data.prev.length≤s.data.prev.length∧s1.file=s.file∧s1.filt=s.filt∧s1.ent=s.ent:=by
 rcases h with ⟨_,rfl⟩ | ⟨_,sep,_,rfl⟩
 ·simp
 ·simp
theorem entry_le (s:BWS) (key val:List UInt8) (hk:key.length≤1073741824) (hv:val.length≤1073741824):(s.append key val).buf.length≤s.buf.length+key.length+val.length+15:=by
 have hsh:=s.sh_le key;have e1:=uvarint_len5 (x:=s.sh key) (by omega);have e2:=uvarint_len5 (x:=key.length - s.sh key) (by omega);have e3:=uvarint_len5 (x:=val.length) (by omega);simp only [BWS.append,List.length_append,entry,List.length_drop];omega
theorem append_rs (s:BWS) (key val:List UInt8):(s.append key val).rs.length≤s.rs.length+1:=by
 simp only [BWS.append];split <;> simp
theorem append_rsv (s:BWS) (key val:List UInt8) (h:∀ x∈s.rs,x < 4294967296) (hb:s.buf.length < 4294967296):∀ x∈(s.append key val).rs,x < 4294967296:=by
 simp only [BWS.append];split
 ·intro x hx;rcases List.mem_append.1 hx with hx | hx
  ·exact h x hx
  ·rw [List.mem_singleton.1 hx];exact hb
 ·exact h
theorem WIn.setEnt {base:Nat} {w:World} {b bb bs n:Nat} {s:WS} (h:WIn base w b bb bs n s) (e:Nat):WIn base (w.setCell ⟨b,220,none⟩ (.int .i64 (e:Int))) b bb bs n { s with ent:=e }∧Below base w (w.setCell ⟨b,220,none⟩ (.int .i64 (e:Int))):=by
 obtain ⟨lab,C,OD,OI,OF,h⟩:=h;have hsz:=h.size;have g:=h.setNum 220 (.int .i64 (e:Int)) (.inr (.inr rfl)) s.po s.pl e ((Array.getElem?_setIfInBounds_ne (by omega)).trans h.po) ((Array.getElem?_setIfInBounds_ne (by omega)).trans h.pl) (Array.getElem?_setIfInBounds_self_of_lt (by omega));exact ⟨⟨lab,_,OD,OI,OF,g.1⟩,g.2⟩
theorem WIn.data_len {base:Nat} {w:World} {b bb bs n:Nat} {s:WS} (h:WIn base w b bb bs n s) (h1:s.data.buf.length≤1073741824) (h2:s.data.rs.length≤1073741824) (k:Nat) :
  Calls Tryz.prog 46 #[.pointer (some ⟨b,6,none⟩)] (w.drewN k) fun e w'=>e=.returned (.int .i64 ((s.data.len:Nat):Int))∧∃ k,w'=w.drewN k:=by
 obtain ⟨lab,C,OD,OI,OF,h⟩:=h;refine (bytesLen_any (w.drewN k) b C 117 6 241 OD s.data (h.ext (w':=w.drewN k) (fun _ _=>rfl)).data h1 h2).mono ?_;rintro e w' ⟨rfl,j,rfl⟩;exact ⟨rfl,k+j,by simp only [World.drewN_drewN]⟩
set_option maxHeartbeats 4000000 in
theorem wappend_any (w:World) (base b bb bs n:Nat) (s:WS) (h:WIn base w b bb bs n s) (hB:WB n s) (hbs:bs≤1073741824) (ka:Option Addr) (kn kc:Nat) (key:List UInt8) (hk:Key base w ka kn kc key) (va:Option Addr) (vn vc:Nat) (val:List UInt8) (hv:Key base w va vn vc val)
  (hkn:kn≤8388608) (hvn:vn≤8388608) (hord:s.ent=0∨compareBytes s.data.prev key=-1) :
  Calls Tryz.prog 20 #[.pointer (some ⟨b,0,none⟩),.slice ka kn kc,.slice va vn vc] w fun e w'=>e=.returned .nilIface∧∃ s',AppTo bs n s key val s'∧WIn base w' b bb bs n s'∧Below base w w':=by
 have HI:=hid h;obtain ⟨lab,C,OD,OI,OF,h⟩:=h;have hz1:=h.data.ub.blk.cell h.err;have hz2:=h.data.ub.blk.cell h.cmp;have hz220:=h.data.ub.blk.cell h.ent;obtain ⟨vp,hvp,hop,hpp⟩:=h.data.prev;obtain ⟨ap,cp,rfl,hpc,hpm,hpn⟩:=own_form hop;have hz74:w.cell? ⟨b,74,none⟩=some (.slice ap s.data.prev.length cp):=h.data.ub.blk.cell hvp;have hslp:=own_sl hop;have HB:=hid hB;have HO:=hid hord;have HH:=hid h;clear h hord hB hop hpp hpn hvp
 go_enter Tryz.func20,Tryz.ntmps20
 go_upto_region 3 with fail
 go_cut [37] (fun t wx=>t=.bool false∧WIn base wx b bb bs n s∧Below base w wx)
 case first =>
  by_cases he:s.ent=0
  ·rw [he] at hz220;have HE:=hid he;clear he;go_quiet (fail)
   go_wp2
   go_meet
   case rel=>exact ⟨rfl,HI.out.drewN _,Below.drewN' _ _ _⟩
  ·have hpos:0 < s.ent:=by omega
   have hcmp:=fun k=>compare_any (w.drewN k) ap ka s.data.prev.length cp kn kc s.data.prev key (hslp.drewN k) (hk.sl.drewN k)
   have hc1:compareBytes s.data.prev key=-1:=HO.out.resolve_left he;rw [hc1] at hcmp;have HE:=hid he;clear he hc1;refine wp_tail 18 (by kernel_rfl) ?_;simp only [List.take_succ_cons,List.take_zero,List.drop_succ_cons,List.drop_zero];repeat still_step
   refine wpStill_nil ?_;go_wp2_with fail
   refine (hcmp _).mono ?_;rintro e w1 ⟨rfl,rfl⟩;have hmx:WIn base ((w.drewN 1).alloc (.cells #[] 192)) b bb bs n s∧Below base w ((w.drewN 1).alloc (.cells #[] 192)):=by
    have h:=HH.out;have h1:=h.low b (by rw [h.labB];decide);have h2:=h.data.ub.blk.lt;exact ⟨⟨lab,C,OD,OI,OF,h.ext (fun k hk=>Below.heap_alloc (w.drewN 1) _ k hk)⟩,rfl,rfl,rfl,by simp,fun k hk=>Below.heap_alloc (w.drewN 1) _ k (by show k < w.heap.size;omega)⟩
   have HM:=hid hmx;clear hmx;dsimp only;go_wp2_with fail
   go_meet
   case rel=>exact ⟨rfl,HM.out⟩
 case rest =>
  obtain ⟨rfl,hw1,hb1⟩:=hcut;have hBB:=HB.out;have hfl:=flp_any wc base b bb bs n s hw1 hBB.po hBB.pl ka kn kc key (hk.below hb1).sl (by omega) (by have:=hBB.dp;omega) (by have:=hBB.ib;omega) (by have:=hBB.in';omega) (by have:=hBB.ir;omega) (by have:=hBB.ip;omega) hBB.iri;clear hz1 hz2 hz220 hz74;have HB1:=hid hb1;clear hb1 hBB;go_wp2_with fail
  refine hfl.mono ?_;rintro e w2 ⟨rfl,s1,hfs,hw2,hb2⟩;have hb12:=HB1.out.trans hb2;have hBB:=HB.out;have hfd:=hfs.data;have hda:=dappend_ww w2 base b bb bs n s1 hw2 ka kn kc key (hk.below hb12) va vn vc val (hv.below hb12) (by have:=hBB.db;rw [hfd.1];omega) (by have:=hBB.dn;omega) (by have:=hBB.dr;rw [hfd.2.2.1];omega) (by have:=hBB.dp;omega) (by have:=hBB.dri;omega) (by have:=hBB.dri2;omega);have HFS:=hid hfs
  have HFD:=hid hfd;have HB12:=hid hb12;clear hfl hfs hfd hb2 hb12 hBB hw1;dsimp only;go_wp2_with fail
  refine hda.mono ?_;rintro e w3 ⟨rfl,hw3,hb3⟩;have hb13:=HB12.out.trans hb3;have hfa:=fadd_ww w3 base b bb bs n _ hw3 ka kn kc key (hk.below hb13).sl (by omega) (by
   have:=HB.out.ft;show match s1.filt with | none=>True | some fs=>ktot fs.ks≤67108863
   rw [HFD.out.2.2.2.2.2.2.1];revert this;cases s.filt with
   | none=>exact fun _=>trivial
   | some fs=>exact fun h=>by have:=h.2.2.2;omega)
  have HB13:=hid hb13;clear hda hb13 hb3 hw2;dsimp only;go_wp2_with fail
  refine hfa.mono ?_;rintro e w4 ⟨rfl,ft,hft,hw4,hb4⟩;have hb14:=HB13.out.trans hb4;have hkl:=hk.sl.len;have hvl:=hv.sl.len;have hel:=entry_le s1.data key val (by omega) (by omega);have hrl:=append_rs s1.data key val;have hl1:s1.data.buf.length≤33554432:=by rw [HFD.out.1];exact HB.out.db
  have hl2:s1.data.rs.length≤33554432:=by
   have:=HB.out.dr;refine Nat.le_trans ?_ (show 4194304≤33554432 by decide);rw [HFD.out.2.2.1];exact HB.out.dr
  have hl3:(s1.data.append key val).buf.length≤50331680:=by omega
  have hl4:(s1.data.append key val).rs.length≤33554433:=by omega
  have hln:=hw4.data_len (Nat.le_trans hl3 (by decide)) (Nat.le_trans hl4 (by decide));have hz5:w4.cell? ⟨b,5,none⟩=some (.int .i64 bs):=by
   obtain ⟨lab',C',OD',OI',OF',h⟩:=hw4;exact h.data.ub.blk.cell h.bsz
  have HEL:=hid hel;have HRL:=hid hrl;have HB14:=hid hb14;have HW4:=hid hw4;have HFT:=hid hft;clear hfa hb14 hb4 hw3 hw4 hft hel hrl hkl hvl;dsimp only at hln ⊢;go_wp2_with fail
  generalize hLN:(s1.data.append key val).len=LN at *;go_quiet (exact hln _)
  have hlnb:LN≤1073741824:=by
   rw [← hLN];unfold BWS.len;split <;> omega
  have HLN:=hid hLN;have HB3:=hid hl3;have HB4:=hid hl4;clear hLN hl1 hl2 hl3 hl4 hln;go_upto_if 68 with fail
  go_cut [] (fun wx=>∃ s4,(if bs≤LN then FinTo n { s1 with data:=s1.data.append key val,filt:=ft } s4 else s4={ s1 with data:=s1.data.append key val,filt:=ft })∧WIn base wx b bb bs n s4∧Below base w4 wx)
  case first =>
   by_cases hge:bs≤LN
   ·have hfin:=finishBlock_walk (w4.drewN nq) base b bb bs n { s1 with data:=s1.data.append key val,filt:=ft } (HW4.out.drewN nq) (Nat.le_trans HB3.out (by decide)) (Nat.le_trans HB4.out (by decide)) (append_rsv _ _ _ (by rw [HFD.out.2.2.1];exact HB.out.drv) (by rw [HFD.out.1];have:=HB.out.db;omega))
     (by show s1.data.n+1≤_;rw [HFD.out.2.1];have:=HB.out.dn;omega) (by show s1.file.length≤_;rw [HFD.out.2.2.2.2.2.1];have:=HB.out.fl;omega) (by
      have h1:=HB.out.ft;have h2:=HFT.out;rw [HFD.out.2.2.2.2.2.2.1] at h2;show FtOk n ft
      exact h2.good h1)
    go_wp2_with fail
    refine hfin.mono ?_;rintro e w5 ⟨rfl,ft5,hw5,hf5,hb5⟩;have hcl:FinTo n { s1 with data:=s1.data.append key val,filt:=ft } _:=⟨ft5,hf5,rfl⟩;have hfin5:∃ s4,(if bs≤LN then FinTo n { s1 with data:=s1.data.append key val,filt:=ft } s4 else s4={ s1 with data:=s1.data.append key val,filt:=ft })∧WIn base w5 b bb bs n s4∧Below base w4 w5:=⟨_,by rw [if_pos hge];exact hcl,hw5,(Below.drewN' base w4 nq).trans hb5⟩
    have HF5:=hid hfin5;clear hfin hw5 hf5 hb5 hcl hfin5;dsimp only;go_wp2_with fail
    go_meet
    case rel=>exact HF5.out
   ·have hfin5:∃ s4,(if bs≤LN then FinTo n { s1 with data:=s1.data.append key val,filt:=ft } s4 else s4={ s1 with data:=s1.data.append key val,filt:=ft })∧WIn base (w4.drewN nq) b bb bs n s4∧Below base w4 (w4.drewN nq):=⟨_,by rw [if_neg hge],HW4.out.drewN nq,Below.drewN' base w4 nq⟩;have HF5:=hid hfin5;clear hfin5;go_wp2_with fail
    go_meet
    case rel=>exact HF5.out
  case rest =>
   obtain ⟨s4,hs4,hw5,hb5⟩:=hcut;have hz220:wc.cell? ⟨b,220,none⟩=some (.int .i64 s4.ent):=by
    obtain ⟨lab',C',OD',OI',OF',h⟩:=hw5;exact h.data.ub.blk.cell h.ent
   have hf220:wc.frozen? ⟨b,220,none⟩=false:=by
    obtain ⟨lab',C',OD',OI',OF',h⟩:=hw5;exact h.data.ub.blk.free 220
   have hent:s4.ent=s.ent:=by
    rw [← HFD.out.2.2.2.2.2.2.2];by_cases hge:bs≤LN
    ·rw [if_pos hge] at hs4;obtain ⟨_,_,rfl⟩:=hs4;rfl
    ·rw [if_neg hge] at hs4;rw [hs4]
   have hen:=HB.out.en;have hse:=hw5.setEnt (s4.ent+1);have hfinal:∃ s',AppTo bs n s key val s'∧WIn base (wc.setCell ⟨b,220,none⟩ (.int .i64 ((s4.ent+1:Nat):Int))) b bb bs n s'∧Below base w (wc.setCell ⟨b,220,none⟩ (.int .i64 ((s4.ent+1:Nat):Int))) :=
    ⟨_,⟨s1,ft,s4,HFS.out,HFT.out,by rw [HLN.out];exact hs4,rfl⟩,hse.1,(HB14.out.trans hb5).trans hse.2⟩
   rw [show ((s4.ent+1:Nat):Int)=(s4.ent:Int)+1 by omega] at hfinal;have HFI:=hid hfinal;have hent2:s4.ent≤67108864:=by rw [hent];exact hen
   clear hfinal hse hw5 hs4 hent hb5;go_wp2
   go_ret
   exact ⟨rfl,HFI.out⟩
end
section
open Go
abbrev Bs:=List UInt8
abbrev KV:=List UInt8 × List UInt8
def BWS.new (ri:Nat) (p:Bs):BWS:={ ri:=ri,n:=0,buf:=[],prev:=p,rs:=[] }
def BWS.adds (s:BWS) (es:List KV):BWS:=es.foldl (fun s e=>s.append e.1 e.2) s
@[simp] theorem BWS.adds_nil (s:BWS):s.adds []=s:=rfl
theorem BWS.adds_append (s:BWS) (a b:List KV):s.adds (a++b)=(s.adds a).adds b:=by simp [BWS.adds,List.foldl_append]
theorem BWS.adds_one (s:BWS) (e:KV):s.adds [e]=s.append e.1 e.2:=rfl
theorem BWS.adds_ri (s:BWS) (es:List KV):(s.adds es).ri=s.ri:=by
 induction es generalizing s with
 | nil=>rfl
 | cons e es ih=>exact (ih (s.append e.1 e.2)).trans rfl
theorem BWS.adds_n (s:BWS) (es:List KV):(s.adds es).n=s.n+es.length:=by
 induction es generalizing s with
 | nil=>rfl
 | cons e es ih =>
  refine (ih (s.append e.1 e.2)).trans ?_;simp [BWS.append];omega
theorem BWS.adds_pre (s:BWS) (es:List KV):∃ r,(s.adds es).buf=s.buf++r:=by
 induction es generalizing s with
 | nil=>exact ⟨[],by simp⟩
 | cons e es ih =>
  obtain ⟨r,hr⟩:=ih (s.append e.1 e.2);refine ⟨entry (s.sh e.1) e.1 e.2++r,hr.trans ?_⟩;simp only [BWS.append,List.append_assoc]
theorem BWS.adds_prev (s:BWS) (es:List KV) (e:KV):(s.adds (es++[e])).prev=e.1:=by rw [BWS.adds_append];rfl
def at' (ri:Nat) (p:Bs) (es:List KV) (i:Nat):BWS:=(BWS.new ri p).adds (es.take i)
def eoff (ri:Nat) (p:Bs) (es:List KV) (i:Nat):Nat:=(at' ri p es i).buf.length
def esh (ri:Nat) (p:Bs) (es:List KV) (i:Nat):Nat:=(at' ri p es i).sh ((es[i]?.map (·.1)).getD [])
section
variable {ri:Nat} {p:Bs} {es:List KV}
theorem at'_n (i:Nat) (h:i≤es.length):(at' ri p es i).n=i:=by
 unfold at';rw [BWS.adds_n,List.length_take];simp [BWS.new];omega
theorem at'_ri (i:Nat):(at' ri p es i).ri=ri:=by unfold at';rw [BWS.adds_ri];rfl
theorem at'_succ {i:Nat} {e:KV} (h:es[i]?=some e):at' ri p es (i+1)=(at' ri p es i).append e.1 e.2:=by
 unfold at';rw [List.take_add_one,h,BWS.adds_append];rfl
theorem at'_prev {i:Nat} {e:KV} (h:es[i]?=some e):(at' ri p es (i+1)).prev=e.1:=by rw [at'_succ h];rfl
theorem at'_all:at' ri p es es.length=(BWS.new ri p).adds es:=by unfold at';rw [List.take_length]
theorem at'_over {i:Nat} (h:es.length≤i):at' ri p es i=(BWS.new ri p).adds es:=by unfold at';rw [List.take_of_length_le h]
theorem at'_pre {i j:Nat} (h:i≤j):∃ r,(at' ri p es j).buf=(at' ri p es i).buf++r:=by
 unfold at';have:es.take j=es.take i++(es.take j).drop i:=by
  refine (List.take_append_drop i (es.take j)).symm.trans ?_;rw [List.take_take,Nat.min_eq_left h]
 rw [this,BWS.adds_append];exact BWS.adds_pre _ _
theorem eoff_mono {i j:Nat} (h:i≤j):eoff ri p es i≤eoff ri p es j:=by
 obtain ⟨r,hr⟩:=at'_pre (ri:=ri) (p:=p) (es:=es) h;unfold eoff;rw [hr];simp
theorem eoff_zero:eoff ri p es 0=0:=rfl
theorem esh_eq {i:Nat} {e:KV} (h:es[i]?=some e):esh ri p es i=(at' ri p es i).sh e.1:=by unfold esh;rw [h];rfl
theorem esh_le {i:Nat} {e:KV} (h:es[i]?=some e):esh ri p es i≤e.1.length:=by rw [esh_eq h];exact BWS.sh_le _ _
theorem lt_of_some {α:Type} {l:List α} {i:Nat} {e:α} (h:l[i]?=some e):i < l.length:=(List.getElem?_eq_some_iff.1 h).1
theorem esh_zero {i:Nat} (hi:i≤es.length) (h:i % ri=0):esh ri p es i=0:=by
 unfold esh BWS.sh;rw [at'_n i hi,at'_ri,if_pos h]
theorem esh_take {i:Nat} {e e':KV} (h:es[i+1]?=some e) (h':es[i]?=some e'):esh ri p es (i+1)≤e'.1.length∧e'.1.take (esh ri p es (i+1))=e.1.take (esh ri p es (i+1)):=by
 rw [esh_eq h];unfold BWS.sh;rw [at'_prev h'];split
 ·simp
 ·exact ⟨(cpl_le _ _).1,cpl_take _ _⟩
theorem entry_length (sh:Nat) (k v:Bs):(entry sh k v).length=(Lib.uvarint sh).length+(Lib.uvarint (k.length - sh)).length+(Lib.uvarint v.length).length+(k.length - sh)+v.length:=by
 simp [entry];omega
theorem uvarint_pos (x:Nat):0 < (Lib.uvarint x).length:=by
 by_cases h:x < 128
 ·rw [Lib.uvarint_small h];simp
 ·rw [Lib.uvarint_big (by omega)];simp
theorem entry_pos (sh:Nat) (k v:Bs):3≤(entry sh k v).length:=by
 rw [entry_length];have:=uvarint_pos sh;have:=uvarint_pos (k.length - sh);have:=uvarint_pos v.length;omega
theorem eoff_succ {i:Nat} {e:KV} (h:es[i]?=some e):eoff ri p es (i+1)=eoff ri p es i+(entry (esh ri p es i) e.1 e.2).length:=by
 unfold eoff;rw [at'_succ h,esh_eq h];simp [BWS.append]
theorem eoff_lt {i:Nat} {e:KV} (h:es[i]?=some e):eoff ri p es i < eoff ri p es (i+1):=by
 rw [eoff_succ h];have:=entry_pos (esh ri p es i) e.1 e.2;omega
theorem eoff_lt' {i j:Nat} (h:i < j) (hj:j≤es.length):eoff ri p es i < eoff ri p es j:=by
 have hi:i < es.length:=by omega
 exact Nat.lt_of_lt_of_le (eoff_lt (List.getElem?_eq_getElem hi)) (eoff_mono (by omega))
theorem eoff_inj {i j:Nat} (hi:i≤es.length) (hj:j≤es.length) (h:eoff ri p es i=eoff ri p es j):i=j:=by
 rcases Nat.lt_trichotomy i j with h1 | h1 | h1
 ·have:=eoff_lt' (ri:=ri) (p:=p) h1 hj;omega
 ·exact h1
 ·have:=eoff_lt' (ri:=ri) (p:=p) h1 hi;omega
theorem buf_cut {i:Nat} {e:KV} (h:es[i]?=some e):∃ r,((BWS.new ri p).adds es).buf=(at' ri p es i).buf++(entry (esh ri p es i) e.1 e.2++r):=by
 obtain ⟨r,hr⟩:=at'_pre (ri:=ri) (p:=p) (es:=es) (i:=i+1) (j:=es.length) (lt_of_some h);rw [at'_all] at hr;refine ⟨r,hr.trans ?_⟩;rw [at'_succ h,esh_eq h];simp [BWS.append]
theorem rs_at (hri:0 < ri) (i:Nat) (hi:i≤es.length):(at' ri p es i).rs.length=(i+ri - 1) / ri∧∀ j,j*ri < i→(at' ri p es i).rs[j]?=some (eoff ri p es (j*ri)):=by
 induction i with
 | zero =>
  refine ⟨?_,fun j hj=>by omega⟩;rw [Nat.zero_add,Nat.div_eq_of_lt (by omega)];rfl
 | succ i ih =>
  obtain ⟨h1,h2⟩:=ih (by omega);have he:es[i]?=some es[i]:=List.getElem?_eq_getElem (by omega);have hn:=at'_n (ri:=ri) (p:=p) (es:=es) i (by omega);have hr:=at'_ri (ri:=ri) (p:=p) (es:=es) i;have hd:=Nat.div_add_mod i ri;have hm:=Nat.mod_lt i hri;generalize hq:i / ri=q at *;generalize hk:i % ri=k at *;rw [at'_succ he];simp only [BWS.append,hn,hr,hk];by_cases h0:k=0
  ·subst h0;have e1:(i+ri - 1) / ri=q:=by
    rw [show i+ri - 1=ri*q+(ri - 1) by omega,Nat.mul_add_div hri,Nat.div_eq_of_lt (by omega)];rfl
   have e2:(i+1+ri - 1) / ri=q+1:=by
    rw [show i+1+ri - 1=ri*(q+1)+0 by rw [Nat.mul_add];omega,Nat.mul_add_div hri];simp
   rw [if_pos rfl,e2];rw [e1] at h1;refine ⟨by simp [h1],fun j hj=>?_⟩;by_cases hjq:j*ri < i
   ·rw [List.getElem?_append_left (lt_of_some (h2 j hjq))];exact h2 j hjq
   ·have e3:j*ri=i:=by omega
    have e4:j=q:=by
     have:j*ri=q*ri:=by rw [e3,Nat.mul_comm];omega
     exact Nat.eq_of_mul_eq_mul_right hri this
    subst e4;rw [List.getElem?_append_right (by omega),h1,e3];simp [eoff]
  ·rw [if_neg h0];have e1:(i+ri - 1) / ri=q+1:=by
    rw [show i+ri - 1=ri*(q+1)+(k - 1) by rw [Nat.mul_add];omega,Nat.mul_add_div hri,Nat.div_eq_of_lt (by omega)]
   have e2:(i+1+ri - 1) / ri=q+1:=by
    rw [show i+1+ri - 1=ri*(q+1)+k by rw [Nat.mul_add];omega,Nat.mul_add_div hri,Nat.div_eq_of_lt (by omega)]
   refine ⟨by rw [h1,e1,e2],fun j hj=>h2 j ?_⟩;rcases Nat.lt_or_ge (j*ri) i with h | h
   ·exact h
   ·have e3:j*ri=i:=by omega
    have:i % ri=0:=by rw [← e3];exact Nat.mul_mod_left j ri
    omega
def bdata (ri:Nat) (p:Bs) (es:List KV):Bs:=((BWS.new ri p).adds es).finish.buf
def bends (ri:Nat) (p:Bs) (es:List KV):List Nat:=((BWS.new ri p).adds es).ends
theorem bdata_eq:bdata ri p es=((BWS.new ri p).adds es).buf++le32s (bends ri p es++[(bends ri p es).length]):=rfl
theorem eoff_all:eoff ri p es es.length=((BWS.new ri p).adds es).buf.length:=by unfold eoff;rw [at'_all]
theorem bdata_length:(bdata ri p es).length=eoff ri p es es.length+4*((bends ri p es).length+1):=by
 rw [bdata_eq,List.length_append,le32s_length,eoff_all];simp
theorem adds_n:((BWS.new ri p).adds es).n=es.length:=by rw [BWS.adds_n];simp [BWS.new]
theorem bends_nil:bends ri p []=[0]:=rfl
theorem bends_cons (h:es≠[]):bends ri p es=((BWS.new ri p).adds es).rs:=by
 unfold bends BWS.ends;rw [adds_n,if_neg (by simpa using h)]
theorem bends_pos (hri:0 < ri):0 < (bends ri p es).length:=by
 by_cases h:es=[]
 ·subst h;simp [bends_nil]
 ·rw [bends_cons h,← at'_all,(rs_at hri es.length (Nat.le_refl _)).1];have:0 < es.length:=List.length_pos_iff.2 h;exact Nat.div_pos (by omega) hri
theorem bends_lt (hri:0 < ri) {j:Nat} (h:j < (bends ri p es).length):j=0∨j*ri < es.length:=by
 by_cases hn:es=[]
 ·subst hn;simp [bends_nil] at h;exact .inl h
 ·rw [bends_cons hn,← at'_all,(rs_at hri es.length (Nat.le_refl _)).1] at h;have h1:=(Nat.le_div_iff_mul_le hri).1 (show j+1≤(es.length+ri - 1) / ri from h);rw [Nat.add_mul] at h1;exact .inr (by omega)
theorem bends_at (hri:0 < ri) {j:Nat} (h:j < (bends ri p es).length):(bends ri p es)[j]?=some (eoff ri p es (j*ri)):=by
 by_cases hn:es=[]
 ·subst hn;simp [bends_nil] at h;subst h;simp [bends_nil,eoff_zero]
 ·rcases bends_lt hri h with h1 | h1
  ·subst h1;rw [bends_cons hn,← at'_all];exact (rs_at hri es.length (Nat.le_refl _)).2 0 (by have:=List.length_pos_iff.2 hn;omega)
  ·rw [bends_cons hn,← at'_all];exact (rs_at hri es.length (Nat.le_refl _)).2 j h1
theorem bends_cover (hri:0 < ri) {i:Nat} (h:i < es.length):i / ri < (bends ri p es).length∧i / ri*ri≤i∧i < (i / ri+1)*ri:=by
 have hn:es≠[]:=fun e=>by subst e;simp at h
 have hd:=Nat.div_add_mod i ri;have hm:=Nat.mod_lt i hri;refine ⟨?_,by rw [Nat.mul_comm];omega,by rw [Nat.add_mul,Nat.mul_comm (i / ri)];omega⟩;rw [bends_cons hn,← at'_all,(rs_at hri es.length (Nat.le_refl _)).1];refine (Nat.le_div_iff_mul_le hri).2 ?_;rw [Nat.succ_mul,Nat.mul_comm (i / ri)];omega
theorem le32s_drop:∀ (l:List Nat) (j:Nat),(le32s l).drop (4*j)=le32s (l.drop j)
 | l,0=>rfl
 | [],j+1=>by simp [le32s]
 | x :: l,j+1=>by
  have:(le32s (x :: l)).drop (4*(j+1))=(le32s l).drop (4*j):=by
   simp only [le32s,List.flatMap_cons];rw [List.drop_append,leBytes_length,List.drop_eq_nil_of_le (by rw [leBytes_length];omega)];simp only [List.nil_append];congr 1
  rw [this,le32s_drop l j];rfl
theorem le32s_at {l:List Nat} {j x:Nat} (h:l[j]?=some x):∃ r,(le32s l).drop (4*j)=Lib.leBytes 4 x++r:=by
 rw [le32s_drop];have hj:=lt_of_some h;rw [List.drop_eq_getElem_cons hj];have:l[j]=x:=Option.some.inj ((List.getElem?_eq_getElem hj).symm.trans h);rw [this];exact ⟨_,rfl⟩
theorem bdata_end {j:Nat} {x:Nat} (h:(bends ri p es++[(bends ri p es).length])[j]?=some x):∃ r,(bdata ri p es).drop (eoff ri p es es.length+4*j)=Lib.leBytes 4 x++r:=by
 rw [bdata_eq,eoff_all,List.drop_append,List.drop_eq_nil_of_le (by omega)];simp only [List.nil_append,Nat.add_sub_cancel_left];exact le32s_at h
theorem bdata_entry {i:Nat} {e:KV} (h:es[i]?=some e):∃ r,(bdata ri p es).drop (eoff ri p es i)=entry (esh ri p es i) e.1 e.2++r:=by
 obtain ⟨r,hr⟩:=buf_cut (ri:=ri) (p:=p) h;refine ⟨r++le32s (bends ri p es++[(bends ri p es).length]),?_⟩;rw [bdata_eq,hr];unfold eoff;simp
end
end
section
open Go Go.RowKit Go.Shelf
def optC (bs ri:Nat) (fl:Value):Array Value:=#[Value.slice none 0 0,.int .i64 0,.bool false,.int .i64 ri,.int .i64 bs,.int .i64 0,.int .i64 0,.int .i64 0,.int .i64 0,.int .i64 0,.float .f64 0,.slice none 0 0,.int .i64 0,.float .f64 0,.slice none 0 0,.nilIface,.int .u64 1,.bool false,.bool false,.bool false,.bool false,.bool false,.bool false,fl,.int .i64 0,.bool false,.bool false,.int .i64 0,.bool false,.int .u64 127,.int .i64 0,.int .i64 0,.int .i64 0]
def filtV (n:Nat):Value:=if n=0 then .nilIface else .iface 194 (.int .i64 n)
def OptAt (w:World) (o bs ri n:Nat):Prop:=Blk w o (optC bs ri (filtV n)) 125
theorem newBloom_any (w:World) (n:Nat):Calls Tryz.prog 41 #[.int .i64 n] w fun e w'=>e=.returned (.iface 194 (.int .i64 n))∧w'=w:=by
 go_enter Tryz.func41,Tryz.ntmps41
 go_wp2
 go_ret
 exact ⟨rfl,rfl⟩
set_option maxHeartbeats 4000000 in
theorem options_any (w:World) (bs ri n fb:Nat) :
  Calls Tryz.prog 19 #[.agg #[.int .i64 bs,.int .i64 ri,.int .i64 n,.int .i64 fb]] w fun e w'=>e=.returned (.pointer (some ⟨w.heap.size+1,0,none⟩))∧OptAt w' (w.heap.size+1) bs ri n∧Below w.heap.size w w':=by
 have hb:∀ fl,Below w.heap.size w ((w.alloc (.cells #[.int .i64 bs,.int .i64 ri,.int .i64 n,.int .i64 fb] 24)).alloc (.cells (optC bs ri fl) 125)):=fun fl=>((Below.refl w.heap.size w).alloc (Nat.le_refl _) _).alloc (by simp) _
 have hB:∀ fl,Blk ((w.alloc (.cells #[.int .i64 bs,.int .i64 ri,.int .i64 n,.int .i64 fb] 24)).alloc (.cells (optC bs ri fl) 125)) (w.heap.size+1) (optC bs ri fl) 125:=fun fl=>by
  have:=Blk.new (w.alloc (.cells #[.int .i64 bs,.int .i64 ri,.int .i64 n,.int .i64 fb] 24)) (optC bs ri fl) 125;simpa using this
 have HB:=hid hb;have HB2:=hid hB;clear hb hB;rcases Nat.eq_zero_or_pos n with h0 | h0
 ·subst h0;go_enter Tryz.func19,Tryz.ntmps19
  go_wp2
  go_ret
  refine ⟨rfl,?_,HB.out _⟩;unfold OptAt filtV;exact HB2.out .nilIface
 ·have hn:filtV n=.iface 194 (.int .i64 n):=if_neg (by omega);have HN:=hid hn;clear hn;go_enter Tryz.func19,Tryz.ntmps19
  go_wp2_with fail
  refine (newBloom_any _ n).mono ?_;rintro e w1 ⟨rfl,hw1⟩;rw [hw1];clear hw1;dsimp only;go_wp2
  go_ret
  refine ⟨rfl,?_,HB.out _⟩;unfold OptAt;rw [HN.out];exact HB2.out _
section
variable {w:World} {o bs ri n:Nat}
theorem OptAt.keep {w':World} (h:OptAt w o bs ri n) (hk:w'.heap[o]?=w.heap[o]?):OptAt w' o bs ri n:=hk.trans h
theorem getComparer_any (h:OptAt w o bs ri n):Calls Tryz.prog 35 #[.pointer (some ⟨o,0,none⟩)] w fun e w'=>e=.returned (.iface 192 (.agg #[]))∧w'=w:=by
 have h15:w.cell? ⟨o,15,none⟩=some .nilIface:=Blk.cell (k:=15) h rfl;have hn:∀ w:World,(binOp .eql 93 .nilIface .nilIface).run Tryz.prog w=.ok (.bool true) w:=fun _=>by rfl
 clear h;go_enter Tryz.func35,Tryz.ntmps35
 go_wp2
 go_ret
 exact ⟨rfl,rfl⟩
theorem getFilter_any (h:OptAt w o bs ri n):Calls Tryz.prog 36 #[.pointer (some ⟨o,0,none⟩)] w fun e w'=>e=.returned (filtV n)∧w'=w:=by
 have h15:w.cell? ⟨o,23,none⟩=some (filtV n):=Blk.cell (k:=23) h rfl;clear h;rcases Nat.eq_zero_or_pos n with h0 | h0
 ·have e:filtV n=.nilIface:=if_pos h0;rw [e] at h15 ⊢;clear e h0;go_enter Tryz.func36,Tryz.ntmps36
  go_wp2
  go_ret
  exact ⟨rfl,rfl⟩
 ·have e:filtV n=.iface 194 (.int .i64 n):=if_neg (by omega);rw [e] at h15 ⊢;clear e;go_enter Tryz.func36,Tryz.ntmps36
  go_wp2
  go_ret
  exact ⟨rfl,rfl⟩
theorem getCompression_any (h:OptAt w o bs ri n):Calls Tryz.prog 37 #[.pointer (some ⟨o,0,none⟩)] w fun e w'=>e=.returned (.int .u64 1)∧w'=w:=by
 have h15:w.cell? ⟨o,16,none⟩=some (.int .u64 1):=Blk.cell (k:=16) h rfl;clear h;go_enter Tryz.func37,Tryz.ntmps37
 go_wp2
 go_ret
 exact ⟨rfl,rfl⟩
theorem getBlockSize_any (h:OptAt w o bs ri n) (hb:0 < bs):Calls Tryz.prog 38 #[.pointer (some ⟨o,0,none⟩)] w fun e w'=>e=.returned (.int .i64 bs)∧w'=w:=by
 have h15:w.cell? ⟨o,4,none⟩=some (.int .i64 bs):=Blk.cell (k:=4) h rfl;have hn:¬ ((bs:Int)≤0):=by omega
 clear h;go_enter Tryz.func38,Tryz.ntmps38
 go_wp2
 go_ret
 exact ⟨rfl,rfl⟩
theorem getRestart_any (h:OptAt w o bs ri n) (hb:0 < ri):Calls Tryz.prog 39 #[.pointer (some ⟨o,0,none⟩)] w fun e w'=>e=.returned (.int .i64 ri)∧w'=w:=by
 have h15:w.cell? ⟨o,3,none⟩=some (.int .i64 ri):=Blk.cell (k:=3) h rfl;have hn:¬ ((ri:Int)≤0):=by omega
 clear h;go_enter Tryz.func39,Tryz.ntmps39
 go_wp2
 go_ret
 exact ⟨rfl,rfl⟩
end
end
end Go.Proofs.YtmkdpjicgjhhjaaGreatDoor
