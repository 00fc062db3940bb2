/- Part 44 of the proof of FnTableComesBack: contracts and lemmas, each under the conditions that it states. Texts: L13. -/
import Derived.Test.YtmkdpjicgjhhjaaGreatDoorC43
namespace Go.Proofs.YtmkdpjicgjhhjaaGreatDoor
open Go.Lib (hid)
set_option maxRecDepth 100000
set_option linter.all false
section
open Go Go.RowKit Go.Shelf
structure AnsRows (w:World) (pa:Option Addr) (pn pc:Nat) (fa:Option Addr) (fn fc:Nat) (a:Ans):Prop where
 p:Pairs w.heap.size w pa pn pc a.ps
 f:w.ownsRow 0 4 1 (.slice fa fn fc) fn (bools a.fs)
 fl:a.fs.length=fn
theorem AnsRows.below {w w':World} {pa fa:Option Addr} {pn pc fn fc:Nat} {a:Ans} (h:AnsRows w pa pn pc fa fn fc a) (hb:Below w.heap.size w w'):AnsRows w' pa pn pc fa fn fc a :=
 ⟨(h.p.below hb).up hb.size,own_same h.f (fun g e=>hb.block g (own_lt h.f e)),h.fl⟩
theorem isAt_true {l:List KV} {t:Bs} (h:isAt l t=true):∃ ev:KV,l[sidx l t]?=some ev∧ev.1=t:=by
 unfold isAt at h;cases hl:l[sidx l t]? with
 | none=>rw [hl] at h;cases h
 | some ev=>rw [hl] at h;exact ⟨ev,rfl,of_decide_eq_true h⟩
theorem isAt_false {l:List KV} {t:Bs} (h:isAt l t=false):∀ ev:KV,l[sidx l t]?=some ev→ev.1≠t:=fun ev he=>by
 unfold isAt at h;rw [he] at h;exact of_decide_eq_false h
theorem filter_iv {p:KV→Bool}:∀ (l:List KV) (lo hi:Nat),(∀ (i:Nat) (e:KV),l[i]?=some e→(p e=true↔lo≤i∧i < hi))→l.filter p=(l.take hi).drop lo
 | [],lo,hi,_=>by simp
 | x :: l,lo,hi,h=>by
  have ih:=filter_iv (p:=p) l (lo - 1) (hi - 1) (fun i e he=>by
   rw [h (i+1) e (by simpa using he)];omega)
  have h0:=h 0 x rfl;cases lo with
  | zero =>
   cases hi with
   | zero =>
    rw [List.filter_cons_of_neg (fun e=>by have:=h0.1 e;omega),ih];simp
   | succ k =>
    rw [List.filter_cons_of_pos (h0.2 ⟨Nat.le_refl _,by omega⟩),ih];simp
  | succ j =>
   rw [List.filter_cons_of_neg (fun e=>by have:=h0.1 e;omega),ih];cases hi with
   | zero=>simp
   | succ k=>simp
theorem cmp_nil_ge (a:Bs):0≤Lib.compareBytes a []:=by cases a <;> simp [Lib.compareBytes]
theorem range_law {l:List KV} (hR:Rising l) (s v:Bs):l.filter (rkeep s (optB v))=(l.take (rEnd l (optB v))).drop (rLo l (optB s)):=by
 have hlo:rLo l (optB s)=sidx l s:=by
  unfold optB;by_cases h:s=[]
  ·rw [if_pos h,h];exact (sidx_none (fun e _=>cmp_nil_ge e.1)).symm
  ·rw [if_neg h];rfl
 rw [hlo];have hz:∀ (t:Bs) (i:Nat) (e:KV),l[i]?=some e→(cmpI e.1 t < 0↔i < sidx l t):=fun t i e he=>by
  rw [(cmpI_sign e.1 t).1];constructor
  ·intro h;rcases Nat.lt_or_ge i (sidx l t) with h1 | h1
   ·exact h1
   ·have:=rising_ge hR h1 he;omega
  ·intro h;exact sidx_lt h he
 refine filter_iv l _ _ (fun i e he=>?_);have h1:=hz s i e he;have hi:=lt_of_some he;unfold rkeep optB;by_cases h:v=[]
 ·rw [if_pos h];show (decide (0≤cmpI e.1 s) && true)=true↔sidx l s≤i∧i < l.length
  rw [Bool.and_true,decide_eq_true_iff];omega
 ·rw [if_neg h];have h2:=hz v i e he;show (decide (0≤cmpI e.1 s) && decide (cmpI e.1 v < 0))=true↔sidx l s≤i∧i < sidx l v
  rw [Bool.and_eq_true,decide_eq_true_iff,decide_eq_true_iff];omega
set_option maxHeartbeats 16000000 in
theorem read_yes (w:World) (pa:Option Addr) (pn pc:Nat) (fa:Option Addr) (fn fc:Nat) (ps:List KV) (fs:List Bool) (N:Int) (ok:Bool) (o:OpV) (a:Option Addr) (n c:Nat) (l:List KV) (hP:Pairs w.heap.size w a n c l) (hn:n≤2147483647) (hR:Rising l) (k1:Option Addr) (n1 c1:Nat) (k2:Option Addr) (n2 c2:Nat) (hk1:Key w.heap.size w k1 n1 c1 o.key) (hk2:Key w.heap.size w k2 n2 c2 o.val) (hn2:n2≤2147483647) (hpn:o.kind=7∨o.kind=8∨o.kind=9→pn≤2147483647)
  (hA:AnsRows w pa pn pc fa fn fc ⟨ps,fs,N,ok⟩) (hok:AnsOk l o ⟨ps,fs,N,ok⟩) (hkind:o.kind=2∨o.kind=3∨o.kind=7∨o.kind=8∨o.kind=9∨o.kind=10) :
  Calls Tryz.prog 33 #[.agg #[.slice pa pn pc,.slice fa fn fc,.int .i64 N,.bool ok],.slice a n c,.agg #[.int .i64 o.kind,.slice k1 n1 c1,.slice k2 n2 c2,.int .i64 o.n]] w fun e w'=>e=.returned (.bool true)∧Below w.heap.size w w':=by
 have hlen:=hP.len;obtain ⟨w1,hw1⟩:∃ w1,w1=(w.alloc (.cells #[.slice pa pn pc,.slice fa fn fc,.int .i64 N,.bool ok] 71)).alloc (.cells #[.int .i64 o.kind,.slice k1 n1 c1,.slice k2 n2 c2,.int .i64 o.n] 43):=⟨_,rfl⟩;have hb1:Below w.heap.size w w1:=by rw [hw1];exact ((Below.refl _ _).alloc (Nat.le_refl _) _).alloc (by simp) _
 have hBa:Blk w1 w.heap.size #[.slice pa pn pc,.slice fa fn fc,.int .i64 N,.bool ok] 71:=by rw [hw1];exact (Blk.new _ _ _).alloc _
 have hBo:Blk w1 (w.heap.size+1) #[.int .i64 o.kind,.slice k1 n1 c1,.slice k2 n2 c2,.int .i64 o.n] 43:=by
  rw [hw1];have:=Blk.new (w.alloc (.cells #[.slice pa pn pc,.slice fa fn fc,.int .i64 N,.bool ok] 71)) #[.int .i64 o.kind,.slice k1 n1 c1,.slice k2 n2 c2,.int .i64 o.n] 43;simpa using this
 have hma:=mapAt_any w1 a n c l ((hP.below hb1).up hb1.size) hn k1 n1 c1 o.key ((hk1.below hb1).up hb1.size);have q1:=hBo.cell (k:=1) rfl;have HX0:=hid (show Below w.heap.size w w1∧Blk w1 w.heap.size #[.slice pa pn pc,.slice fa fn fc,.int .i64 N,.bool ok] 71∧Blk w1 (w.heap.size+1) #[.int .i64 o.kind,.slice k1 n1 c1,.slice k2 n2 c2,.int .i64 o.n] 43 from ⟨hb1,hBa,hBo⟩);have HP:=hid hP;have HA:=hid hA
 have HK:=hid (show Key w.heap.size w k1 n1 c1 o.key∧Key w.heap.size w k2 n2 c2 o.val from ⟨hk1,hk2⟩);have HOK:=hid hok;have HPN:=hid hpn;clear hpn;have HR:=hid hR;have HKD:=hid hkind;clear hb1 hBa hBo hP hA hk1 hk2 hok hR hkind;go_enter Tryz.func33,Tryz.ntmps33
 go_upto_region 1 with fail
 rw [← hw1];clear hw1;go_wp2_with fail
 refine hma.mono ?_;rintro e w2 ⟨rfl,hb12⟩;have hBa2:Blk w2 w.heap.size #[.slice pa pn pc,.slice fa fn fc,.int .i64 N,.bool ok] 71:=(hb12.block _ HX0.out.2.1.lt).trans HX0.out.2.1;have hBo2:Blk w2 (w.heap.size+1) #[.int .i64 o.kind,.slice k1 n1 c1,.slice k2 n2 c2,.int .i64 o.n] 43:=(hb12.block _ HX0.out.2.2.lt).trans HX0.out.2.2;have HX:=hid (show (Blk w2 w.heap.size #[.slice pa pn pc,.slice fa fn fc,.int .i64 N,.bool ok] 71∧Blk w2 (w.heap.size+1) #[.int .i64 o.kind,.slice k1 n1 c1,.slice k2 n2 c2,.int .i64 o.n] 43)∧Below w.heap.size w w2∧w.heap.size≤w2.heap.size from ⟨⟨hBa2,hBo2⟩,HX0.out.1.trans (hb12.mono HX0.out.1.size),(HX0.out.1.trans (hb12.mono HX0.out.1.size)).size⟩)
 have HCL:Hid (∀ wb:World,Below w.heap.size w wb→Below w2.heap.size w2 wb→(fun Wx:World=>Wx.cell? ⟨w.heap.size,0,none⟩=some (.slice pa pn pc)∧Wx.cell? ⟨w.heap.size,1,none⟩=some (.slice fa fn fc)∧Wx.cell? ⟨w.heap.size,2,none⟩=some (.int .i64 N)∧Wx.cell? ⟨w.heap.size,3,none⟩=some (.bool ok)∧Wx.cell? ⟨w.heap.size+1,0,none⟩=some (.int .i64 o.kind)∧Wx.cell? ⟨w.heap.size+1,1,none⟩=some (.slice k1 n1 c1)∧Wx.cell? ⟨w.heap.size+1,2,none⟩=some (.slice k2 n2 c2)∧Wx.cell? ⟨w.heap.size+1,3,none⟩=some (.int .i64 o.n)) wb):=hid (fun wb _ hb=>by
  have hc:∀ j,wb.cell? ⟨w.heap.size,j,none⟩=w2.cell? ⟨w.heap.size,j,none⟩:=fun j=>World.cell?_of_block (a:=⟨w.heap.size,j,none⟩) (hb.block _ HX.out.1.1.lt)
  have hd:∀ j,wb.cell? ⟨w.heap.size+1,j,none⟩=w2.cell? ⟨w.heap.size+1,j,none⟩:=fun j=>World.cell?_of_block (a:=⟨w.heap.size+1,j,none⟩) (hb.block _ HX.out.1.2.lt)
  exact ⟨(hc 0).trans (HX.out.1.1.cell (k:=0) rfl),(hc 1).trans (HX.out.1.1.cell (k:=1) rfl),(hc 2).trans (HX.out.1.1.cell (k:=2) rfl),(hc 3).trans (HX.out.1.1.cell (k:=3) rfl),(hd 0).trans (HX.out.1.2.cell (k:=0) rfl),(hd 1).trans (HX.out.1.2.cell (k:=1) rfl),(hd 2).trans (HX.out.1.2.cell (k:=2) rfl),(hd 3).trans (HX.out.1.2.cell (k:=3) rfl)⟩)
 obtain ⟨q0,q1',q2,q3,r0,r1,r2,r3⟩:=HCL.out w2 HX.out.2.1 (Below.refl _ _);clear hma hb12 hBa2 hBo2 HX0 q1;have hP2:=(HP.out.below HX.out.2.1).up HX.out.2.2;try dsimp only
 rcases HKD.out with hk | hk | hk | hk | hk | hk
 ·have hat:=atp_any (w2.drewN 1) a n c (sidx l o.key) l (show Pairs (w2.drewN 1).heap.size (w2.drewN 1) a n c l from hP2.below (Below.drewN' w2.heap.size w2 1)) hn;clear hP2;have hb2:(o.kind == 2)=true:=by rw [beq_iff_eq];exact hk
  have HKK:=hid hk;clear hk;go_upto_region 4 with fail
  refine Pos.start (fun Wx:World=>Wx.cell? ⟨w.heap.size,0,none⟩=some (.slice pa pn pc)∧Wx.cell? ⟨w.heap.size,1,none⟩=some (.slice fa fn fc)∧Wx.cell? ⟨w.heap.size,2,none⟩=some (.int .i64 N)∧Wx.cell? ⟨w.heap.size,3,none⟩=some (.bool ok)∧Wx.cell? ⟨w.heap.size+1,0,none⟩=some (.int .i64 o.kind)∧Wx.cell? ⟨w.heap.size+1,1,none⟩=some (.slice k1 n1 c1)∧Wx.cell? ⟨w.heap.size+1,2,none⟩=some (.slice k2 n2 c2)∧Wx.cell? ⟨w.heap.size+1,3,none⟩=some (.int .i64 o.n)) 6 (by kernel_rfl) ?_
  have hS:(fun Wx:World=>Wx.cell? ⟨w.heap.size,0,none⟩=some (.slice pa pn pc)∧Wx.cell? ⟨w.heap.size,1,none⟩=some (.slice fa fn fc)∧Wx.cell? ⟨w.heap.size,2,none⟩=some (.int .i64 N)∧Wx.cell? ⟨w.heap.size,3,none⟩=some (.bool ok)∧Wx.cell? ⟨w.heap.size+1,0,none⟩=some (.int .i64 o.kind)∧Wx.cell? ⟨w.heap.size+1,1,none⟩=some (.slice k1 n1 c1)∧Wx.cell? ⟨w.heap.size+1,2,none⟩=some (.slice k2 n2 c2)∧Wx.cell? ⟨w.heap.size+1,3,none⟩=some (.int .i64 o.n)) (w2.drewN 1):=⟨q0,q1',q2,q3,r0,r1,r2,r3⟩
  refine Pos.toG 7 #[false,false,false,false,false,false,false] rfl (by kernel_rfl) ?_;refine' PosG.takeK (k:=0) hS rfl (by kernel_rfl) (fun _ _ _ h=>h) (by rfl) ?_ ?_;rotate_left
  ·intro W hW;obtain ⟨s1,s2,s3,s4,s5,s6,s7,s8⟩:=hW;go_simp;try with_reducible rfl
  intro K hK;go_simp;refine hK _ ?_;clear hK K;refine' PosG.takeK (k:=1) hS rfl (by kernel_rfl) (fun _ _ _ h=>h) (by rfl) ?_ ?_;rotate_left
  ·intro W hW;obtain ⟨s1,s2,s3,s4,s5,s6,s7,s8⟩:=hW;go_simp;try with_reducible rfl
  intro K hK;go_simp;refine hK _ ?_;clear hK K;refine' PosG.takeK (k:=2) hS rfl (by kernel_rfl) (fun _ _ _ h=>h) (by rfl) ?_ ?_;rotate_left
  ·intro W hW;obtain ⟨s1,s2,s3,s4,s5,s6,s7,s8⟩:=hW;go_simp;try with_reducible rfl
  intro K hK;go_simp;refine hK _ ?_;clear hK K;refine' PosG.takeK (k:=3) hS rfl (by kernel_rfl) (fun _ _ _ h=>h) (by rfl) ?_ ?_;rotate_left
  ·intro W hW;obtain ⟨s1,s2,s3,s4,s5,s6,s7,s8⟩:=hW;go_simp;try with_reducible rfl
  intro K hK;go_simp;refine hK _ ?_;clear hK K;clear hS;refine PosG.eff (k:=4) rfl (by kernel_rfl) ?_;go_wp2_with fail
  refine hat.mono ?_;rintro e w4 ⟨x,y,rfl,hxy,hb34⟩;have hb24:Below w2.heap.size w2 w4:=(Below.drewN' w2.heap.size w2 1).trans hb34;have hb4:Below w.heap.size w w4:=HX.out.2.1.trans (hb24.mono HX.out.2.2);have hS4:=HCL.out w4 hb4 hb24;have hxs:(∃ a n c,x=.slice a n c)∧∃ a n c,y=.slice a n c:=by
   cases hl:l[sidx l o.key]? with
   | none=>rw [hl] at hxy;exact ⟨⟨_,_,_,hxy.1⟩,⟨_,_,_,hxy.2⟩⟩
   | some ev=>rw [hl] at hxy;obtain ⟨_,_,_,_,_,_,e,_⟩:=hxy;cases e;exact ⟨⟨_,_,_,rfl⟩,⟨_,_,_,rfl⟩⟩
  have hyes:∀ ev:KV,l[sidx l o.key]?=some ev→ok=true→ps=[ev]→Calls Tryz.prog 81 #[.agg #[.slice pa pn pc,.slice fa fn fc,.int .i64 N,.bool ok],.bool true,.agg #[x,y]] w4 fun e w'=>e=.returned (.bool true)∧Below w4.heap.size w4 w':=fun ev he h1 h2=>by
   have hp:=(HA.out.below hb4).p;have hpn:pn=1:=by have:=hp.len;rw [show (⟨ps,fs,N,ok⟩:Ans).ps=ps from rfl,h2] at this;exact this.symm
   rw [show (⟨ps,fs,N,ok⟩:Ans).ps=ps from rfl,h2,hpn] at hp;rw [he] at hxy;rw [hpn,h1];exact found_yes w4 pa pc (.slice fa fn fc) N x y ev hp (hxy.up hb24.size) ⟨_,_,_,rfl⟩
  have hno:ok=false→Calls Tryz.prog 81 #[.agg #[.slice pa pn pc,.slice fa fn fc,.int .i64 N,.bool ok],.bool false,.agg #[x,y]] w4 fun e w'=>e=.returned (.bool true)∧Below w4.heap.size w4 w':=fun h1=>by
   have:=found_no w4 (.slice pa pn pc) (.slice fa fn fc) N ok x y ⟨⟨_,_,_,rfl⟩,⟨_,_,_,rfl⟩,hxs.1,hxs.2⟩;rw [h1] at this ⊢;exact this
  have hfd:Calls Tryz.prog 81 #[.agg #[.slice pa pn pc,.slice fa fn fc,.int .i64 N,.bool ok],.bool (isAt l o.key),.agg #[x,y]] w4 fun e w'=>e=.returned (.bool true)∧Below w4.heap.size w4 w':=by
   cases his:isAt l o.key with
   | true =>
    obtain ⟨ev,h1,h2⟩:=isAt_true his;rcases HOK.out.get HKK.out with ⟨e1,ev',e2,e3,e4⟩ | ⟨_,e2⟩
    ·rw [h1] at e2;cases e2
     exact hyes ev h1 e1 e4
    ·exact absurd h2 (e2 ev h1)
   | false =>
    rcases HOK.out.get HKK.out with ⟨e1,ev',e2,e3,e4⟩ | ⟨e1,_⟩
    ·exact absurd e3 (isAt_false his ev' e2)
    ·exact hno e1
  have HB4:=hid (show Below w.heap.size w w4∧Below w2.heap.size w2 w4 from ⟨hb4,hb24⟩);clear hat hxy hb34 hb4 hb24 hyes hno;obtain ⟨⟨xa,xn,xc,rfl⟩,ya,yn,yc,rfl⟩:=hxs;try dsimp only
  go_wp2_with fail
  refine ⟨hS4,?_⟩;clear hS4;refine PosG.eff (k:=5) rfl (by kernel_rfl) ?_;go_wp2_with fail
  refine hfd.mono ?_;rintro e w5 ⟨rfl,hb5⟩;have hb05:=HB4.out.1.trans (hb5.mono HB4.out.1.size);have hS5:=HCL.out w5 hb05 (HB4.out.2.trans (hb5.mono HB4.out.2.size));have HB5:=hid hb05;clear hfd hb5 hb05;try dsimp only
  go_wp2_with fail
  refine ⟨hS5,?_⟩;clear hS5;refine PosG.tail rfl (by kernel_rfl) (by kernel_rfl) (by decide) ?_;simp only [List.drop_succ_cons,List.drop_zero];go_wp2
  go_ret
  exact ⟨rfl,HB5.out⟩
 ·have hat:=atp_any (w2.drewN 1) a n c (sidx l o.key) l (show Pairs (w2.drewN 1).heap.size (w2.drewN 1) a n c l from hP2.below (Below.drewN' w2.heap.size w2 1)) hn;clear hP2;have hb2:(o.kind == 2)=false:=by rw [beq_eq_false_iff_ne];omega
  have hb3:(o.kind == 3)=true:=by rw [beq_iff_eq];exact hk
  have HKK:=hid hk;clear hk;generalize hIS:isAt l o.key=is at *;have HIS:=hid hIS;clear hIS;go_upto_region 6 with fail
  go_cut [39] from 28 (fun v wx=>v=.bool ((o.n == 1) && !is && !ok)∧wx=w2)
  case first=>as_aux_lemma =>
   cases h1:(o.n == 1) <;> cases is <;> cases ok <;> (go_wp2_with fail;go_meet;exact ⟨by rw [h1];rfl,rfl⟩)
  case rest =>
  obtain ⟨rfl,hwc⟩:=hcut;rw [hwc];clear hwc wc;cases hB:((o.n == 1) && !is && !ok)
  ·have HB:=hid hB;clear hB;go_upto_region 8 with fail
   refine Pos.start (fun Wx:World=>Wx.cell? ⟨w.heap.size,0,none⟩=some (.slice pa pn pc)∧Wx.cell? ⟨w.heap.size,1,none⟩=some (.slice fa fn fc)∧Wx.cell? ⟨w.heap.size,2,none⟩=some (.int .i64 N)∧Wx.cell? ⟨w.heap.size,3,none⟩=some (.bool ok)∧Wx.cell? ⟨w.heap.size+1,0,none⟩=some (.int .i64 o.kind)∧Wx.cell? ⟨w.heap.size+1,1,none⟩=some (.slice k1 n1 c1)∧Wx.cell? ⟨w.heap.size+1,2,none⟩=some (.slice k2 n2 c2)∧Wx.cell? ⟨w.heap.size+1,3,none⟩=some (.int .i64 o.n)) 9 (by kernel_rfl) ?_
   have hS:(fun Wx:World=>Wx.cell? ⟨w.heap.size,0,none⟩=some (.slice pa pn pc)∧Wx.cell? ⟨w.heap.size,1,none⟩=some (.slice fa fn fc)∧Wx.cell? ⟨w.heap.size,2,none⟩=some (.int .i64 N)∧Wx.cell? ⟨w.heap.size,3,none⟩=some (.bool ok)∧Wx.cell? ⟨w.heap.size+1,0,none⟩=some (.int .i64 o.kind)∧Wx.cell? ⟨w.heap.size+1,1,none⟩=some (.slice k1 n1 c1)∧Wx.cell? ⟨w.heap.size+1,2,none⟩=some (.slice k2 n2 c2)∧Wx.cell? ⟨w.heap.size+1,3,none⟩=some (.int .i64 o.n)) (w2.drewN 1):=⟨q0,q1',q2,q3,r0,r1,r2,r3⟩
   refine Pos.toG 10 #[false,false,false,false,false,false,false,false,false,false] rfl (by kernel_rfl) ?_;refine' PosG.takeK (k:=0) hS rfl (by kernel_rfl) (fun _ _ _ h=>h) (by rfl) ?_ ?_;rotate_left
   ·intro W hW;obtain ⟨s1,s2,s3,s4,s5,s6,s7,s8⟩:=hW;go_simp;try with_reducible rfl
   intro K hK;go_simp;refine hK _ ?_;clear hK K;refine' PosG.takeK (k:=1) hS rfl (by kernel_rfl) (fun _ _ _ h=>h) (by rfl) ?_ ?_;rotate_left
   ·intro W hW;obtain ⟨s1,s2,s3,s4,s5,s6,s7,s8⟩:=hW;go_simp;try with_reducible rfl
   intro K hK;go_simp;refine hK _ ?_;clear hK K;refine' PosG.takeK (k:=2) hS rfl (by kernel_rfl) (fun _ _ _ h=>h) (by rfl) ?_ ?_;rotate_left
   ·intro W hW;obtain ⟨s1,s2,s3,s4,s5,s6,s7,s8⟩:=hW;go_simp;try with_reducible rfl
   intro K hK;go_simp;refine hK _ ?_;clear hK K;refine' PosG.takeK (k:=3) hS rfl (by kernel_rfl) (fun _ _ _ h=>h) (by rfl) ?_ ?_;rotate_left
   ·intro W hW;obtain ⟨s1,s2,s3,s4,s5,s6,s7,s8⟩:=hW;go_simp;try with_reducible rfl
   intro K hK;go_simp;refine hK _ ?_;clear hK K;refine' PosG.takeK (k:=4) hS rfl (by kernel_rfl) (fun _ _ _ h=>h) (by rfl) ?_ ?_;rotate_left
   ·intro W hW;obtain ⟨s1,s2,s3,s4,s5,s6,s7,s8⟩:=hW;go_simp;try with_reducible rfl
   intro K hK;go_simp;refine hK _ ?_;clear hK K;refine' PosG.takeK (k:=5) hS rfl (by kernel_rfl) (fun _ _ _ h=>h) (by rfl) ?_ ?_;rotate_left
   ·intro W hW;obtain ⟨s1,s2,s3,s4,s5,s6,s7,s8⟩:=hW;go_simp;try with_reducible rfl
   intro K hK;go_simp;refine hK _ ?_;clear hK K;refine' PosG.takeK (k:=6) hS rfl (by kernel_rfl) (fun _ _ _ h=>h) (by rfl) ?_ ?_;rotate_left
   ·intro W hW;obtain ⟨s1,s2,s3,s4,s5,s6,s7,s8⟩:=hW;go_simp;try with_reducible rfl
   intro K hK;go_simp;refine hK _ ?_;clear hK K;clear hS;refine PosG.eff (k:=7) rfl (by kernel_rfl) ?_;go_wp2_with fail
   refine hat.mono ?_;rintro e w4 ⟨x,y,rfl,hxy,hb34⟩;have hb24:Below w2.heap.size w2 w4:=(Below.drewN' w2.heap.size w2 1).trans hb34;have hb4:Below w.heap.size w w4:=HX.out.2.1.trans (hb24.mono HX.out.2.2);have hS4:=HCL.out w4 hb4 hb24;have hxs:(∃ a n c,x=.slice a n c)∧∃ a n c,y=.slice a n c:=by
    cases hl:l[sidx l o.key]? with
    | none=>rw [hl] at hxy;exact ⟨⟨_,_,_,hxy.1⟩,⟨_,_,_,hxy.2⟩⟩
    | some ev=>rw [hl] at hxy;obtain ⟨_,_,_,_,_,_,e,_⟩:=hxy;cases e;exact ⟨⟨_,_,_,rfl⟩,⟨_,_,_,rfl⟩⟩
   have hyes:∀ ev:KV,l[sidx l o.key]?=some ev→ok=true→ps=[ev]→Calls Tryz.prog 81 #[.agg #[.slice pa pn pc,.slice fa fn fc,.int .i64 N,.bool ok],.bool true,.agg #[x,y]] w4 fun e w'=>e=.returned (.bool true)∧Below w4.heap.size w4 w':=fun ev he h1 h2=>by
    have hp:=(HA.out.below hb4).p;have hpn:pn=1:=by have:=hp.len;rw [show (⟨ps,fs,N,ok⟩:Ans).ps=ps from rfl,h2] at this;exact this.symm
    rw [show (⟨ps,fs,N,ok⟩:Ans).ps=ps from rfl,h2,hpn] at hp;rw [he] at hxy;rw [hpn,h1];exact found_yes w4 pa pc (.slice fa fn fc) N x y ev hp (hxy.up hb24.size) ⟨_,_,_,rfl⟩
   have hno:ok=false→Calls Tryz.prog 81 #[.agg #[.slice pa pn pc,.slice fa fn fc,.int .i64 N,.bool ok],.bool false,.agg #[x,y]] w4 fun e w'=>e=.returned (.bool true)∧Below w4.heap.size w4 w':=fun h1=>by
    have:=found_no w4 (.slice pa pn pc) (.slice fa fn fc) N ok x y ⟨⟨_,_,_,rfl⟩,⟨_,_,_,rfl⟩,hxs.1,hxs.2⟩;rw [h1] at this ⊢;exact this
   have hfd:Calls Tryz.prog 81 #[.agg #[.slice pa pn pc,.slice fa fn fc,.int .i64 N,.bool ok],.bool (decide (sidx l o.key < n)),.agg #[x,y]] w4 fun e w'=>e=.returned (.bool true)∧Below w4.heap.size w4 w':=by
    by_cases hlt:sidx l o.key < n
    ·rw [decide_eq_true hlt];rcases HOK.out.find HKK.out with ⟨e1,ev,e2,e3⟩ | ⟨e1,e2 | ⟨e2,e3⟩⟩
     ·exact hyes ev e2 e1 e3
     ·exfalso;omega
     ·exfalso
      have h0:=HB.out;have h1:ok=false:=e1;have h2:is=false:=by
       cases is with
       | false=>rfl
       | true =>
        obtain ⟨ev,h3,h4⟩:=isAt_true HIS.out;exact absurd h4 (e3 ev h3)
      rw [h1,h2,e2] at h0;exact absurd h0 (by decide)
    ·rw [decide_eq_false hlt];rcases HOK.out.find HKK.out with ⟨e1,ev,e2,e3⟩ | ⟨e1,_⟩
     ·exfalso
      have:=lt_of_some e2;omega
     ·exact hno e1
   have HB4:=hid (show Below w.heap.size w w4∧Below w2.heap.size w2 w4 from ⟨hb4,hb24⟩);clear hat hxy hb34 hb4 hb24 hyes hno;obtain ⟨⟨xa,xn,xc,rfl⟩,ya,yn,yc,rfl⟩:=hxs;try dsimp only
   go_wp2_with fail
   refine ⟨hS4,?_⟩;clear hS4;refine PosG.eff (k:=8) rfl (by kernel_rfl) ?_;go_wp2_with fail
   refine hfd.mono ?_;rintro e w5 ⟨rfl,hb5⟩;have hb05:=HB4.out.1.trans (hb5.mono HB4.out.1.size);have hS5:=HCL.out w5 hb05 (HB4.out.2.trans (hb5.mono HB4.out.2.size));have HB5:=hid hb05;clear hfd hb5 hb05;try dsimp only
   go_wp2_with fail
   refine ⟨hS5,?_⟩;clear hS5;refine PosG.tail rfl (by kernel_rfl) (by kernel_rfl) (by decide) ?_;simp only [List.drop_succ_cons,List.drop_zero];go_wp2
   go_ret
   exact ⟨rfl,HB5.out⟩
  ·have HF:=hid HX.out.2.1;go_wp2
   go_ret
   exact ⟨rfl,HF.out⟩
 ·have hpn:=HPN.out (by omega);have hpr:=pairs_any w2 pa pn pc ps ((HA.out.below HX.out.2.1).p) hpn;have hb2:(o.kind == 2)=false:=by rw [beq_eq_false_iff_ne];omega
  have hb3:(o.kind == 3)=false:=by rw [beq_eq_false_iff_ne];omega
  have hb4:(o.kind == 4)=false:=by rw [beq_eq_false_iff_ne];omega
  have hb5:(o.kind == 5)=false:=by rw [beq_eq_false_iff_ne];omega
  have hb7:(o.kind == 7)=true:=by rw [beq_iff_eq];exact hk
  have HKK:=hid hk;clear hk;clear hP2;go_wp2_with fail
  refine hpr.mono ?_;rintro e w3 ⟨a3,c3,rfl,hp3,hb3⟩;have hb03:Below w.heap.size w w3:=HX.out.2.1.trans (hb3.mono HX.out.2.2);have hps:ps=l:=HOK.out.fwd HKK.out;have hpl:pn=n:=by have h1:=hp3.len;rw [hps] at h1;omega
  rw [hps,hpl] at hp3;have heq:=equal_yes w3 a3 a n c3 c l hp3 ((HP.out.below hb03).up hb03.size) hn;have HB3:=hid hb03;clear hpr hp3 hb3 hb03 hps;rw [hpl];clear hpl;try dsimp only
  go_wp2_with fail
  refine heq.mono ?_;rintro e w5 ⟨rfl,hb5⟩;have HB5:=hid (HB3.out.trans (hb5.mono HB3.out.size));clear heq hb5;try dsimp only
  go_wp2
  go_ret
  exact ⟨rfl,HB5.out⟩
 ·have hpn:=HPN.out (by omega);have hpr:=pairs_any w2 pa pn pc ps ((HA.out.below HX.out.2.1).p) hpn;have hb2:(o.kind == 2)=false:=by rw [beq_eq_false_iff_ne];omega
  have hb3:(o.kind == 3)=false:=by rw [beq_eq_false_iff_ne];omega
  have hb4:(o.kind == 4)=false:=by rw [beq_eq_false_iff_ne];omega
  have hb5:(o.kind == 5)=false:=by rw [beq_eq_false_iff_ne];omega
  have hb7:(o.kind == 7)=false:=by rw [beq_eq_false_iff_ne];omega
  have hb8:(o.kind == 8)=true:=by rw [beq_iff_eq];exact hk
  have HKK:=hid hk;clear hk;clear hP2;go_wp2_with fail
  refine hpr.mono ?_;rintro e w3 ⟨a3,c3,rfl,hp3,hb3⟩;have hb03:Below w.heap.size w w3:=HX.out.2.1.trans (hb3.mono HX.out.2.2);have hps:ps=l.reverse:=HOK.out.bwd HKK.out;have hpl:pn=n:=by have h1:=hp3.len;rw [hps,List.length_reverse] at h1;omega
  rw [hps,hpl] at hp3;have hbw:=backward_any w3 a n c l ((HP.out.below hb03).up hb03.size) hn;have HB3:=hid (show Below w.heap.size w w3∧Pairs w3.heap.size w3 a3 n c3 l.reverse from ⟨hb03,hp3⟩);clear hpr hp3 hb3 hb03 hps;rw [hpl];clear hpl;try dsimp only
  go_wp2_with fail
  refine hbw.mono ?_;rintro e w4 ⟨a4,c4,rfl,hp4,hb4⟩;have hb04:=HB3.out.1.trans (hb4.mono HB3.out.1.size);have heq:=equal_yes w4 a3 a4 n c3 c4 l.reverse ((HB3.out.2.below hb4).up hb4.size) hp4 hn;have HB4:=hid hb04;clear hbw hp4 hb4 hb04;try dsimp only
  go_wp2_with fail
  refine heq.mono ?_;rintro e w5 ⟨rfl,hb5⟩;have HB5:=hid (HB4.out.trans (hb5.mono HB4.out.size));clear heq hb5;try dsimp only
  go_wp2
  go_ret
  exact ⟨rfl,HB5.out⟩
 ·have hpn:=HPN.out (by omega);have hpr:=pairs_any (w2.drewN 1) pa pn pc ps (show Pairs (w2.drewN 1).heap.size (w2.drewN 1) pa pn pc ps from ((HA.out.below HX.out.2.1).p).below (Below.drewN' w2.heap.size w2 1)) hpn;obtain ⟨ta,tn,tc,hbd,htt⟩:∃ ta tn tc,(∀ W,Calls Tryz.prog 86 #[.slice k2 n2 c2] W fun e w'=>e=.returned (.slice ta tn tc)∧w'=W)∧((optB o.val=none∧(Value.slice ta tn tc)=.slice none 0 0)∨∃ tk b o' tn' tc',optB o.val=some tk∧(Value.slice ta tn tc)=.slice (some ⟨b,o',none⟩) tn' tc'∧Key w.heap.size w (some ⟨b,o',none⟩) tn' tc' tk):=by
   have hvl:=HK.out.2.sl.len;by_cases h0:n2=0
   ·refine ⟨none,0,0,fun W=>?_,.inl ⟨by unfold optB;rw [if_pos (List.length_eq_zero_iff.1 (by omega))],rfl⟩⟩;have:=bound_any W k2 n2 c2;rw [if_pos h0] at this;exact this
   ·obtain ⟨b,o',hbo⟩:=HK.out.2.sl.form (by omega);refine ⟨k2,n2,c2,fun W=>?_,.inr ⟨o.val,b,o',n2,c2,by unfold optB;rw [if_neg (fun e=>by rw [e] at hvl;simp at hvl;omega)],by rw [hbo],by rw [← hbo];exact HK.out.2⟩⟩;have:=bound_any W k2 n2 c2;rw [if_neg h0] at this;exact this
  have HTT:=hid htt;clear htt;have hb2:(o.kind == 2)=false:=by rw [beq_eq_false_iff_ne];omega
  have hb3:(o.kind == 3)=false:=by rw [beq_eq_false_iff_ne];omega
  have hb4:(o.kind == 4)=false:=by rw [beq_eq_false_iff_ne];omega
  have hb5:(o.kind == 5)=false:=by rw [beq_eq_false_iff_ne];omega
  have hb7:(o.kind == 7)=false:=by rw [beq_eq_false_iff_ne];omega
  have hb8:(o.kind == 8)=false:=by rw [beq_eq_false_iff_ne];omega
  have hb9:(o.kind == 9)=true:=by rw [beq_iff_eq];exact hk
  have HKK:=hid hk;clear hk;clear hP2;go_upto_region 18 with fail
  refine Pos.start (fun Wx:World=>Wx.cell? ⟨w.heap.size,0,none⟩=some (.slice pa pn pc)∧Wx.cell? ⟨w.heap.size,1,none⟩=some (.slice fa fn fc)∧Wx.cell? ⟨w.heap.size,2,none⟩=some (.int .i64 N)∧Wx.cell? ⟨w.heap.size,3,none⟩=some (.bool ok)∧Wx.cell? ⟨w.heap.size+1,0,none⟩=some (.int .i64 o.kind)∧Wx.cell? ⟨w.heap.size+1,1,none⟩=some (.slice k1 n1 c1)∧Wx.cell? ⟨w.heap.size+1,2,none⟩=some (.slice k2 n2 c2)∧Wx.cell? ⟨w.heap.size+1,3,none⟩=some (.int .i64 o.n)) 11 (by kernel_rfl) ?_
  have hS:(fun Wx:World=>Wx.cell? ⟨w.heap.size,0,none⟩=some (.slice pa pn pc)∧Wx.cell? ⟨w.heap.size,1,none⟩=some (.slice fa fn fc)∧Wx.cell? ⟨w.heap.size,2,none⟩=some (.int .i64 N)∧Wx.cell? ⟨w.heap.size,3,none⟩=some (.bool ok)∧Wx.cell? ⟨w.heap.size+1,0,none⟩=some (.int .i64 o.kind)∧Wx.cell? ⟨w.heap.size+1,1,none⟩=some (.slice k1 n1 c1)∧Wx.cell? ⟨w.heap.size+1,2,none⟩=some (.slice k2 n2 c2)∧Wx.cell? ⟨w.heap.size+1,3,none⟩=some (.int .i64 o.n)) (w2.drewN 1):=⟨q0,q1',q2,q3,r0,r1,r2,r3⟩
  refine Pos.toG 12 #[false,false,false,false,false,false,false,false,false,false,false,false] rfl (by kernel_rfl) ?_;refine' PosG.takeK (k:=0) hS rfl (by kernel_rfl) (fun _ _ _ h=>h) (by rfl) ?_ ?_;rotate_left
  ·intro W hW;obtain ⟨s1,s2,s3,s4,s5,s6,s7,s8⟩:=hW;go_simp;try with_reducible rfl
  intro K hK;go_simp;refine hK _ ?_;clear hK K;refine' PosG.takeK (k:=1) hS rfl (by kernel_rfl) (fun _ _ _ h=>h) (by rfl) ?_ ?_;rotate_left
  ·intro W hW;obtain ⟨s1,s2,s3,s4,s5,s6,s7,s8⟩:=hW;go_simp;try with_reducible rfl
  intro K hK;go_simp;refine hK _ ?_;clear hK K;refine' PosG.takeK (k:=3) hS rfl (by kernel_rfl) (fun _ _ _ h=>h) (by rfl) ?_ ?_;rotate_left
  ·intro W hW;obtain ⟨s1,s2,s3,s4,s5,s6,s7,s8⟩:=hW;go_simp;try with_reducible rfl
  intro K hK;go_simp;refine hK _ ?_;clear hK K;refine' PosG.takeK (k:=4) hS rfl (by kernel_rfl) (fun _ _ _ h=>h) (by rfl) ?_ ?_;rotate_left
  ·intro W hW;obtain ⟨s1,s2,s3,s4,s5,s6,s7,s8⟩:=hW;go_simp;try with_reducible rfl
  intro K hK;go_simp;refine hK _ ?_;clear hK K;refine' PosG.takeK (k:=5) hS rfl (by kernel_rfl) (fun _ _ _ h=>h) (by rfl) ?_ ?_;rotate_left
  ·intro W hW;obtain ⟨s1,s2,s3,s4,s5,s6,s7,s8⟩:=hW;go_simp;try with_reducible rfl
  intro K hK;go_simp;refine hK _ ?_;clear hK K;refine' PosG.takeK (k:=6) hS rfl (by kernel_rfl) (fun _ _ _ h=>h) (by rfl) ?_ ?_;rotate_left
  ·intro W hW;obtain ⟨s1,s2,s3,s4,s5,s6,s7,s8⟩:=hW;go_simp;try with_reducible rfl
  intro K hK;go_simp;refine hK _ ?_;clear hK K;refine' PosG.takeK (k:=7) hS rfl (by kernel_rfl) (fun _ _ _ h=>h) (by rfl) ?_ ?_;rotate_left
  ·intro W hW;obtain ⟨s1,s2,s3,s4,s5,s6,s7,s8⟩:=hW;go_simp;try with_reducible rfl
  intro K hK;go_simp;refine hK _ ?_;clear hK K;clear hS;refine PosG.eff (k:=2) rfl (by kernel_rfl) ?_;go_wp2_with fail
  refine hpr.mono ?_;rintro e w3 ⟨a3,c3,rfl,hp3,hb3⟩;have hb23:Below w2.heap.size w2 w3:=(Below.drewN' w2.heap.size w2 1).trans hb3;have hb03:Below w.heap.size w w3:=HX.out.2.1.trans (hb23.mono HX.out.2.2);have hS:(fun Wx:World=>Wx.cell? ⟨w.heap.size,0,none⟩=some (.slice pa pn pc)∧Wx.cell? ⟨w.heap.size,1,none⟩=some (.slice fa fn fc)∧Wx.cell? ⟨w.heap.size,2,none⟩=some (.int .i64 N)∧Wx.cell? ⟨w.heap.size,3,none⟩=some (.bool ok)∧Wx.cell? ⟨w.heap.size+1,0,none⟩=some (.int .i64 o.kind)∧Wx.cell? ⟨w.heap.size+1,1,none⟩=some (.slice k1 n1 c1)∧Wx.cell? ⟨w.heap.size+1,2,none⟩=some (.slice k2 n2 c2)∧Wx.cell? ⟨w.heap.size+1,3,none⟩=some (.int .i64 o.n)) w3:=HCL.out w3 hb03 hb23
  have hrg:=mapRange_any w3 a n c l ((HP.out.below hb03).up hb03.size) hn k1 n1 c1 o.key ((HK.out.1.below hb03).up hb03.size) (.slice ta tn tc) (optB o.val) (by
   rcases HTT.out with h | ⟨tk,b,o',tn',tc',h1,h2,h3⟩
   ·exact .inl h
   ·exact .inr ⟨tk,b,o',tn',tc',h1,h2,(h3.below hb03).up hb03.size⟩)
  rw [range_law HR.out] at hrg;have hps:ps=(l.take (rEnd l (optB o.val))).drop (rLo l (optB o.key)):=HOK.out.rng HKK.out;rw [← hps] at hrg;have hpl:ps.length=pn:=hp3.len;rw [hpl] at hrg;have HB3:=hid (show Below w.heap.size w w3∧Below w2.heap.size w2 w3∧Pairs w3.heap.size w3 a3 pn c3 ps from ⟨hb03,hb23,hp3⟩);clear hpr hp3 hb3 hb03 hb23 hps hpl;try dsimp only
  go_wp2_with fail
  refine ⟨hS,?_⟩;refine' PosG.call (k:=8) 86 #[.slice k2 n2 c2] hS rfl (by kernel_rfl) (fun _ _ _ h=>h) (by rfl) ?_ (fun W hW=>hbd W) ?_
  ·intro W hW;obtain ⟨s1,s2,s3,s4,s5,s6,s7,s8⟩:=hW;go_simp;try with_reducible rfl
  intro K hK;go_simp;refine hK _ ?_;clear hK K;clear hS;refine PosG.eff (k:=9) rfl (by kernel_rfl) ?_;go_wp2_with fail
  refine hrg.mono ?_;rintro e w4 ⟨a4,c4,rfl,hp4,hb4⟩;have hb04:=HB3.out.1.trans (hb4.mono HB3.out.1.size);have hS:(fun Wx:World=>Wx.cell? ⟨w.heap.size,0,none⟩=some (.slice pa pn pc)∧Wx.cell? ⟨w.heap.size,1,none⟩=some (.slice fa fn fc)∧Wx.cell? ⟨w.heap.size,2,none⟩=some (.int .i64 N)∧Wx.cell? ⟨w.heap.size,3,none⟩=some (.bool ok)∧Wx.cell? ⟨w.heap.size+1,0,none⟩=some (.int .i64 o.kind)∧Wx.cell? ⟨w.heap.size+1,1,none⟩=some (.slice k1 n1 c1)∧Wx.cell? ⟨w.heap.size+1,2,none⟩=some (.slice k2 n2 c2)∧Wx.cell? ⟨w.heap.size+1,3,none⟩=some (.int .i64 o.n)) w4:=HCL.out w4 hb04 (HB3.out.2.1.trans (hb4.mono HB3.out.2.1.size))
  have heq:=equal_yes w4 a3 a4 pn c3 c4 ps ((HB3.out.2.2.below hb4).up hb4.size) hp4 hpn;have HB4:=hid (show Below w.heap.size w w4∧Below w2.heap.size w2 w4 from ⟨hb04,HB3.out.2.1.trans (hb4.mono HB3.out.2.1.size)⟩);clear hrg hp4 hb4 hb04;try dsimp only
  go_wp2_with fail
  refine ⟨hS,?_⟩;clear hS;refine PosG.eff (k:=10) rfl (by kernel_rfl) ?_;go_wp2_with fail
  refine heq.mono ?_;rintro e w5 ⟨rfl,hb5⟩;have hb05:=HB4.out.1.trans (hb5.mono HB4.out.1.size);have hS:(fun Wx:World=>Wx.cell? ⟨w.heap.size,0,none⟩=some (.slice pa pn pc)∧Wx.cell? ⟨w.heap.size,1,none⟩=some (.slice fa fn fc)∧Wx.cell? ⟨w.heap.size,2,none⟩=some (.int .i64 N)∧Wx.cell? ⟨w.heap.size,3,none⟩=some (.bool ok)∧Wx.cell? ⟨w.heap.size+1,0,none⟩=some (.int .i64 o.kind)∧Wx.cell? ⟨w.heap.size+1,1,none⟩=some (.slice k1 n1 c1)∧Wx.cell? ⟨w.heap.size+1,2,none⟩=some (.slice k2 n2 c2)∧Wx.cell? ⟨w.heap.size+1,3,none⟩=some (.int .i64 o.n)) w5:=HCL.out w5 hb05 (HB4.out.2.trans (hb5.mono HB4.out.2.size))
  have HB5:=hid hb05;clear heq hb5 hb05;try dsimp only
  go_wp2_with fail
  refine ⟨hS,?_⟩;clear hS;refine PosG.tail rfl (by kernel_rfl) (by kernel_rfl) (by decide) ?_;simp only [List.drop_succ_cons,List.drop_zero];go_wp2
  go_ret
  exact ⟨rfl,HB5.out⟩
 ·have hok10:=HOK.out.scr hk;have e1:ps=sPrs l (sidx l o.key) 0 o.val o.val.length:=hok10.1;have e2:fs=sFls l.length (sidx l o.key) 0 o.val o.val.length:=hok10.2;have hvl:=HK.out.2.sl.len;rw [hvl] at e1 e2;have hA2:=HA.out.below HX.out.2.1;have hpl:pn=n2:=by have:=hA2.p.len;rw [show (⟨ps,fs,N,ok⟩:Ans).ps=ps from rfl,e1,sPrs_len] at this;omega
  have hfl:fn=n2:=by have:=hA2.fl;rw [show (⟨ps,fs,N,ok⟩:Ans).fs=fs from rfl,e2,sFls_len] at this;omega
  have hpp:=hA2.p;have hff:=hA2.f;rw [show (⟨ps,fs,N,ok⟩:Ans).ps=ps from rfl,e1,hpl] at hpp;rw [show (⟨ps,fs,N,ok⟩:Ans).fs=fs from rfl,e2,hfl] at hff;have hwk:=walked_yes w2 pa fa pc fc N ok a n c l hP2 hn k2 n2 c2 o.val ((HK.out.2.below HX.out.2.1).up HX.out.2.2) hn2 k1 n1 c1 o.key ((HK.out.1.below HX.out.2.1).up HX.out.2.2) hpp hff;rw [hpl] at q0;rw [hfl] at q1';have HB2:=hid HX.out.2.1;have hb2:(o.kind == 2)=false:=by rw [beq_eq_false_iff_ne];omega
  have hb3:(o.kind == 3)=false:=by rw [beq_eq_false_iff_ne];omega
  have hb4:(o.kind == 4)=false:=by rw [beq_eq_false_iff_ne];omega
  have hb5:(o.kind == 5)=false:=by rw [beq_eq_false_iff_ne];omega
  have hb7:(o.kind == 7)=false:=by rw [beq_eq_false_iff_ne];omega
  have hb8:(o.kind == 8)=false:=by rw [beq_eq_false_iff_ne];omega
  have hb9:(o.kind == 9)=false:=by rw [beq_eq_false_iff_ne];omega
  have hb10:(o.kind == 10)=true:=by rw [beq_iff_eq];exact hk
  have HKK:=hid hk;clear hk;clear hP2 hok10 e1 e2 hvl hA2 hpl hfl hpp hff;go_wp2_with fail
  refine hwk.mono ?_;rintro e w5 ⟨rfl,hb5⟩;have HB5:=hid (HB2.out.trans (hb5.mono HB2.out.size));clear hwk hb5;try dsimp only
  go_wp2
  go_ret
  exact ⟨rfl,HB5.out⟩
end
end Go.Proofs.YtmkdpjicgjhhjaaGreatDoor
