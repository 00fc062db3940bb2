/- Part 45 of the proof of FnTableComesBack: contracts and lemmas, each under the conditions that it states. Texts: L14, L15, L1, RNw2. -/
import Derived.Test.YtmkdpjicgjhhjaaGreatDoorC44
import Derived.Test.YtmkdpjicgjhhjaaGreatDoorC42
import Derived.Test.YtmkdpjicgjhhjaaGreatDoorC41
namespace Go.Proofs.YtmkdpjicgjhhjaaGreatDoor
open Go.Lib (hid)
set_option maxRecDepth 100000
set_option linter.all false
section
open Go Go.RowKit Go.Shelf
theorem AnsOk.ps_le {l:List KV} {o:OpV} {a:Ans} (h:AnsOk l o a) (hl:l.length≤2147483647) (hk:o.kind=7∨o.kind=8∨o.kind=9):a.ps.length≤2147483647:=by
 rcases hk with hk | hk | hk
 ·rw [h.fwd hk];exact hl
 ·rw [h.bwd hk,List.length_reverse];exact hl
 ·rw [h.rng hk,List.length_drop,List.length_take];omega
theorem flatA_get:∀ (cs:List (Value × Value)) (l:List Ans) (i:Nat) (c:Value × Value) (a:Ans),cs[i]?=some c→l[i]?=some a→(flatA cs l)[i*4]?=some c.1∧(flatA cs l)[i*4+1]?=some c.2∧(flatA cs l)[i*4+2]?=some (.int .i64 a.n)∧(flatA cs l)[i*4+3]?=some (.bool a.ok)
 | [],_,i,c,a,h,_=>by simp at h
 | _ :: _,[],i,c,a,_,h=>by simp at h
 | x :: cs,y :: l,0,c,a,h1,h2=>by
  simp at h1 h2;subst h1 h2;simp [flatA,acells]
 | x :: cs,y :: l,i+1,c,a,h1,h2=>by
  have:=flatA_get cs l i c a (by simpa using h1) (by simpa using h2);simp only [flatA,acells,List.cons_append,List.nil_append];rw [show (i+1)*4=i*4+4 by omega];exact this
set_option maxHeartbeats 16000000 in
theorem scripted_yes (w:World) (ga:Option Addr) (gc:Nat) (al:List Ans) (cs:List (Value × Value)) (hG:AnssAt w (.slice ga al.length gc) al cs) (a:Option Addr) (n c:Nat) (l:List KV) (hP:Pairs w.heap.size w a n c l) (hn:n≤2147483647) (hR:Rising l) (oa:Option Addr) (on oc:Nat) (ops:List OpV) (hO:OpsAt w.heap.size w oa on oc ops) (hon:on≤2147483647) (hal:al.length=ops.length)
  (hok:∀ (i:Nat) (o:OpV) (a:Ans),ops[i]?=some o→al[i]?=some a→AnsOk l o a) (hsz:∀ o∈ops,o.key.length≤2147483647∧o.val.length≤2147483647) :
  Calls Tryz.prog 11 #[.slice ga al.length gc,.slice a n c,.slice oa on oc] w fun e w'=>e=.returned (.bool true)∧Below w.heap.size w w':=by
 have hlen:=hO.len;have HP:=hid hP;have HO:=hid hO;have HG:=hid hG;have HR:=hid hR;have HOK:=hid hok;have HSZ:=hid hsz;have HAL:=hid hal;have hgn:al.length=on:=hal.trans hlen;clear hP hO hG hR hok hsz hal;generalize hGN:al.length=gn at *;have HGN:=hid hGN;subst hgn;clear hGN;go_enter Tryz.func11,Tryz.ntmps11
 go_wp2_with fail
 go_loopw [16] (fun i wr=>∃ j:Nat,i=.int .i64 j∧j≤gn∧Hid (Below w.heap.size w wr)) (fun i _=>gn - (intOf i).toNat)
 case atStart=>exact ⟨0,rfl,Nat.zero_le _,hid (Below.refl _ _)⟩
 case round =>
  obtain ⟨j,rfl,hj,hr⟩:=hrel;by_cases hlt:j < gn
  ·obtain ⟨op,hop⟩:∃ op,ops[j]?=some op:=⟨_,List.getElem?_eq_getElem (by rw [hlen];exact hlt)⟩;obtain ⟨an,han⟩:∃ an,al[j]?=some an:=⟨_,List.getElem?_eq_getElem (by rw [HGN.out];exact hlt)⟩;obtain ⟨cv,hcv⟩:∃ cv,cs[j]?=some cv:=⟨_,List.getElem?_eq_getElem (by rw [HG.out.len,HGN.out];exact hlt)⟩;obtain ⟨g,p,k1,n1,c1,k2,n2,c2,rfl,hgB,hq0',hq1',hq2',hq3',hk1,hk2⟩:=HO.out.at' j op hop;have hc:∀ j,wr.cell? ⟨g,j,none⟩=w.cell? ⟨g,j,none⟩:=fun j=>World.cell?_of_block (a:=⟨g,j,none⟩) (hr.out.block g hgB)
   have hq0:=(hc _).trans hq0';have hq1:=(hc _).trans hq1';have hq2:=(hc _).trans hq2';have hq3:=(hc _).trans hq3';obtain ⟨W,hW⟩:∃ W,W=wr.alloc (.cells #[.int .i64 op.kind,.slice k1 n1 c1,.slice k2 n2 c2,.int .i64 op.n] 43):=⟨_,rfl⟩;have hbW:Below w.heap.size w W:=by rw [hW];exact hr.out.alloc hr.out.size _
   have hBo:Blk W wr.heap.size #[.int .i64 op.kind,.slice k1 n1 c1,.slice k2 n2 c2,.int .i64 op.n] 43:=by rw [hW];exact Blk.new _ _ _
   have hGW:=HG.out.below hbW;obtain ⟨rs,hpa,hfo,_⟩:=hGW.at' j cv an hcv han;obtain ⟨pa,pc,hcv1,hpp⟩:=pairs_of_at hpa;obtain ⟨fa,fc,hcv2,_⟩:=own_form hfo;obtain ⟨e0,e1,e2,e3⟩:=flatA_get cs al j cv an hcv han;have hga:∃ gb,ga=some ⟨gb,0,none⟩∧W.cell? ⟨gb,j*4,none⟩=some cv.1∧W.cell? ⟨gb,j*4+1,none⟩=some cv.2∧W.cell? ⟨gb,j*4+2,none⟩=some (.int .i64 an.n)∧W.cell? ⟨gb,j*4+3,none⟩=some (.bool an.ok):=by
    have ho:=hGW.own;rw [HGN.out] at ho;have ho2:=ho;obtain ⟨_,⟨x1,x2⟩ | ⟨gb,cap,cur,x1,_⟩⟩:=ho2
    ·simp only [Value.slice.injEq] at x1;omega
    ·simp only [Value.slice.injEq] at x1;obtain ⟨rfl,_,_⟩:=x1;refine ⟨gb,rfl,?_,?_,?_,?_⟩
     ·rw [World.ownsRow.cellAt ho _ (by omega)];exact e0
     ·rw [World.ownsRow.cellAt ho _ (by omega)];exact e1
     ·rw [World.ownsRow.cellAt ho _ (by omega)];exact e2
     ·rw [World.ownsRow.cellAt ho _ (by omega)];exact e3
   obtain ⟨gb,rfl,g0,g1,g2,g3⟩:=hga;rw [hcv1] at g0;rw [hcv2] at g1 hfo;have hle2:=HSZ.out op (List.mem_of_getElem? hop);have hl2:=hk2.sl.len;have hrd:=fun (hkd:op.kind=2∨op.kind=3∨op.kind=7∨op.kind=8∨op.kind=9∨op.kind=10)=>read_yes (W.drewN 1) pa an.ps.length pc fa an.fs.length fc an.ps an.fs an.n an.ok op a n c l (show Pairs (W.drewN 1).heap.size (W.drewN 1) a n c l from ((HP.out.below hbW).up hbW.size).below (Below.drewN' W.heap.size W 1)) hn HR.out k1 n1 c1 k2 n2 c2 (show Key (W.drewN 1).heap.size (W.drewN 1) k1 n1 c1 op.key from ((hk1.below hbW).up hbW.size).drewN 1) (show Key (W.drewN 1).heap.size (W.drewN 1) k2 n2 c2 op.val from ((hk2.below hbW).up hbW.size).drewN 1) (by omega) (fun hkk=>(HOK.out j op an hop han).ps_le (by rw [HP.out.len];exact hn) hkk) (AnsRows.below ⟨hpp,hfo,rfl⟩ (Below.drewN' W.heap.size W 1)) (HOK.out j op an hop han) hkd
   have p0:=hBo.cell (k:=0) rfl;have p1:=hBo.cell (k:=1) rfl;have p2:=hBo.cell (k:=2) rfl;have p3:=hBo.cell (k:=3) rfl;have HX:=hid (show Below w.heap.size w (W.drewN 1) from hbW.trans (Below.drewN' _ _ _));have HX0:=hid hbW;have HW:=hid hW;clear hW hbW hBo hGW hpa hfo hpp hcv hcv1 hcv2 e0 e1 e2 e3 hop han hk1 hk2 hc hq0' hq1' hq2' hq3' hle2 hl2 hr rs;go_upto_region 6 with fail
   rw [← HW.out];clear HW hq0 hq1 hq2 hq3;generalize an.ps.length=PN at *;generalize an.fs.length=FN at *;by_cases hkd:op.kind=2∨op.kind=3∨op.kind=7∨op.kind=8∨op.kind=9∨op.kind=10
   ·have hrd:=hrd hkd;rcases hkd with hk | hk | hk | hk | hk | hk
    ·have hb2:(op.kind == 2)=true:=by rw [beq_iff_eq];exact hk
     clear hk;go_upto_region 13 with fail
     refine wp_tail 6 (by kernel_rfl) ?_;simp only [List.take_succ_cons,List.take_zero,List.drop_succ_cons,List.drop_zero];repeat still_step
     refine wpStill_nil ?_;go_wp2_with fail
     refine hrd.mono ?_;rintro e w2 ⟨rfl,hb2⟩;have HY:=hid (HX.out.trans (hb2.mono HX.out.size));clear hrd hb2;try dsimp only
     go_wp2_with fail
     go_roundw
     case rel=>exact ⟨j+1,by go_num,hlt,HY⟩
     case measure=>simp [intOf];omega
    ·have hb2:(op.kind == 2)=false:=by rw [beq_eq_false_iff_ne];omega
     have hb3:(op.kind == 3)=true:=by rw [beq_iff_eq];exact hk
     clear hk;go_upto_region 13 with fail
     refine wp_tail 6 (by kernel_rfl) ?_;simp only [List.take_succ_cons,List.take_zero,List.drop_succ_cons,List.drop_zero];repeat still_step
     refine wpStill_nil ?_;go_wp2_with fail
     refine hrd.mono ?_;rintro e w2 ⟨rfl,hb2⟩;have HY:=hid (HX.out.trans (hb2.mono HX.out.size));clear hrd hb2;try dsimp only
     go_wp2_with fail
     go_roundw
     case rel=>exact ⟨j+1,by go_num,hlt,HY⟩
     case measure=>simp [intOf];omega
    ·have hb2:(op.kind == 2)=false:=by rw [beq_eq_false_iff_ne];omega
     have hb3:(op.kind == 3)=false:=by rw [beq_eq_false_iff_ne];omega
     have hb7:(op.kind == 7)=true:=by rw [beq_iff_eq];exact hk
     clear hk;go_upto_region 13 with fail
     refine wp_tail 6 (by kernel_rfl) ?_;simp only [List.take_succ_cons,List.take_zero,List.drop_succ_cons,List.drop_zero];repeat still_step
     refine wpStill_nil ?_;go_wp2_with fail
     refine hrd.mono ?_;rintro e w2 ⟨rfl,hb2⟩;have HY:=hid (HX.out.trans (hb2.mono HX.out.size));clear hrd hb2;try dsimp only
     go_wp2_with fail
     go_roundw
     case rel=>exact ⟨j+1,by go_num,hlt,HY⟩
     case measure=>simp [intOf];omega
    ·have hb2:(op.kind == 2)=false:=by rw [beq_eq_false_iff_ne];omega
     have hb3:(op.kind == 3)=false:=by rw [beq_eq_false_iff_ne];omega
     have hb7:(op.kind == 7)=false:=by rw [beq_eq_false_iff_ne];omega
     have hb8:(op.kind == 8)=true:=by rw [beq_iff_eq];exact hk
     clear hk;go_upto_region 13 with fail
     refine wp_tail 6 (by kernel_rfl) ?_;simp only [List.take_succ_cons,List.take_zero,List.drop_succ_cons,List.drop_zero];repeat still_step
     refine wpStill_nil ?_;go_wp2_with fail
     refine hrd.mono ?_;rintro e w2 ⟨rfl,hb2⟩;have HY:=hid (HX.out.trans (hb2.mono HX.out.size));clear hrd hb2;try dsimp only
     go_wp2_with fail
     go_roundw
     case rel=>exact ⟨j+1,by go_num,hlt,HY⟩
     case measure=>simp [intOf];omega
    ·have hb2:(op.kind == 2)=false:=by rw [beq_eq_false_iff_ne];omega
     have hb3:(op.kind == 3)=false:=by rw [beq_eq_false_iff_ne];omega
     have hb7:(op.kind == 7)=false:=by rw [beq_eq_false_iff_ne];omega
     have hb8:(op.kind == 8)=false:=by rw [beq_eq_false_iff_ne];omega
     have hb9:(op.kind == 9)=true:=by rw [beq_iff_eq];exact hk
     clear hk;go_upto_region 13 with fail
     refine wp_tail 6 (by kernel_rfl) ?_;simp only [List.take_succ_cons,List.take_zero,List.drop_succ_cons,List.drop_zero];repeat still_step
     refine wpStill_nil ?_;go_wp2_with fail
     refine hrd.mono ?_;rintro e w2 ⟨rfl,hb2⟩;have HY:=hid (HX.out.trans (hb2.mono HX.out.size));clear hrd hb2;try dsimp only
     go_wp2_with fail
     go_roundw
     case rel=>exact ⟨j+1,by go_num,hlt,HY⟩
     case measure=>simp [intOf];omega
    ·have hb2:(op.kind == 2)=false:=by rw [beq_eq_false_iff_ne];omega
     have hb3:(op.kind == 3)=false:=by rw [beq_eq_false_iff_ne];omega
     have hb7:(op.kind == 7)=false:=by rw [beq_eq_false_iff_ne];omega
     have hb8:(op.kind == 8)=false:=by rw [beq_eq_false_iff_ne];omega
     have hb9:(op.kind == 9)=false:=by rw [beq_eq_false_iff_ne];omega
     have hb10:(op.kind == 10)=true:=by rw [beq_iff_eq];exact hk
     clear hk;go_upto_region 13 with fail
     refine wp_tail 6 (by kernel_rfl) ?_;simp only [List.take_succ_cons,List.take_zero,List.drop_succ_cons,List.drop_zero];repeat still_step
     refine wpStill_nil ?_;go_wp2_with fail
     refine hrd.mono ?_;rintro e w2 ⟨rfl,hb2⟩;have HY:=hid (HX.out.trans (hb2.mono HX.out.size));clear hrd hb2;try dsimp only
     go_wp2_with fail
     go_roundw
     case rel=>exact ⟨j+1,by go_num,hlt,HY⟩
     case measure=>simp [intOf];omega
   ·have hb2:(op.kind == 2)=false:=by rw [beq_eq_false_iff_ne];omega
    have hb3:(op.kind == 3)=false:=by rw [beq_eq_false_iff_ne];omega
    have hb7:(op.kind == 7)=false:=by rw [beq_eq_false_iff_ne];omega
    have hb8:(op.kind == 8)=false:=by rw [beq_eq_false_iff_ne];omega
    have hb9:(op.kind == 9)=false:=by rw [beq_eq_false_iff_ne];omega
    have hb10:(op.kind == 10)=false:=by rw [beq_eq_false_iff_ne];omega
    clear hrd hkd;go_wp2
    go_roundw
    case rel=>exact ⟨j+1,by go_num,hlt,HX0⟩
    case measure=>simp [intOf];omega
  ·have hjn:j=gn:=by omega
   subst hjn;go_wp2
   go_ret
   exact ⟨rfl,hr.out⟩
end
section
open Go Go.RowKit Go.Shelf
set_option maxHeartbeats 4000000 in
theorem tabled_any (w:World) (a:Option Addr) (n c:Nat) (l:List KV) (hP:Pairs w.heap.size w a n c l) (hn:n≤2147483647) (hls:∀ e∈l,e.1.length≤2147483647∧e.2.length≤2147483647):Calls Tryz.prog 6 #[.slice a n c] w (RetB (tot l≤1048576∧Rising l) w):=by
 go_enter Tryz.func6,Tryz.ntmps6
 have HP:=hid hP;have HLS:=hid hls;clear hP hls;by_cases hb:tot l≤1048576
 ·have hfew:=few_any w a n c l HP.out hn HLS.out;rw [show decide (tot l≤1048576)=true by simpa using hb] at hfew;have HB:=hid hb;clear hb HLS;go_wp2_with (go_at_call 15;refine hfew.mono ?_;rintro e w2 ⟨rfl,hb2⟩;have HB2:=hid hb2;clear hb2 hfew)
  all_goals (try trivial)
  go_wp2_with (go_at_call 12;refine (pairs_any w2 a n c l ((HP.out.below HB2.out).up HB2.out.size) hn).mono ?_;rintro e w3 ⟨a',c',rfl,hp3,hb3⟩;have HP3:=hid hp3;have HB3:=hid (HB2.out.trans (hb3.mono HB2.out.size));clear hp3 hb3)
  go_wp2_with (go_at_call 16;refine (ordered_any w3 a' n c' l HP3.out hn).mono ?_;rintro e w4 ⟨b,rfl,hbr,hb4⟩;have HB4:=hid (HB3.out.trans (hb4.mono HB3.out.size));have HR:=hid hbr;clear hb4 hbr)
  first | go_ret | go_ret2 | go_end0
  exact ⟨_,rfl,fun h=>⟨HB.out,HR.out h⟩,HB4.out⟩
 ·have hfew:=few_any w a n c l HP.out hn HLS.out;rw [show decide (tot l≤1048576)=false by simpa using hb] at hfew;have HB:=hid hb;clear hb HLS;go_wp2_with (go_at_call 15;refine hfew.mono ?_;rintro e w2 ⟨rfl,hb2⟩;have HB2:=hid hb2;clear hb2 hfew)
  first | go_ret | go_ret2 | go_end0
  exact ⟨false,rfl,fun h=>(nomatch h),HB2.out⟩
end
section
open Go Go.RowKit Go.Shelf
def belowV (x n:Int):Int:=if x.tmod n < 0 then x.tmod n+n else x.tmod n
theorem belowV_nat (x:Int) (n:Nat) (h:0 < n):∃ r:Nat,belowV x n=r∧r < n:=by
 have h1:=Int.tmod_lt_of_pos x (show (0:Int) < n by omega);have h2:-(n:Int) < x.tmod n:=by
  rcases Int.lt_or_le x 0 with h3 | h3
  ·have h4:=Int.tmod_lt_of_pos (-x) (show (0:Int) < n by omega);rw [Int.neg_tmod] at h4;omega
  ·have:=Int.tmod_nonneg (n:Int) h3;omega
 unfold belowV;split
 ·exact ⟨(x.tmod n+n).toNat,by omega,by omega⟩
 ·exact ⟨(x.tmod n).toNat,by omega,by omega⟩
theorem below_any (w:World) (x:Int) (n:Nat) (hn:0 < n) (hm:n≤10000):Calls Tryz.prog 17 #[.int .i64 x,.int .i64 n] w fun e w'=>e=.returned (.int .i64 (belowV x n))∧w'=w:=by
 have h1:=Int.tmod_lt_of_pos x (show (0:Int) < n by omega);have h2:-(n:Int) < x.tmod n:=by
  rcases Int.lt_or_le x 0 with h3 | h3
  ·have h4:=Int.tmod_lt_of_pos (-x) (show (0:Int) < n by omega);rw [Int.neg_tmod] at h4;omega
  ·have:=Int.tmod_nonneg (n:Int) h3;omega
 have hn0:((n:Int) == 0)=false:=by rw [beq_eq_false_iff_ne];omega
 by_cases h0:x.tmod n < 0
 ·have hb:Hid (belowV x n=x.tmod n+n):=hid (by unfold belowV;rw [if_pos h0]);have hB:Hid ((-9223372036854775808:Int)≤x.tmod n+n∧x.tmod n+n≤9223372036854775807):=hid (by omega);go_enter Tryz.func17,Tryz.ntmps17
  go_wp2
  go_ret
  rw [hb.out];exact ⟨rfl,rfl⟩
 ·have hb:Hid (belowV x n=x.tmod n):=hid (by unfold belowV;rw [if_neg h0]);go_enter Tryz.func17,Tryz.ntmps17
  go_wp2
  go_ret
  rw [hb.out];exact ⟨rfl,rfl⟩
theorem lopts_any (w:World) (x1 x2 x3 x4:Int):Calls Tryz.prog 8 #[.agg #[.int .i64 x1,.int .i64 x2,.int .i64 x3,.int .i64 x4]] w fun e w'=>∃ bs ri n fb:Nat,e=.returned (.agg #[.int .i64 bs,.int .i64 ri,.int .i64 n,.int .i64 fb])∧(1≤bs∧bs≤5000)∧(1≤ri∧ri≤20)∧n≤20∧Below w.heap.size w w':=by
 obtain ⟨r1,h1,l1⟩:=belowV_nat x1 5000 (by omega);obtain ⟨r2,h2,l2⟩:=belowV_nat x2 20 (by omega);obtain ⟨r3,h3,l3⟩:=belowV_nat x3 21 (by omega);obtain ⟨r4,h4,l4⟩:=belowV_nat x4 12 (by omega);have c1:∀ W:World,Calls Tryz.prog 17 #[.int .i64 x1,.int .i64 5000] W fun e w'=>e=.returned (.int .i64 (r1:Int))∧w'=W:=fun W=>by
  have:=below_any W x1 5000 (by omega) (by omega);rw [h1] at this;exact this
 have c2:∀ W:World,Calls Tryz.prog 17 #[.int .i64 x2,.int .i64 20] W fun e w'=>e=.returned (.int .i64 (r2:Int))∧w'=W:=fun W=>by
  have:=below_any W x2 20 (by omega) (by omega);rw [h2] at this;exact this
 have c3:∀ W:World,Calls Tryz.prog 17 #[.int .i64 x3,.int .i64 21] W fun e w'=>e=.returned (.int .i64 (r3:Int))∧w'=W:=fun W=>by
  have:=below_any W x3 21 (by omega) (by omega);rw [h3] at this;exact this
 have c4:∀ W:World,Calls Tryz.prog 17 #[.int .i64 x4,.int .i64 12] W fun e w'=>e=.returned (.int .i64 (r4:Int))∧w'=W:=fun W=>by
  have:=below_any W x4 12 (by omega) (by omega);rw [h4] at this;exact this
 clear h1 h2 h3 h4;go_enter Tryz.func8,Tryz.ntmps8
 go_upto_region 1 with fail
 generalize hW:World.alloc _ (Obj.cells #[Value.int IntKind.i64 0,Value.int IntKind.i64 0,Value.int IntKind.i64 0,Value.int IntKind.i64 0] 24)=W;have hb:Below w.heap.size w W:=by rw [← hW];exact ((Below.refl _ w).alloc (Nat.le_refl _) _).alloc (by simp) _
 have hp:Blk W w.heap.size #[.int .i64 x1,.int .i64 x2,.int .i64 x3,.int .i64 x4] 24:=by rw [← hW];exact (Blk.new w _ _).alloc _
 have hq:Blk W (w.heap.size+1) #[.int .i64 0,.int .i64 0,.int .i64 0,.int .i64 0] 24:=by
  rw [← hW];have:=Blk.new (w.alloc (.cells #[.int .i64 x1,.int .i64 x2,.int .i64 x3,.int .i64 x4] 24)) #[Value.int IntKind.i64 0,Value.int IntKind.i64 0,Value.int IntKind.i64 0,Value.int IntKind.i64 0] 24;simpa using this
 clear hW;have q0:=hq.cell (k:=0) rfl;have q1:=hq.cell (k:=1) rfl;have q2:=hq.cell (k:=2) rfl;have q3:=hq.cell (k:=3) rfl;have f0:=hq.free 0;have f1:=hq.free 1;have f2:=hq.free 2;have f3:=hq.free 3;refine Pos.start (fun W:World=>W.cell? ⟨w.heap.size,0,none⟩=some (.int .i64 x1)∧W.cell? ⟨w.heap.size,1,none⟩=some (.int .i64 x2)∧W.cell? ⟨w.heap.size,2,none⟩=some (.int .i64 x3)∧W.cell? ⟨w.heap.size,3,none⟩=some (.int .i64 x4)) 16 (by kernel_rfl) ?_
 have hS:(fun W:World=>W.cell? ⟨w.heap.size,0,none⟩=some (.int .i64 x1)∧W.cell? ⟨w.heap.size,1,none⟩=some (.int .i64 x2)∧W.cell? ⟨w.heap.size,2,none⟩=some (.int .i64 x3)∧W.cell? ⟨w.heap.size,3,none⟩=some (.int .i64 x4)) (W.drewN 1):=⟨hp.cell (k:=0) rfl,hp.cell (k:=1) rfl,hp.cell (k:=2) rfl,hp.cell (k:=3) rfl⟩;refine Pos.toG 17 #[false,false,false,false,false,false,false,false,false,false,false,false,false,false,false,false,false] rfl (by kernel_rfl) ?_
 refine' PosG.takeK (k:=0) hS rfl (by kernel_rfl) (fun _ _ _ h=>h) (by rfl) ?_ ?_;rotate_left
 ·intro W hW;obtain ⟨s1,s2,s3,s4⟩:=hW;go_simp;try with_reducible rfl
 intro K hK;go_simp;refine hK _ ?_;clear hK K;refine' PosG.takeK (k:=1) hS rfl (by kernel_rfl) (fun _ _ _ h=>h) (by rfl) ?_ ?_;rotate_left
 ·intro W hW;obtain ⟨s1,s2,s3,s4⟩:=hW;go_simp;try with_reducible rfl
 intro K hK;go_simp;refine hK _ ?_;clear hK K;refine' PosG.call (k:=2) 17 #[.int .i64 x1,.int .i64 5000] hS rfl (by kernel_rfl) (fun _ _ _ h=>h) (by rfl) ?_ (fun W hW=>c1 W) ?_
 ·intro W hW;obtain ⟨s1,s2,s3,s4⟩:=hW;go_simp;try with_reducible rfl
 intro K hK;go_simp;refine hK _ ?_;clear hK K;refine' PosG.takeK (k:=3) hS rfl (by kernel_rfl) (fun _ _ _ h=>h) (by rfl) ?_ ?_;rotate_left
 ·intro W hW;obtain ⟨s1,s2,s3,s4⟩:=hW;go_simp;try with_reducible rfl
 intro K hK;go_simp;refine hK _ ?_;clear hK K;refine' PosG.takeK (k:=4) hS rfl (by kernel_rfl) (fun _ _ _ h=>h) (by rfl) ?_ ?_;rotate_left
 ·intro W hW;obtain ⟨s1,s2,s3,s4⟩:=hW;go_simp;try with_reducible rfl
 intro K hK;go_simp;refine hK _ ?_;clear hK K;refine' PosG.takeK (k:=5) hS rfl (by kernel_rfl) (fun _ _ _ h=>h) (by rfl) ?_ ?_;rotate_left
 ·intro W hW;obtain ⟨s1,s2,s3,s4⟩:=hW;go_simp;try with_reducible rfl
 intro K hK;go_simp;refine hK _ ?_;clear hK K;refine' PosG.call (k:=6) 17 #[.int .i64 x2,.int .i64 20] hS rfl (by kernel_rfl) (fun _ _ _ h=>h) (by rfl) ?_ (fun W hW=>c2 W) ?_
 ·intro W hW;obtain ⟨s1,s2,s3,s4⟩:=hW;go_simp;try with_reducible rfl
 intro K hK;go_simp;refine hK _ ?_;clear hK K;refine' PosG.takeK (k:=7) hS rfl (by kernel_rfl) (fun _ _ _ h=>h) (by rfl) ?_ ?_;rotate_left
 ·intro W hW;obtain ⟨s1,s2,s3,s4⟩:=hW;go_simp;try with_reducible rfl
 intro K hK;go_simp;refine hK _ ?_;clear hK K;refine' PosG.takeK (k:=8) hS rfl (by kernel_rfl) (fun _ _ _ h=>h) (by rfl) ?_ ?_;rotate_left
 ·intro W hW;obtain ⟨s1,s2,s3,s4⟩:=hW;go_simp;try with_reducible rfl
 intro K hK;go_simp;refine hK _ ?_;clear hK K;refine' PosG.takeK (k:=9) hS rfl (by kernel_rfl) (fun _ _ _ h=>h) (by rfl) ?_ ?_;rotate_left
 ·intro W hW;obtain ⟨s1,s2,s3,s4⟩:=hW;go_simp;try with_reducible rfl
 intro K hK;go_simp;refine hK _ ?_;clear hK K;refine' PosG.call (k:=10) 17 #[.int .i64 x3,.int .i64 21] hS rfl (by kernel_rfl) (fun _ _ _ h=>h) (by rfl) ?_ (fun W hW=>c3 W) ?_
 ·intro W hW;obtain ⟨s1,s2,s3,s4⟩:=hW;go_simp;try with_reducible rfl
 intro K hK;go_simp;refine hK _ ?_;clear hK K;refine' PosG.takeK (k:=11) hS rfl (by kernel_rfl) (fun _ _ _ h=>h) (by rfl) ?_ ?_;rotate_left
 ·intro W hW;obtain ⟨s1,s2,s3,s4⟩:=hW;go_simp;try with_reducible rfl
 intro K hK;go_simp;refine hK _ ?_;clear hK K;refine' PosG.takeK (k:=12) hS rfl (by kernel_rfl) (fun _ _ _ h=>h) (by rfl) ?_ ?_;rotate_left
 ·intro W hW;obtain ⟨s1,s2,s3,s4⟩:=hW;go_simp;try with_reducible rfl
 intro K hK;go_simp;refine hK _ ?_;clear hK K;refine' PosG.call (k:=13) 17 #[.int .i64 x4,.int .i64 12] hS rfl (by kernel_rfl) (fun _ _ _ h=>h) (by rfl) ?_ (fun W hW=>c4 W) ?_
 ·intro W hW;obtain ⟨s1,s2,s3,s4⟩:=hW;go_simp;try with_reducible rfl
 intro K hK;go_simp;refine hK _ ?_;clear hK K;refine' PosG.takeK (k:=14) hS rfl (by kernel_rfl) (fun _ _ _ h=>h) (by rfl) ?_ ?_;rotate_left
 ·intro W hW;obtain ⟨s1,s2,s3,s4⟩:=hW;go_simp;try with_reducible rfl
 intro K hK;go_simp;refine hK _ ?_;clear hK K;refine' PosG.takeK (k:=15) hS rfl (by kernel_rfl) (fun _ _ _ h=>h) (by rfl) ?_ ?_;rotate_left
 ·intro W hW;obtain ⟨s1,s2,s3,s4⟩:=hW;go_simp;try with_reducible rfl
 intro K hK;go_simp;refine hK _ ?_;clear hK K;have e1:IntKind.i64.wrap (1+(r1:Int))=((r1+1:Nat):Int):=by rw [show ((r1+1:Nat):Int)=1+(r1:Int) by omega];exact IntWalk.i64_in _ (by omega)
 rw [e1];clear e1;have e1:IntKind.i64.wrap (1+(r2:Int))=((r2+1:Nat):Int):=by rw [show ((r2+1:Nat):Int)=1+(r2:Int) by omega];exact IntWalk.i64_in _ (by omega)
 rw [e1];clear e1;have e1:IntKind.i64.wrap (1+(r4:Int))=((r4+1:Nat):Int):=by rw [show ((r4+1:Nat):Int)=1+(r4:Int) by omega];exact IntWalk.i64_in _ (by omega)
 rw [e1];clear e1 hS;refine PosG.tail rfl (by kernel_rfl) (by kernel_rfl) (by decide) ?_;simp only [List.drop_succ_cons,List.drop_zero];have HF:=hid (show (1≤r1+1∧r1+1≤5000)∧(1≤r2+1∧r2+1≤20)∧r3≤20 from ⟨⟨by omega,by omega⟩,⟨by omega,by omega⟩,by omega⟩);generalize r1+1=R1 at *;generalize r2+1=R2 at *;generalize r4+1=R4 at *;have hX:=((((hq.set 0 (.int .i64 (R1:Int))).set 1 (.int .i64 (R2:Int))).set 2 (.int .i64 (r3:Int))).set 3 (.int .i64 (R4:Int)))
 have HX:=hid hX;have HB:=hid hb;clear hX hb hq hp;go_wp2
 have hB:=HX.out.drewN 1;have d0:=hB.cell (k:=0) rfl;have d1:=hB.cell (k:=1) rfl;have d2:=hB.cell (k:=2) rfl;have d3:=hB.cell (k:=3) rfl;have hbb:Below w.heap.size w ((((((W.setCell ⟨w.heap.size+1,0,none⟩ (.int .i64 (R1:Int))).setCell ⟨w.heap.size+1,1,none⟩ (.int .i64 (R2:Int))).setCell ⟨w.heap.size+1,2,none⟩ (.int .i64 (r3:Int))).setCell ⟨w.heap.size+1,3,none⟩ (.int .i64 (R4:Int)))).drewN 1):=((((HB.out.setCell (p:=⟨w.heap.size+1,0,none⟩) (by simp) _).setCell (p:=⟨w.heap.size+1,1,none⟩) (by simp) _).setCell (p:=⟨w.heap.size+1,2,none⟩) (by simp) _).setCell (p:=⟨w.heap.size+1,3,none⟩) (by simp) _).trans (Below.drewN' _ _ 1)
 have HBB:=hid hbb;clear hbb hB;refine bodyPost_ret (v:=.agg #[.int .i64 R1,.int .i64 R2,.int .i64 r3,.int .i64 R4]) (results_cell rfl rfl ?_) rfl ?_
 ·go_simp
 ·exact ⟨R1,R2,r3,R4,rfl,HF.out.1,HF.out.2.1,HF.out.2.2,HBB.out⟩
end
section
open Go Go.RowKit Go.Shelf
set_option maxHeartbeats 4000000 in
theorem readFilter_any (w:World) (r rd fc off:Nat) (fa:Option Addr) (F fd:Bs) (fs:FS) (h:FR' w rd fa fc F) (hF:F.length≤2147483647) (h2:w.cell? ⟨r,2,none⟩=some (.iface 64 (.pointer (some ⟨rd,0,none⟩)))) (h4:w.cell? ⟨r,4,none⟩=some (.pointer none)) (hs:Sealed F off fd) (hfd:fd=fdata (cbuf fs.cs) (coffs fs.cs)) :
  Calls Tryz.prog 67 #[.pointer (some ⟨r,0,none⟩),.agg #[.int .u64 off,.int .u64 fd.length]] w fun e w'=>∃ f q,e=.returned (.tuple #[.pointer (some ⟨f,0,none⟩),.nilIface]) ∧
   FBk w' f q fd fs∧w.heap.size≤f∧f < w'.heap.size∧w.heap.size≤q∧q < w'.heap.size∧Below w.heap.size w w':=by
 have hlen:=hs.len;have hrl:=lt_of_cell h2;have hfl:=fdata_flen fs.cs;obtain ⟨⟨rr,hd1⟩,hd2⟩:=fdata_last fs.cs;rw [← hfd] at hfl hd1 hd2;obtain ⟨w1,hw1⟩:∃ w1,w1=w.alloc (.cells #[.int .u64 off,.int .u64 fd.length] 114):=⟨_,rfl⟩;have hs1:w1.heap.size=w.heap.size+1:=by rw [hw1];simp
 have hb1:Below w.heap.size w w1:=by rw [hw1];exact (Below.refl _ _).alloc (Nat.le_refl _) _
 have hbox:Blk w1 w.heap.size #[.int .u64 off,.int .u64 fd.length] 114:=by rw [hw1];exact Blk.new w _ _
 have hraw:=raw_any w1 r rd fc off fa F _ (h.fr (S:=fun _=>False) (Fr.of_below hb1) (fun h=>h) (fun _ _ h=>h)) hF ((World.cell?_of_block (a:=⟨r,2,none⟩) (hb1.block r hrl)).trans h2) ((World.cell?_of_block (a:=⟨r,4,none⟩) (hb1.block r hrl)).trans h4) hs;rw [hs1] at hraw;have hz0:=hbox.cell (k:=0) rfl;have hz1:=hbox.cell (k:=1) rfl;have HB1:=hid hb1;have HFD:=hid hfd;clear h hb1 hs hbox hfd;generalize hL:(cbuf fs.cs).length=L at *
 generalize hM:fs.cs.length=M at *;generalize hX:fd.length=X at *;have HL:=hid hL;have HM:=hid hM;have HX:=hid hX;clear hL hM hX;have hsl:∀ w',(Instr.slice 29 (.slice (some ⟨w.heap.size+1+1,0,none⟩) X (X+5)) (some (.int .i64 ((X:Int) - 5))) none none).run Tryz.prog w'=.ok (.slice (some ⟨w.heap.size+1+1,X - 5,none⟩) 5 10) w':=fun w'=>by
  have:=run_slice_lo (P:=Tryz.prog) 29 5 un29 sz5 .i64 (some ⟨w.heap.size+1+1,0,none⟩) X (X+5) (X - 5) (by omega) w';rw [cutA_some (by omega),show X - (X - 5)=5 by omega,Nat.zero_add,show X+5 - (X - 5)=10 by omega] at this;rwa [show ((X:Int) - 5)=((X - 5:Nat):Int) by omega]
 have hwr:IntKind.i64.wrap ((X:Int) - 5)=(X:Int) - 5:=IntWalk.i64_in _ (by omega);have HN:=hid (show X=L+4*(M+1)+1∧X≤2147483647 from ⟨hfl,by omega⟩);have hn5:((X:Int) < 5)=False:=by simp;omega
 clear hfl hlen;go_enter Tryz.func67,Tryz.ntmps67
 go_wp2_with fail
 rw [← hw1];refine hraw.mono ?_;rintro e w2 ⟨rfl,hsl2,hb2⟩;have hN:=HN.out;have hcut:=hsl2.cut (lo:=X - 5) (by omega);rw [cutA_some (by omega),show X - (X - 5)=5 by omega,Nat.zero_add,show X+5 - (X - 5)=10 by omega,hd1] at hcut;have hu:=fun k=>uint32_any _ _ _ _ (w2.drewN k) (hcut.drewN k) (by omega)
 have hle:Lib.leNat ((Lib.leBytes 4 L++rr).take 4)=L:=by
  rw [List.take_left' (leBytes_length 4 _),leNat_leBytes 4 _ (by show _ < 4294967296;omega)]
 rw [hle] at hu;have hb2':Below (w.heap.size+1) w1 w2:=by rw [← hs1];exact hb2.mono (by omega)
 have HSL:=hid hsl2;have HB2:=hid hb2';clear hraw hsl2 hb2 hcut hle hd1 hb2' hw1 hz0 hz1 hN;dsimp only;go_upto_region 8 with fail
 refine wp_tail 4 (by kernel_rfl) ?_;simp only [List.take_succ_cons,List.take_zero,List.drop_succ_cons,List.drop_zero];repeat still_step
 refine wpStill_nil ?_;go_wp2_with fail
 refine (hu _).mono ?_;rintro e w3 ⟨rfl,hb3⟩;have hN:=HN.out;clear hu hsl hwr;have hb3':Below w2.heap.size w2 w3:=⟨hb3.os,hb3.tape,hb3.output,hb3.size,fun k hk=>hb3.block k hk⟩;have hsz2:=HB2.out.size;have hw23:=hb3'.size;have hq2:w.heap.size+2 < w2.heap.size:=lt_of_cell (HSL.out.cellAt (j:=0) (by rw [HX.out];omega));have hbb:Below w.heap.size w w3:=(HB1.out.trans (HB2.out.mono (by omega))).trans (hb3'.mono (by omega))
 have hr4:w3.cell? ⟨r,4,none⟩=some (.pointer none):=(World.cell?_of_block (a:=⟨r,4,none⟩) (hbb.block r hrl)).trans h4;have hsl3:Sl w3 (some ⟨w.heap.size+1+1,0,none⟩) X (X+5) fd:=HSL.out.fr (S:=fun _=>False) (Fr.of_below hb3') (fun _ _ h=>h);have hlast:w3.cell? ⟨w.heap.size+1+1,X - 1,none⟩=some (.int .u8 11):=by
  have:=hsl3.cellAt (j:=X - 1) (by rw [HX.out];omega);rw [Nat.zero_add] at this;rw [this,(List.getElem_eq_iff (by rw [HX.out];omega)).2 hd2];rfl
 have HSL3:=hid hsl3;have HB:=hid hbb;have hgt:((X:Int) - 5 < (L:Int))=False:=by simp;omega
 have hi2:((X - 1:Nat):Int) < (X:Int):=by omega
 have hi3:X - 1 < X:=by omega
 have hw5:IntKind.i64.wrap ((X:Int) - 5)=(X:Int) - 5:=IntWalk.i64_in _ (by omega);have hw1':IntKind.i64.wrap ((X:Int) - 1)=((X - 1:Nat):Int):=by rw [show ((X - 1:Nat):Int)=(X:Int) - 1 by omega];exact IntWalk.i64_in _ (by omega)
 have hw6:IntKind.i64.wrap ((X:Int) - 5 - (L:Int))=(X:Int) - 5 - (L:Int):=IntWalk.i64_in _ (by omega);have hq:((X:Int) - 5 - (L:Int)).tdiv 4=(M:Int):=by rw [show (X:Int) - 5 - (L:Int)=4*(M:Int) by omega];simp
 have hLM:((-9223372036854775808:Int)≤(L:Int)∧(L:Int)≤9223372036854775807)∧((-9223372036854775808:Int)≤(M:Int)∧(M:Int)≤9223372036854775807):=by omega
 have hwL:wrap64 (L:Int)=(L:Int):=IntWalk.wrap64_in _ hLM.1;have HLM:=hid hLM.2;clear hLM;clear hb3 hb3' hbb h2 hN hd2 hsl3;generalize X - 1=X1 at *;dsimp only;go_upto_region 11 with fail
 refine wp_tail 16 (by kernel_rfl) ?_;simp only [List.take_succ_cons,List.take_zero,List.drop_succ_cons,List.drop_zero];repeat still_step
 refine wpStill_nil ?_;go_wp2_with fail
 go_returns
 clear hwL;rw [IntWalk.wrap64_in _ HLM.out];have hlt3:w.heap.size+1+1 < w3.heap.size:=by omega
 have hblk:=Blk.new w3 #[Value.pointer none,Value.slice (some ⟨w.heap.size+1+1,0,none⟩) X (X+5),Value.int IntKind.i64 L,Value.int IntKind.u64 11,Value.int IntKind.i64 M] 234;refine ⟨w3.heap.size,w.heap.size+1+1,rfl,⟨?_,?_⟩,by omega,?_,by omega,?_,?_⟩
 ·rw [HX.out,HL.out,HM.out];exact hblk.drewN 1
 ·rw [HX.out];exact HSL3.out.fr (S:=fun _=>False) (((Fr.refl _ _).alloc _).drewN 1) (fun _ _ h=>h)
 ·exact (hblk.drewN 1).lt
 ·have:=(hblk.drewN 1).lt;omega
 ·exact (HB.out.alloc (by omega) _).trans (Below.drewN' _ _ _)
end
end Go.Proofs.YtmkdpjicgjhhjaaGreatDoor
