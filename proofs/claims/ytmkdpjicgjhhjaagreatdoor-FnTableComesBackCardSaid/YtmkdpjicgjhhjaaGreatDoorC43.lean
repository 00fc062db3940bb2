/- Part 43 of the proof of FnTableComesBack: contracts and lemmas, each under the conditions that it states. Texts: L9, L10, L11, L12. -/
import Derived.Test.YtmkdpjicgjhhjaaGreatDoorC42
namespace Go.Proofs.YtmkdpjicgjhhjaaGreatDoor
open Go.Lib (hid)
set_option maxRecDepth 100000
set_option linter.all false
section
open Go Go.RowKit Go.Shelf
set_option maxHeartbeats 4000000 in
theorem equal_yes (w:World) (a b:Option Addr) (n c c':Nat) (l:List KV) (h1:Pairs w.heap.size w a n c l) (h2:Pairs w.heap.size w b n c' l) (hn:n≤2147483647):Calls Tryz.prog 83 #[.slice a n c,.slice b n c'] w fun e w'=>e=.returned (.bool true)∧Below w.heap.size w w':=by
 have H1:=hid h1;have H2:=hid h2;have hlen:=h1.len;clear h1 h2;go_enter Tryz.func83,Tryz.ntmps83
 go_wp2_with fail
 go_loopw [13] (fun i wr=>∃ j:Nat,i=.int .i64 j∧j≤n∧Hid (Below w.heap.size w wr)) (fun i _=>n - (intOf i).toNat)
 case atStart=>exact ⟨0,rfl,Nat.zero_le _,hid (Below.refl _ _)⟩
 case round =>
  obtain ⟨j,rfl,hj,hr⟩:=hrel;by_cases hlt:j < n
  ·obtain ⟨ev,hev⟩:∃ ev,l[j]?=some ev:=⟨_,List.getElem?_eq_getElem (by rw [hlen];exact hlt)⟩;obtain ⟨g,o,k1,n1,c1,k2,n2,c2,rfl,hq0,hq1,hk1,hk2⟩:=(H1.out.below hr.out).get hr.out.size hev;obtain ⟨g',o',k1',n1',c1',k2',n2',c2',rfl,hq0',hq1',hk1',hk2'⟩:=(H2.out.below hr.out).get hr.out.size hev;have e1:=conv_sl (hk1.drewN 1);have e2:=conv_sl (hk2.drewN 1);have e3:=conv_sl (hk1'.drewN 1);have e4:=conv_sl (hk2'.drewN 1)
   generalize (⟨ev.1.toArray⟩:ByteArray)=S1 at *;generalize (⟨ev.2.toArray⟩:ByteArray)=S2 at *;have HN:=hid (hr.out.trans (Below.drewN' w.heap.size wr 1));clear hk1 hk2 hk1' hk2' hev hr;go_upto_region 6 with fail
   refine wp_tail 27 (by kernel_rfl) ?_;simp only [List.take_succ_cons,List.take_zero,List.drop_succ_cons,List.drop_zero];repeat still_step
   refine wpStill_nil ?_;go_wp2
   go_roundw
   case rel=>exact ⟨j+1,by go_num,hlt,HN⟩
   case measure=>simp [intOf];omega
  ·have hjn:j=n:=by omega
   subst hjn;go_wp2
   go_ret
   exact ⟨rfl,hr.out⟩
theorem rev_take {l:List KV} {j:Nat} {e:KV} (h:j < l.length) (he:l[l.length - 1 - j]?=some e):l.reverse.take (j+1)=l.reverse.take j++[e]:=by
 rw [List.take_add_one,List.getElem?_reverse h,he];rfl
set_option maxHeartbeats 4000000 in
theorem backward_any (w:World) (a:Option Addr) (n c:Nat) (l:List KV) (hP:Pairs w.heap.size w a n c l) (hn:n≤2147483647):Calls Tryz.prog 84 #[.slice a n c] w fun e w'=>∃ a' c',e=.returned (.slice a' n c')∧Pairs w'.heap.size w' a' n c' l.reverse∧Below w.heap.size w w':=by
 have HP:=hid hP;have hlen:=hP.len;clear hP;have hw0:IntKind.i64.wrap ((n:Int) - 1)=(n:Int) - 1:=IntWalk.i64_in _ (by omega);go_enter Tryz.func84,Tryz.ntmps84
 go_wp2_with fail
 go_loopw [4,3] (fun i v wr=>∃ j:Nat,i=.int .i64 ((n:Int) - 1 - j)∧j≤n∧Hid (MkR w.heap.size w (l.reverse.take j) v wr)) (fun i _ _=>(intOf i+1).toNat)
 case atStart=>exact ⟨0,by simp,Nat.zero_le _,hid (MkR.nil _ _)⟩
 case round =>
  obtain ⟨j,rfl,hj,hr⟩:=hrel;by_cases hlt:j < n
  ·obtain ⟨i,hi⟩:∃ i:Nat,i=n - 1 - j:=⟨_,rfl⟩;have hii:(n:Int) - 1 - j=(i:Int):=by omega
   obtain ⟨ev,hev⟩:∃ ev,l[i]?=some ev:=⟨_,List.getElem?_eq_getElem (by rw [hlen];omega)⟩;have hbr:Below w.heap.size w wr:=by obtain ⟨_,_,_,_,q,_⟩:=hr.out;exact q
   obtain ⟨g,o,k1,n1,c1,k2,n2,c2,rfl,hgB,hq0,hq1,hk1,hk2⟩:=(HP.out.below hbr).at' i ev hev;obtain ⟨rs,hown,happ⟩:=hr.out.app (x:=.slice k1 n1 c1) (y:=.slice k2 n2 c2) (ev:=ev) hbr.size ⟨k1,n1,c1,k2,n2,c2,rfl,hk1,hk2⟩;have hlt2:(l.reverse.take j).length=j:=by rw [List.length_take,List.length_reverse];omega
   rw [hlt2] at hown happ;rw [← rev_take (by omega) (by rw [show l.length - 1 - j=i by omega];exact hev)] at happ;have HOWN:=hid hown;have HAPP:=hid happ;have hi1:i < n:=by omega
   have hi2:(i:Int) < (n:Int):=by omega
   have hwi:IntKind.i64.wrap ((i:Int) - 1)=(i:Int) - 1:=IntWalk.i64_in _ (by omega);have HI:=hid hii;clear hown happ hk1 hk2 hev hr hbr hlt2 hi;rw [hii];clear hii;go_wp2_with (at_builtin;go_must (refine wpList_app rfl _ _ 36 rfl 88 (.agg #[.slice none 0 0,.slice none 0 0]) 2 48 un36 info88 rfl (by omega) u3 j (rs.flatMap fun r=>[r.1,r.2]) rfl (by exact HOWN.out) (some ⟨wr.heap.size,0,none⟩) 1 1 [.slice k1 n1 c1,.slice k2 n2 c2] rfl rfl (fun e=>by cases e) (by exact news_new [.slice k1 n1 c1,.slice k2 n2 c2] _ (Blk.new wr _ _)) (by simp [Value.oneCell']) (by unfold maxLen;omega) (by omega) ?_);go_must (intro v9 w9 hown9 hgrow9 hlies9);go_must (have HY:=hid (HAPP.out v9 w9 hown9 hgrow9 hlies9));go_must (clear hown9 hgrow9 hlies9))
   go_roundw
   case rel=>exact ⟨j+1,by have:=HI.out;rw [show (n:Int) - 1 - ((j+1:Nat):Int)=(i:Int) - 1 by omega],hlt,HY⟩
   case measure=>simp [intOf]
  ·have hjn:j=n:=by omega
   have hm:MkR w.heap.size w l.reverse u3 wr:=by have:=hr.out;rwa [List.take_of_length_le (by rw [List.length_reverse];omega)] at this
   have hbr:Below w.heap.size w wr:=by obtain ⟨_,_,_,_,q,_⟩:=hm;exact q
   obtain ⟨a',c',hv,hp⟩:=hm.pairs hbr.size;rw [List.length_reverse,hlen] at hp hv;have HF:=hid (show Pairs wr.heap.size wr a' n c' l.reverse∧Below w.heap.size w wr from ⟨hp,hbr⟩);have hneg:¬ (0:Int)≤(n:Int) - 1 - j:=by omega
   clear hr hm hbr hp;subst hv;go_wp2
   go_ret
   exact ⟨_,_,rfl,HF.out⟩
end
section
open Go Go.RowKit Go.Shelf
theorem eqn1 (w:World):(binOp BinOp.eql 29 (.slice none 0 0) (.slice none 0 0)).run Tryz.prog w=.ok (.bool true) w:=by kernel_rfl
theorem eqn2 (b o n c:Nat) (w:World):(binOp BinOp.eql 29 (.slice (some ⟨b,o,none⟩) n c) (.slice none 0 0)).run Tryz.prog w=.ok (.bool false) w:=by kernel_rfl
def rkeep (s:Bs) (t:Option Bs) (e:KV):Bool:=decide (0≤cmpI e.1 s) && (match t with
 | none=>true
 | some t=>decide (cmpI e.1 t < 0))
theorem MkR.bl {B:Nat} {w0 w:World} {l:List KV} {v:Value} (h:MkR B w0 l v w):Below B w0 w:=by obtain ⟨_,_,_,_,q,_⟩:=h;exact q
theorem MkR.sz {w0 w:World} {l:List KV} {v:Value} (h:MkR w0.heap.size w0 l v w):w0.heap.size≤w.heap.size:=h.bl.size
set_option maxHeartbeats 8000000 in
theorem mapRange_any (w:World) (a:Option Addr) (n c:Nat) (l:List KV) (hP:Pairs w.heap.size w a n c l) (hn:n≤2147483647) (sa:Option Addr) (sn sc:Nat) (s:Bs) (hs:Key w.heap.size w sa sn sc s) (tv:Value) (t:Option Bs)
  (ht:(t=none∧tv=.slice none 0 0)∨∃ tk b o tn tc,t=some tk∧tv=.slice (some ⟨b,o,none⟩) tn tc∧Key w.heap.size w (some ⟨b,o,none⟩) tn tc tk) :
  Calls Tryz.prog 85 #[.slice a n c,.slice sa sn sc,tv] w fun e w'=>∃ a' c',e=.returned (.slice a' (l.filter (rkeep s t)).length c')∧Pairs w'.heap.size w' a' (l.filter (rkeep s t)).length c' (l.filter (rkeep s t))∧Below w.heap.size w w':=by
 have HP:=hid hP;have HS:=hid hs;have hlen:=hP.len;clear hP hs;have htv:∃ ta tn tc,tv=.slice ta tn tc:=by
  rcases ht with ⟨_,e⟩ | ⟨_,_,_,_,_,_,e,_⟩
  ·exact ⟨_,_,_,e⟩
  ·exact ⟨_,_,_,e⟩
 have HT:=hid ht;clear ht;obtain ⟨ta,tn,tc,rfl⟩:=htv;go_enter Tryz.func85,Tryz.ntmps85
 go_wp2_with fail
 go_loopw [12,7] (fun i v wr=>∃ j:Nat,i=.int .i64 j∧j≤n∧Hid (MkR w.heap.size w ((l.take j).filter (rkeep s t)) v wr)) (fun i _ _=>n - (intOf i).toNat)
 case atStart=>exact ⟨0,rfl,Nat.zero_le _,hid (MkR.nil _ _)⟩
 case round =>
  obtain ⟨j,rfl,hj,hr⟩:=hrel;by_cases hlt:j < n
  ·obtain ⟨ev,hev⟩:∃ ev,l[j]?=some ev:=⟨_,List.getElem?_eq_getElem (by rw [hlen];exact hlt)⟩;obtain ⟨g,o,k1,n1,c1,k2,n2,c2,rfl,hgB,hq0',hq1',hk1,hk2⟩:=HP.out.at' j ev hev;have hc:∀ j,wr.cell? ⟨g,j,none⟩=w.cell? ⟨g,j,none⟩:=fun j=>World.cell?_of_block (a:=⟨g,j,none⟩) (hr.out.bl.block g hgB)
   have hq0:=(hc _).trans hq0';have hq1:=(hc _).trans hq1';obtain ⟨wb,hwb⟩:∃ wb,wb=wr.alloc (.cells #[.slice k1 n1 c1,.slice k2 n2 c2] 88):=⟨_,rfl⟩;have hbb:Below wr.heap.size wr wb:=by rw [hwb];exact (Below.refl _ _).alloc (Nat.le_refl _) _
   have hBx:Blk wb wr.heap.size #[.slice k1 n1 c1,.slice k2 n2 c2] 88:=by rw [hwb];exact Blk.new _ _ _
   have hmk:=hr.out.below hbb hr.out.sz;have hc1:=lcmp_any wb k1 sa n1 c1 sn sc ev.1 s (hk1.below hmk.bl).sl (HS.out.below hmk.bl).sl;have HX:=hid (show (Key w.heap.size w k1 n1 c1 ev.1∧Key w.heap.size w k2 n2 c2 ev.2)∧(l.take (j+1)).filter (rkeep s t)=(if rkeep s t ev then (l.take j).filter (rkeep s t)++[ev] else (l.take j).filter (rkeep s t))∧l[j]?=some ev from ⟨⟨hk1,hk2⟩,by
    rw [List.take_add_one,hev,List.filter_append];show _++List.filter (rkeep s t) [ev]=_
    by_cases hkp:rkeep s t ev=true
    ·rw [if_pos hkp,List.filter_cons_of_pos hkp];rfl
    ·rw [if_neg hkp,List.filter_cons_of_neg hkp];simp,hev⟩)
   have HM0:=hid hmk;have HB0:=hid hBx;have HWB:=hid hwb;clear hwb hbb hmk hk1 hk2 hev hr hc hBx hq0' hq1';go_wp2_with fail
   rw [← HWB.out];refine hc1.mono ?_;rintro e w2 ⟨rfl,hb2⟩;have HM:=hid (HM0.out.below hb2 HM0.out.sz);have HB:Hid (Blk w2 wr.heap.size #[.slice k1 n1 c1,.slice k2 n2 c2] 88):=hid ((hb2.block _ HB0.out.lt).trans HB0.out);clear hc1 hb2 HM0 HB0 HWB hq0 hq1;by_cases hz:0≤cmpI ev.1 s
   ·rcases HT.out with ⟨hte,htv⟩ | ⟨tk,b,o2,tn',tc',hte,htv,htk⟩
    ·cases htv
     have HTE:=hid hte;clear hte;have hen:=eqn1;generalize hZ:cmpI ev.1 s=z at *;have HZ:=hid (show cmpI ev.1 s=z∧0≤z from ⟨hZ,hz⟩);clear hZ;obtain ⟨rs,hown,happ⟩:=HM.out.app (x:=.slice k1 n1 c1) (y:=.slice k2 n2 c2) (ev:=ev) HM.out.sz ⟨k1,n1,c1,k2,n2,c2,rfl,HX.out.1.1.below HM.out.bl,HX.out.1.2.below HM.out.bl⟩;have hfl:((l.take j).filter (rkeep s t)).length≤j:=Nat.le_trans (List.length_filter_le _ _) (by rw [List.length_take];omega)
     have HAPP:Hid (∀ v8 w8,w8.ownsRow 0 88 2 v8 (((l.take j).filter (rkeep s t)).length+1) ((rs.flatMap fun r=>[r.1,r.2])++[.slice k1 n1 c1,.slice k2 n2 c2])→(w2.alloc (.cells #[.slice k1 n1 c1,.slice k2 n2 c2] 88)).grownBy w8 u7.ownBlock→Lies (w2.alloc (.cells #[.slice k1 n1 c1,.slice k2 n2 c2] 88)) u7 v8→MkR w.heap.size w ((l.take (j+1)).filter (rkeep s t)) v8 w8):=hid (by rw [HX.out.2.1,if_pos (by unfold rkeep;rw [HTE.out,HZ.out.1,decide_eq_true HZ.out.2];rfl)];exact happ)
     have HOWN:=hid hown;have hz0:w2.cell? ⟨wr.heap.size,0,none⟩=some (.slice k1 n1 c1):=HB.out.cell (k:=0) rfl;have hz1:w2.cell? ⟨wr.heap.size,1,none⟩=some (.slice k2 n2 c2):=HB.out.cell (k:=1) rfl;clear hown happ HM HX HB;generalize ((l.take j).filter (rkeep s t)).length=FL at *;try dsimp only
     go_wp2_with (at_builtin;go_must (refine wpList_app rfl _ _ 86 rfl 88 (.agg #[.slice none 0 0,.slice none 0 0]) 2 48 un86 info88 rfl (by omega) u7 FL (rs.flatMap fun r=>[r.1,r.2]) rfl (by exact HOWN.out) (some ⟨w2.heap.size,0,none⟩) 1 1 [.slice k1 n1 c1,.slice k2 n2 c2] rfl rfl (fun e=>by cases e) (by exact news_new [.slice k1 n1 c1,.slice k2 n2 c2] _ (Blk.new w2 _ _)) (by simp [Value.oneCell']) (by unfold maxLen;omega) (by omega) ?_);go_must (intro v9 w9 hown9 hgrow9 hlies9);go_must (have HY:=hid (HAPP.out v9 w9 hown9 hgrow9 hlies9));go_must (clear hown9 hgrow9 hlies9))
     go_roundw
     case rel=>exact ⟨j+1,by go_num,hlt,HY⟩
     case measure=>simp [intOf];omega
    ·cases htv
     have HTE:=hid hte;clear hte;have hen:=eqn2 b o2 tn tc;have hc2:=lcmp_any w2 k1 (some ⟨b,o2,none⟩) n1 c1 tn tc ev.1 tk (HX.out.1.1.below HM.out.bl).sl (htk.below HM.out.bl).sl;have hz0:w2.cell? ⟨wr.heap.size,0,none⟩=some (.slice k1 n1 c1):=HB.out.cell (k:=0) rfl;generalize hZ:cmpI ev.1 s=z at *;have HZ:=hid (show cmpI ev.1 s=z∧0≤z from ⟨hZ,hz⟩);clear hZ htk;try dsimp only
     go_wp2_with fail
     refine hc2.mono ?_;rintro e w3 ⟨rfl,hb3⟩;have HM3:=hid (HM.out.below hb3 HM.out.sz);have HB3:Hid (Blk w3 wr.heap.size #[.slice k1 n1 c1,.slice k2 n2 c2] 88):=hid ((hb3.block _ HB.out.lt).trans HB.out);clear hc2 hb3 HM HB hz0;have HM:=HM3;have HB:=HB3;clear HM3 HB3;by_cases hy:cmpI ev.1 tk < 0
     ·generalize hY2:cmpI ev.1 tk=y at *;have HY2:=hid (show cmpI ev.1 tk=y∧y < 0 from ⟨hY2,hy⟩);clear hY2;obtain ⟨rs,hown,happ⟩:=HM.out.app (x:=.slice k1 n1 c1) (y:=.slice k2 n2 c2) (ev:=ev) HM.out.sz ⟨k1,n1,c1,k2,n2,c2,rfl,HX.out.1.1.below HM.out.bl,HX.out.1.2.below HM.out.bl⟩;have hfl:((l.take j).filter (rkeep s t)).length≤j:=Nat.le_trans (List.length_filter_le _ _) (by rw [List.length_take];omega)
      have HAPP:Hid (∀ v8 w8,w8.ownsRow 0 88 2 v8 (((l.take j).filter (rkeep s t)).length+1) ((rs.flatMap fun r=>[r.1,r.2])++[.slice k1 n1 c1,.slice k2 n2 c2])→(w3.alloc (.cells #[.slice k1 n1 c1,.slice k2 n2 c2] 88)).grownBy w8 u7.ownBlock→Lies (w3.alloc (.cells #[.slice k1 n1 c1,.slice k2 n2 c2] 88)) u7 v8→MkR w.heap.size w ((l.take (j+1)).filter (rkeep s t)) v8 w8):=hid (by rw [HX.out.2.1,if_pos (by unfold rkeep;rw [HTE.out,HZ.out.1,decide_eq_true HZ.out.2];show (true && decide (cmpI ev.1 tk < 0))=true;rw [HY2.out.1,decide_eq_true HY2.out.2];rfl)];exact happ)
      have HOWN:=hid hown;have hz0:w3.cell? ⟨wr.heap.size,0,none⟩=some (.slice k1 n1 c1):=HB.out.cell (k:=0) rfl;have hz1:w3.cell? ⟨wr.heap.size,1,none⟩=some (.slice k2 n2 c2):=HB.out.cell (k:=1) rfl;clear hown happ HM HX HB;generalize ((l.take j).filter (rkeep s t)).length=FL at *;try dsimp only
      go_wp2_with (at_builtin;go_must (refine wpList_app rfl _ _ 86 rfl 88 (.agg #[.slice none 0 0,.slice none 0 0]) 2 48 un86 info88 rfl (by omega) u7 FL (rs.flatMap fun r=>[r.1,r.2]) rfl (by exact HOWN.out) (some ⟨w3.heap.size,0,none⟩) 1 1 [.slice k1 n1 c1,.slice k2 n2 c2] rfl rfl (fun e=>by cases e) (by exact news_new [.slice k1 n1 c1,.slice k2 n2 c2] _ (Blk.new w3 _ _)) (by simp [Value.oneCell']) (by unfold maxLen;omega) (by omega) ?_);go_must (intro v9 w9 hown9 hgrow9 hlies9);go_must (have HY:=hid (HAPP.out v9 w9 hown9 hgrow9 hlies9));go_must (clear hown9 hgrow9 hlies9))
      go_roundw
      case rel=>exact ⟨j+1,by go_num,hlt,HY⟩
      case measure=>simp [intOf];omega
     ·generalize hY2:cmpI ev.1 tk=y at *;have HY2:=hid (show cmpI ev.1 tk=y∧¬ y < 0 from ⟨hY2,hy⟩);clear hY2;have HY:Hid (MkR w.heap.size w ((l.take (j+1)).filter (rkeep s t)) u7 w3):=hid (by rw [HX.out.2.1,if_neg (by unfold rkeep;rw [HTE.out,HZ.out.1,decide_eq_true HZ.out.2];show ¬ (true && decide (cmpI ev.1 tk < 0))=true;rw [HY2.out.1,decide_eq_false HY2.out.2];simp)];exact HM.out);clear HM HX;try dsimp only
      go_wp2_with fail
      go_roundw
      case rel=>exact ⟨j+1,by go_num,hlt,HY⟩
      case measure=>simp [intOf];omega
   ·generalize hZ:cmpI ev.1 s=z at *;have HZ:=hid (show cmpI ev.1 s=z∧¬ 0≤z from ⟨hZ,hz⟩);clear hZ;have HY:Hid (MkR w.heap.size w ((l.take (j+1)).filter (rkeep s t)) u7 w2):=hid (by rw [HX.out.2.1,if_neg (by unfold rkeep;rw [HZ.out.1,decide_eq_false HZ.out.2];simp)];exact HM.out);clear HM HX;try dsimp only
    go_wp2_with fail
    go_roundw
    case rel=>exact ⟨j+1,by go_num,hlt,HY⟩
    case measure=>simp [intOf];omega
  ·have hjn:j=n:=by omega
   have hm:MkR w.heap.size w (l.filter (rkeep s t)) u7 wr:=by have:=hr.out;rwa [List.take_of_length_le (by omega)] at this
   obtain ⟨a',c',hv,hp⟩:=hm.pairs hm.sz;have HF:=hid (show Pairs wr.heap.size wr a' (l.filter (rkeep s t)).length c' (l.filter (rkeep s t))∧Below w.heap.size w wr from ⟨hp,hm.bl⟩);clear hr hm hp;generalize hFL:(l.filter (rkeep s t)).length=FL at *;have HFL:=hid hFL;clear hFL;subst hv;go_wp2
   go_ret
   rw [HFL.out];exact ⟨_,_,rfl,HF.out⟩
end
section
open Go Go.RowKit Go.Shelf
def wmove (N sk:Nat) (c:UInt8) (z:Int):Int:=if c.toNat % 5=0 then 0 else if c.toNat % 5=1 then (N:Int) - 1 else if c.toNat % 5=2 then min (z+1) N else if c.toNat % 5=3 then max (z - 1) (-1) else sk
def wAt (N sk:Nat) (l:Bs) (k:Nat):Int:=(l.take k).foldl (fun x c=>wmove N sk c x) (-1)
theorem wAt_succ {N sk:Nat} {l:Bs} {k:Nat} {c:UInt8} (h:l[k]?=some c):wAt N sk l (k+1)=wmove N sk c (wAt N sk l k):=by
 unfold wAt;rw [List.take_add_one,h];simp [List.foldl_append]
def wOut (N:Nat) (x:Int):Int:=if x < 0∨(N:Int)≤x then -1 else x
def wOuts (N sk:Nat) (l:Bs) (k:Nat):List Int:=(List.range k).map fun i=>wOut N (wAt N sk l (i+1))
theorem wOuts_succ (N sk:Nat) (l:Bs) (k:Nat):wOuts N sk l (k+1)=wOuts N sk l k++[wOut N (wAt N sk l (k+1))]:=by simp [wOuts,List.range_succ]
theorem wOuts_len (N sk:Nat) (l:Bs) (k:Nat):(wOuts N sk l k).length=k:=by simp [wOuts]
theorem wmove_bd {N sk:Nat} {c:UInt8} {z:Int} (h:-1≤z∧z≤N) (hs:sk≤N):-1≤wmove N sk c z∧wmove N sk c z≤N:=by
 unfold wmove;split
 ·omega
 split
 ·omega
 split
 ·omega
 split
 ·omega
 ·omega
theorem wAt_bd {N sk:Nat} (hs:sk≤N) (l:Bs):∀ k,k≤l.length→-1≤wAt N sk l k∧wAt N sk l k≤N
 | 0,_=>by unfold wAt;simp
 | k+1,h=>by
  rw [wAt_succ (c:=l[k]) (List.getElem?_eq_getElem (by omega))];exact wmove_bd (wAt_bd hs l k (by omega)) hs
def MkN (B:Nat) (w0:World) (l:List Int) (v:Value) (w:World):Prop:=w.ownsRow 0 3 1 v l.length (l.map fun x=>Value.int .i64 x)∧Below B w0 w∧∀ g,v.ownBlock=some g→B≤g
theorem MkN.below {B:Nat} {w0 w w':World} {l:List Int} {v:Value} (h:MkN B w0 l v w) (hb:Below w.heap.size w w') (hB:B≤w.heap.size):MkN B w0 l v w' :=
 ⟨own_same h.1 (fun g e=>hb.block g (own_lt h.1 e)),h.2.1.trans (hb.mono hB),h.2.2⟩
theorem MkN.app {B:Nat} {w0 w:World} {l:List Int} {v:Value} (h:MkN B w0 l v w) (hB:B≤w.heap.size) (x:Int):(w.alloc (.cells #[.int .i64 x] 3)).ownsRow 0 3 1 v l.length (l.map fun x=>Value.int .i64 x) ∧
  ∀ v8 w8,w8.ownsRow 0 3 1 v8 (l.length+1) ((l.map fun x=>Value.int .i64 x)++[.int .i64 x])→(w.alloc (.cells #[.int .i64 x] 3)).grownBy w8 v.ownBlock→Lies (w.alloc (.cells #[.int .i64 x] 3)) v v8→MkN B w0 (l++[x]) v8 w8:=by
 have hb3:Below w.heap.size w (w.alloc (.cells #[.int .i64 x] 3)):=(Below.refl _ _).alloc (Nat.le_refl _) _;have hs3:(w.alloc (.cells #[.int .i64 x] 3)).heap.size=w.heap.size+1:=by simp
 generalize (w.alloc (.cells #[.int .i64 x] 3))=w3 at *;refine ⟨own_same h.1 (fun g e=>hb3.block g (own_lt h.1 e)),fun v8 w8 g1 g2 g3=>?_⟩;have hbl:Below B w w8:=(hb3.mono hB).trans ⟨g2.os,g2.tape,g2.output,g2.size,fun k hk=>g2.block k (by omega) (fun e=>by have:=h.2.2 k e.symm;omega)⟩;refine ⟨by rw [List.length_append,List.map_append];simpa using g1,h.2.1.trans hbl,fun g hg=>?_⟩;rcases g3 with e | e
 ·exact h.2.2 g (e.symm.trans hg)
 ·rw [hg] at e;have:g=w3.heap.size:=by simpa using e
  omega
set_option maxHeartbeats 8000000 in
theorem mapWalk_any (w:World) (a:Option Addr) (n c:Nat) (l:List KV) (hP:Pairs w.heap.size w a n c l) (hn:n≤2147483647) (ca:Option Addr) (cn cc:Nat) (cs:Bs) (hc:Key w.heap.size w ca cn cc cs) (hcn:cn≤2147483647) (ka:Option Addr) (kn kc:Nat) (tk:Bs) (hk:Key w.heap.size w ka kn kc tk) :
  Calls Tryz.prog 117 #[.slice a n c,.slice ca cn cc,.slice ka kn kc] w fun e w'=>∃ a' c',e=.returned (.slice a' cn c')∧MkN w.heap.size w (wOuts n (sidx l tk) cs cn) (.slice a' cn c') w':=by
 have HP:=hid hP;have HC:=hid hc;have HK:=hid hk;have hlen:=hP.len;have hclen:=hc.sl.len;have hsk:sidx l tk≤n:=by have:=sidx_le l tk;omega
 clear hP hc hk;generalize hSK:sidx l tk=sk at *;have HSK:=hid hSK;clear hSK;have HBD:=hid (fun k (hk:k≤cn)=>wAt_bd hsk cs k (by omega));go_enter Tryz.func117,Tryz.ntmps117
 go_wp2_with fail
 go_loopw [13,7,8] (fun i z v wr=>∃ (j:Nat) (x:Int),i=.int .i64 j∧z=.int .i64 x∧j≤cn∧Hid (MkN w.heap.size w (wOuts n sk cs j) v wr)∧Hid (x=wAt n sk cs j)) (fun i _ _ _=>cn - (intOf i).toNat)
 case atStart=>exact ⟨0,-1,rfl,rfl,Nat.zero_le _,hid ⟨World.ownsRow_nil w 0 3 1,Below.refl _ _,fun g e=>(nomatch e)⟩,hid rfl⟩
 case round =>
  obtain ⟨j,z0,rfl,rfl,hj,hr,hz⟩:=hrel;by_cases hlt:j < cn
  ·obtain ⟨b,o,rfl⟩:=HC.out.sl.form (by omega);obtain ⟨y,hy,hcy⟩:=(HC.out.below hr.out.2.1).sl.get hlt;have hi1:(j:Int) < (cn:Int):=by omega
   have hzb:=HBD.out j (by omega);rw [← hz.out] at hzb;have HZ:=hid (show wAt n sk cs (j+1)=wmove n sk y z0 from by rw [wAt_succ hy,hz.out]);have HRM:=hr;clear hr hy hz;go_upto_block 2 with fail
   go_cut [7] (fun v wx=>∃ z:Int,v=.int .i64 z∧Hid (wAt n sk cs (j+1)=z)∧Hid (MkN w.heap.size w (wOuts n sk cs j) u8 wx))
   case first =>
    have hy5:y.toNat % 5=0∨y.toNat % 5=1∨y.toNat % 5=2∨y.toNat % 5=3∨y.toNat % 5=4:=by omega
    rcases hy5 with hy5 | hy5 | hy5 | hy5 | hy5
    ·have hm:wmove n sk y z0=0:=by unfold wmove;rw [if_pos hy5]
     rw [hm] at HZ;clear hm;have hb0:((y.toNat:Int) % 5 == 0)=true:=by rw [beq_iff_eq];omega
     have HY5:=hid hy5;clear hy5;go_wp2_with fail
     go_meet
     case rel=>exact ⟨_,rfl,hid HZ.out,HRM⟩
    ·have hm:wmove n sk y z0=(n:Int) - 1:=by unfold wmove;rw [if_neg (by omega),if_pos hy5]
     rw [hm] at HZ;clear hm;have hb0:((y.toNat:Int) % 5 == 0)=false:=by rw [beq_eq_false_iff_ne];omega
     have hb1:((y.toNat:Int) % 5 == 1)=true:=by rw [beq_iff_eq];omega
     have hw1:IntKind.i64.wrap ((n:Int) - 1)=(n:Int) - 1:=IntWalk.i64_in _ (by omega);have HY5:=hid hy5;clear hy5;go_wp2_with fail
     go_meet
     case rel=>exact ⟨_,rfl,hid HZ.out,HRM⟩
    ·have hm:wmove n sk y z0=min (z0+1) n:=by unfold wmove;rw [if_neg (by omega),if_neg (by omega),if_pos hy5]
     rw [hm] at HZ;clear hm;have hb0:((y.toNat:Int) % 5 == 0)=false:=by rw [beq_eq_false_iff_ne];omega
     have hb1:((y.toNat:Int) % 5 == 1)=false:=by rw [beq_eq_false_iff_ne];omega
     have hb2:((y.toNat:Int) % 5 == 2)=true:=by rw [beq_iff_eq];omega
     have hw1:IntKind.i64.wrap (z0+1)=z0+1:=IntWalk.i64_in _ (by omega);have HY5:=hid hy5;clear hy5;go_wp2_with fail
     go_meet
     case rel=>exact ⟨_,rfl,hid HZ.out,HRM⟩
    ·have hm:wmove n sk y z0=max (z0 - 1) (-1):=by unfold wmove;rw [if_neg (by omega),if_neg (by omega),if_neg (by omega),if_pos hy5]
     rw [hm] at HZ;clear hm;have hb0:((y.toNat:Int) % 5 == 0)=false:=by rw [beq_eq_false_iff_ne];omega
     have hb1:((y.toNat:Int) % 5 == 1)=false:=by rw [beq_eq_false_iff_ne];omega
     have hb2:((y.toNat:Int) % 5 == 2)=false:=by rw [beq_eq_false_iff_ne];omega
     have hb3:((y.toNat:Int) % 5 == 3)=true:=by rw [beq_iff_eq];omega
     have hw1:IntKind.i64.wrap (z0 - 1)=z0 - 1:=IntWalk.i64_in _ (by omega);have HY5:=hid hy5;clear hy5;go_wp2_with fail
     go_meet
     case rel=>exact ⟨_,rfl,hid HZ.out,HRM⟩
    ·have hm:wmove n sk y z0=(sk:Int):=by unfold wmove;rw [if_neg (by omega),if_neg (by omega),if_neg (by omega),if_neg (by omega)]
     rw [hm] at HZ;clear hm;have hb0:((y.toNat:Int) % 5 == 0)=false:=by rw [beq_eq_false_iff_ne];omega
     have hb1:((y.toNat:Int) % 5 == 1)=false:=by rw [beq_eq_false_iff_ne];omega
     have hb2:((y.toNat:Int) % 5 == 2)=false:=by rw [beq_eq_false_iff_ne];omega
     have hb3:((y.toNat:Int) % 5 == 3)=false:=by rw [beq_eq_false_iff_ne];omega
     have hb4:((y.toNat:Int) % 5 == 4)=true:=by rw [beq_iff_eq];omega
     have hat:=mapAt_any wr a n c l (HP.out.below HRM.out.2.1 |>.up HRM.out.2.1.size) hn ka kn kc tk ((HK.out.below HRM.out.2.1).up HRM.out.2.1.size);rw [HSK.out] at hat;have HY5:=hid hy5;clear hy5;go_wp2_with fail
     refine hat.mono ?_;rintro e w2 ⟨rfl,hb2⟩;have HRM2:=hid (HRM.out.below hb2 HRM.out.2.1.size);clear HRM hat hb2;have HRM:=HRM2;clear HRM2;try dsimp only
     go_wp2_with fail
     go_meet
     case rel=>exact ⟨_,rfl,hid HZ.out,HRM⟩
   case rest =>
    obtain ⟨z,rfl,HZ,HRM⟩:=hcut;have hzb:=HBD.out (j+1) (by omega);rw [HZ.out] at hzb;have hol:=wOuts_len n sk cs j;obtain ⟨hown,happ⟩:=HRM.out.app HRM.out.2.1.size (wOut n z);rw [hol] at hown happ;have hsu:wOuts n sk cs j++[wOut n z]=wOuts n sk cs (j+1):=by rw [wOuts_succ,HZ.out]
    rw [hsu] at happ;generalize hWV:wOuts n sk cs j=wvs at *;have HOWN:=hid hown;clear hWV hsu hol HRM hown;by_cases hz:z < 0
    ·have HAPP:=hid happ;rw [show wOut n z=-1 by unfold wOut;rw [if_pos (.inl hz)]] at HAPP HOWN;clear happ;try dsimp only
     go_wp2_with (at_builtin;go_must (refine wpList_app rfl _ _ 224 rfl 3 (.int .i64 0) 1 8 un224 info3 rfl (by omega) u8 j (wvs.map fun x=>Value.int .i64 x) rfl (by exact HOWN.out) (some ⟨wc.heap.size,0,none⟩) 1 1 [.int .i64 (-1)] rfl rfl (fun e=>by cases e) (by exact news_new [.int .i64 (-1)] _ (Blk.new wc _ _)) (by simp [Value.oneCell']) (by unfold maxLen;omega) (by omega) ?_);go_must (intro v9 w9 hown9 hgrow9 hlies9);go_must (have HY:=hid (HAPP.out v9 w9 hown9 hgrow9 hlies9));go_must (clear hown9 hgrow9 hlies9))
     go_roundw
     case rel=>exact ⟨j+1,z,by go_num,rfl,hlt,HY,hid HZ.out.symm⟩
     case measure=>simp [intOf];omega
    ·by_cases hz2:(n:Int)≤z
     ·have HAPP:=hid happ;rw [show wOut n z=-1 by unfold wOut;rw [if_pos (.inr hz2)]] at HAPP HOWN;clear happ;try dsimp only
      go_wp2_with (at_builtin;go_must (refine wpList_app rfl _ _ 224 rfl 3 (.int .i64 0) 1 8 un224 info3 rfl (by omega) u8 j (wvs.map fun x=>Value.int .i64 x) rfl (by exact HOWN.out) (some ⟨wc.heap.size,0,none⟩) 1 1 [.int .i64 (-1)] rfl rfl (fun e=>by cases e) (by exact news_new [.int .i64 (-1)] _ (Blk.new wc _ _)) (by simp [Value.oneCell']) (by unfold maxLen;omega) (by omega) ?_);go_must (intro v9 w9 hown9 hgrow9 hlies9);go_must (have HY:=hid (HAPP.out v9 w9 hown9 hgrow9 hlies9));go_must (clear hown9 hgrow9 hlies9))
      go_roundw
      case rel=>exact ⟨j+1,z,by go_num,rfl,hlt,HY,hid HZ.out.symm⟩
      case measure=>simp [intOf];omega
     ·have HAPP:=hid happ;rw [show wOut n z=z by unfold wOut;rw [if_neg (by omega)]] at HAPP HOWN;clear happ;try dsimp only
      go_wp2_with (at_builtin;go_must (refine wpList_app rfl _ _ 224 rfl 3 (.int .i64 0) 1 8 un224 info3 rfl (by omega) u8 j (wvs.map fun x=>Value.int .i64 x) rfl (by exact HOWN.out) (some ⟨wc.heap.size,0,none⟩) 1 1 [.int .i64 z] rfl rfl (fun e=>by cases e) (by exact news_new [.int .i64 z] _ (Blk.new wc _ _)) (by simp [Value.oneCell']) (by unfold maxLen;omega) (by omega) ?_);go_must (intro v9 w9 hown9 hgrow9 hlies9);go_must (have HY:=hid (HAPP.out v9 w9 hown9 hgrow9 hlies9));go_must (clear hown9 hgrow9 hlies9))
      go_roundw
      case rel=>exact ⟨j+1,z,by go_num,rfl,hlt,HY,hid HZ.out.symm⟩
      case measure=>simp [intOf];omega
  ·have hjn:j=cn:=by omega
   have hm:=hr.out;rw [hjn] at hm;obtain ⟨a',c',hv,_⟩:=own_form hm.1;rw [wOuts_len] at hv;have HF:=hid hm;clear hr hm hz;rw [hv] at HF;subst hv;go_wp2
   go_ret
   exact ⟨_,_,rfl,HF.out⟩
end
section
open Go Go.RowKit Go.Shelf
theorem walk_rel {N sk:Nat} (l:Bs):∀ k,k≤l.length→(cAt N sk 0 l k:Int)=wAt N sk l k+1
 | 0,_=>by unfold cAt wAt;simp
 | k+1,h=>by
  have hc:l[k]?=some l[k]:=List.getElem?_eq_getElem (by omega);have ih:=walk_rel (N:=N) (sk:=sk) l k (by omega);rw [cAt_succ hc,wAt_succ hc];unfold cmove wmove;split
  ·rfl
  split
  ·omega
  split
  ·omega
  split
  ·omega
  ·omega
theorem walk_at {l:List KV} {sk:Nat} (cs:Bs) {j:Nat} (hj:j < cs.length) :
  (wOut l.length (wAt l.length sk cs (j+1))=-1∧sFl l.length (cAt l.length sk 0 cs (j+1))=false) ∨
  ∃ (i:Nat) (ev:KV),wOut l.length (wAt l.length sk cs (j+1))=i∧sFl l.length (cAt l.length sk 0 cs (j+1))=true∧l[i]?=some ev∧sPr l (cAt l.length sk 0 cs (j+1))=ev:=by
 have h:=walk_rel (N:=l.length) (sk:=sk) cs (j+1) hj;generalize wAt l.length sk cs (j+1)=z at *;generalize cAt l.length sk 0 cs (j+1)=c at *;by_cases hc:1≤c∧c≤l.length
 ·right
  have hev:l[c - 1]?=some l[c - 1]:=List.getElem?_eq_getElem (by omega);refine ⟨c - 1,l[c - 1],?_,by unfold sFl;exact decide_eq_true hc,hev,by unfold sPr;rw [if_pos hc,hev];rfl⟩;unfold wOut;rw [if_neg (by omega)];omega
 ·left
  refine ⟨?_,by unfold sFl;exact decide_eq_false hc⟩;unfold wOut;rw [if_pos (by omega)]
theorem sFls_get (N sk c0:Nat) (l:Bs) {k j:Nat} (h:j < k):(sFls N sk c0 l k)[j]?=some (sFl N (cAt N sk c0 l (j+1))):=by
 unfold sFls;rw [List.getElem?_map,List.getElem?_range h];rfl
theorem sPrs_get (V:List KV) (sk c0:Nat) (l:Bs) {k j:Nat} (h:j < k):(sPrs V sk c0 l k)[j]?=some (sPr V (cAt V.length sk c0 l (j+1))):=by
 unfold sPrs;rw [List.getElem?_map,List.getElem?_range h];rfl
theorem wOuts_get (N sk:Nat) (l:Bs) {k j:Nat} (h:j < k):(wOuts N sk l k)[j]?=some (wOut N (wAt N sk l (j+1))):=by
 unfold wOuts;rw [List.getElem?_map,List.getElem?_range h];rfl
theorem row_cell {w:World} {e n c:Nat} {a:Option Addr} {xs:List Value} (h:w.ownsRow 0 e 1 (.slice a n c) n xs) {j:Nat} (hj:j < n):∃ g,a=some ⟨g,0,none⟩∧w.cell? ⟨g,j,none⟩=xs[j]?:=by
 have h0:=h;obtain ⟨_,⟨e1,e2⟩ | ⟨g,cap,cur,e1,_⟩⟩:=h0
 ·simp only [Value.slice.injEq] at e1;omega
 ·simp only [Value.slice.injEq] at e1;obtain ⟨rfl,_,_⟩:=e1;exact ⟨g,rfl,World.ownsRow.cellAt h j (by omega)⟩
set_option maxHeartbeats 8000000 in
theorem walked_yes (w:World) (pa fa:Option Addr) (pc fc:Nat) (N:Int) (ok:Bool) (a:Option Addr) (n c:Nat) (l:List KV) (hP:Pairs w.heap.size w a n c l) (hn:n≤2147483647) (ca:Option Addr) (cn cc:Nat) (cs:Bs) (hc:Key w.heap.size w ca cn cc cs) (hcn:cn≤2147483647) (ka:Option Addr) (kn kc:Nat) (tk:Bs) (hk:Key w.heap.size w ka kn kc tk)
  (hA:Pairs w.heap.size w pa cn pc (sPrs l (sidx l tk) 0 cs cn)) (hF:w.ownsRow 0 4 1 (.slice fa cn fc) cn (bools (sFls l.length (sidx l tk) 0 cs cn))) :
  Calls Tryz.prog 87 #[.agg #[.slice pa cn pc,.slice fa cn fc,.int .i64 N,.bool ok],.slice a n c,.slice ca cn cc,.slice ka kn kc] w fun e w'=>e=.returned (.bool true)∧Below w.heap.size w w':=by
 have hlen:=hP.len;have hclen:=hc.sl.len;obtain ⟨w1,hw1⟩:∃ w1,w1=w.alloc (.cells #[.slice pa cn pc,.slice fa cn fc,.int .i64 N,.bool ok] 71):=⟨_,rfl⟩;have hb1:Below w.heap.size w w1:=by rw [hw1];exact (Below.refl _ _).alloc (Nat.le_refl _) _
 have hB1:Blk w1 w.heap.size #[.slice pa cn pc,.slice fa cn fc,.int .i64 N,.bool ok] 71:=by rw [hw1];exact Blk.new _ _ _
 have hwk:=mapWalk_any w1 a n c l ((hP.below hb1).up hb1.size) hn ca cn cc cs ((hc.below hb1).up hb1.size) hcn ka kn kc tk ((hk.below hb1).up hb1.size);have HP:=hid hP;have HA:=hid hA;have HF:=hid hF;have HB1:=hid (show Below w.heap.size w w1∧Blk w1 w.heap.size #[.slice pa cn pc,.slice fa cn fc,.int .i64 N,.bool ok] 71 from ⟨hb1,hB1⟩);clear hP hA hF hc hk hb1 hB1;go_enter Tryz.func87,Tryz.ntmps87
 go_wp2_with fail
 rw [← hw1];clear hw1;refine hwk.mono ?_;rintro e w2 ⟨a',c',rfl,hown,hb12,_⟩;clear hwk;rw [wOuts_len] at hown;have hb2:Below w.heap.size w w2:=HB1.out.1.trans (hb12.mono HB1.out.1.size);have hB2:Blk w2 w.heap.size #[.slice pa cn pc,.slice fa cn fc,.int .i64 N,.bool ok] 71:=(hb12.block _ HB1.out.2.lt).trans HB1.out.2;have HX:=hid (show w2.ownsRow 0 3 1 (.slice a' cn c') cn ((wOuts n (sidx l tk) cs cn).map fun x=>Value.int .i64 x)∧Below w.heap.size w w2∧Blk w2 w.heap.size #[.slice pa cn pc,.slice fa cn fc,.int .i64 N,.bool ok] 71∧w2.ownsRow 0 4 1 (.slice fa cn fc) cn (bools (sFls l.length (sidx l tk) 0 cs cn)) from ⟨hown,hb2,hB2,own_same HF.out (fun g e=>hb2.block g (own_lt HF.out e))⟩)
 have z0:=hB2.cell (k:=0) rfl;have z1:=hB2.cell (k:=1) rfl;clear hown hb12 hb2 hB2 HB1 HF;try dsimp only
 go_wp2_with fail
 go_loopw [32] (fun i wr=>∃ j:Nat,i=.int .i64 j∧j≤cn∧∃ k,wr=w2.drewN k) (fun i _=>cn - (intOf i).toNat)
 case atStart=>exact ⟨0,rfl,Nat.zero_le _,0,rfl⟩
 case round =>
  obtain ⟨j,rfl,hj,k,rfl⟩:=hrel;by_cases hlt:j < cn
  ·obtain ⟨x1,x2,x3,x4⟩:=HX.out;obtain ⟨g1,hg1,hq1⟩:=row_cell x1 hlt;obtain ⟨g2,hg2,hq2⟩:=row_cell x4 hlt;subst hg1 hg2;rw [List.getElem?_map,wOuts_get _ _ _ hlt] at hq1;unfold bools at hq2;rw [List.getElem?_map,sFls_get _ _ _ _ hlt] at hq2;obtain ⟨g3,o3,k1,n1,c1,k2,n2,c2,hg3,hr0,hr1,hk1,hk2⟩:=((HA.out.below x2).up x2.size).get (Nat.le_refl _) (sPrs_get l (sidx l tk) 0 cs hlt);subst hg3;rw [← hlen] at hq1
   rcases walk_at (l:=l) (sk:=sidx l tk) cs (j:=j) (by omega) with ⟨h1,h2⟩ | ⟨i,ev,h1,h2,h3,h4⟩
   ·rw [h1] at hq1;rw [h2] at hq2;simp only [Option.map_some] at hq1 hq2;clear h1 h2 hk1 hk2 x1 x2 x3 x4;go_upto_region 7 with fail
    go_quiet (fail)
    go_wp2
    go_roundw
    case rel=>exact ⟨j+1,by go_num,hlt,_,rfl⟩
    case measure=>simp [intOf];omega
   ·rw [h1] at hq1;rw [h2] at hq2;rw [h4] at hk1 hk2;simp only [Option.map_some] at hq1 hq2;obtain ⟨g4,o4,m1,r1,d1,m2,r2,d2,hg4,ht0,ht1,hm1,hm2⟩:=((HP.out.below x2).up x2.size).get (Nat.le_refl _) h3;subst hg4;have hin:i < n:=by have:=lt_of_some h3;omega
    have hin2:(i:Int) < (n:Int):=by omega
    have e1:=fun k=>conv_sl (hk1.drewN k)
    have e2:=fun k=>conv_sl (hk2.drewN k)
    have e3:=fun k=>conv_sl (hm1.drewN k)
    have e4:=fun k=>conv_sl (hm2.drewN k)
    generalize (⟨ev.1.toArray⟩:ByteArray)=S1 at *;generalize (⟨ev.2.toArray⟩:ByteArray)=S2 at *;clear h1 h2 h3 h4 hk1 hk2 hm1 hm2 x1 x2 x3 x4;go_upto_region 7 with fail
    go_quiet (fail)
    go_wp2
    go_roundw
    case rel=>exact ⟨j+1,by go_num,hlt,_,rfl⟩
    case measure=>simp [intOf];omega
  ·have hjn:j=cn:=by omega
   subst hjn;go_wp2
   go_ret
   exact ⟨rfl,HX.out.2.1.trans (Below.drewN' _ _ _)⟩
end
end Go.Proofs.YtmkdpjicgjhhjaaGreatDoor
