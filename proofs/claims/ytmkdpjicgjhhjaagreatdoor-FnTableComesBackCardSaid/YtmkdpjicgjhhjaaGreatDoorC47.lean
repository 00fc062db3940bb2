/- Part 47 of the proof of FnTableComesBack: contracts and lemmas, each under the conditions that it states. Texts: RTb. -/
import Derived.Test.YtmkdpjicgjhhjaaGreatDoorC41
import Derived.Test.YtmkdpjicgjhhjaaGreatDoorC46
import Derived.Deep.CutBlock
namespace Go.Proofs.YtmkdpjicgjhhjaaGreatDoor
open Go.Lib (hid)
set_option maxRecDepth 100000
set_option linter.all false
section
open Go Go.RowKit Go.Shelf
def RTst (w0:World) (r:Nat) (T:TI) (ops:List OpV) (Bd k:Nat) (v:Value) (w:World):Prop :=
 ∃ (l:List Ans) (cs:List (Value × Value)) (C:RC),AnssAt w v l cs∧l.length=k∧(∀ (i:Nat) (o:OpV) (a:Ans),ops[i]?=some o→l[i]?=some a→AnsOk T.l o a)∧RD Bd w r C T∧Below Bd w0 w∧∀ g,v.ownBlock=some g→Bd≤g
def RTto (pl:List KV) (ops:List OpV) (w:World) (e:Ending) (w':World):Prop :=
 ∃ (v:Value) (l:List Ans) (cs:List (Value × Value)),e=.returned (.tuple #[v,.bool true])∧AnssAt w' v l cs∧l.length=ops.length∧(∀ (i:Nat) (o:OpV) (a:Ans),ops[i]?=some o→l[i]?=some a→AnsOk pl o a)∧Below w.heap.size w w'
set_option maxHeartbeats 16000000 in
theorem readTable_any (w:World) (da:Option Addr) (dc fb:Nat) (T:TI) (hok:T.ok) (hbs:0 < T.bs) (hF:Sl w da T.F.length dc T.F) (oa:Option Addr) (on oc:Nat) (ops:List OpV) (hO:OpsAt w.heap.size w oa on oc ops) (hon:on≤2147483647) (hsz:∀ o∈ops,o.key.length≤2147483647∧o.val.length≤2147483647) :
  Calls Tryz.prog 10 #[.slice da T.F.length dc,.agg #[.int .i64 T.bs,.int .i64 T.ri,.int .i64 T.n,.int .i64 fb],.slice oa on oc] w (RTto T.l ops w):=by
 have hlen:=hO.len;go_enter Tryz.func10,Tryz.ntmps10
 go_upto_region 1 with fail
 obtain ⟨w1,hw1⟩:∃ w1,w1=w.alloc (Obj.cells #[Value.int .i64 T.bs,.int .i64 T.ri,.int .i64 T.n,.int .i64 fb] 24):=⟨_,rfl⟩;have hbx:Blk w1 w.heap.size #[Value.int .i64 T.bs,.int .i64 T.ri,.int .i64 T.n,.int .i64 fb] 24:=by rw [hw1];exact Blk.new _ _ _
 have hs1:w1.heap.size=w.heap.size+1:=by rw [hw1];simp
 have hb1:Below w.heap.size w w1:=by rw [hw1];exact (Below.refl _ _).alloc (Nat.le_refl _) _
 rw [← hw1];clear hw1;have hnb:=newBytes_any (w1.drewN 1) da T.F.length dc;obtain ⟨w2,hw2⟩:∃ w2,w2=(w1.drewN 1).alloc (.cells #[.slice da T.F.length dc,.int .i64 0,.int .i64 (-1)] 161):=⟨_,rfl⟩;rw [← hw2] at hnb;have hs2:w2.heap.size=w.heap.size+2:=by rw [hw2];simp [hs1]
 have hb12:Below w1.heap.size w1 w2:=by rw [hw2];exact (Below.drewN' w1.heap.size w1 1).alloc (Nat.le_refl _) _
 have hb2:Below w.heap.size w w2:=hb1.trans (hb12.mono (by omega));have hfb:Blk w2 (w.heap.size+1) #[.slice da T.F.length dc,.int .i64 0,.int .i64 (-1)] 161:=by
  rw [hw2,← hs1];exact Blk.new (w1.drewN 1) _ _
 have hbx2:Blk w2 w.heap.size #[Value.int .i64 T.bs,.int .i64 T.ri,.int .i64 T.n,.int .i64 fb] 24:=(hb12.block _ hbx.lt).trans hbx;have hop:=options_any w2 T.bs T.ri T.n fb;rw [show (w1.drewN 1).heap.size=w.heap.size+1 from hs1] at hnb;clear hw2;refine Pos.start (fun W:World=>W.cell? ⟨w.heap.size,0,none⟩=some (.int .i64 T.bs)∧W.cell? ⟨w.heap.size,1,none⟩=some (.int .i64 T.ri)∧W.cell? ⟨w.heap.size,2,none⟩=some (.int .i64 T.n)∧W.cell? ⟨w.heap.size,3,none⟩=some (.int .i64 fb)) 13 (by kernel_rfl) ?_
 have hS:(fun W:World=>W.cell? ⟨w.heap.size,0,none⟩=some (.int .i64 T.bs)∧W.cell? ⟨w.heap.size,1,none⟩=some (.int .i64 T.ri)∧W.cell? ⟨w.heap.size,2,none⟩=some (.int .i64 T.n)∧W.cell? ⟨w.heap.size,3,none⟩=some (.int .i64 fb)) (w1.drewN 1):=⟨hbx.cell (k:=0) rfl,hbx.cell (k:=1) rfl,hbx.cell (k:=2) rfl,hbx.cell (k:=3) rfl⟩;have hS2:(fun W:World=>W.cell? ⟨w.heap.size,0,none⟩=some (.int .i64 T.bs)∧W.cell? ⟨w.heap.size,1,none⟩=some (.int .i64 T.ri)∧W.cell? ⟨w.heap.size,2,none⟩=some (.int .i64 T.n)∧W.cell? ⟨w.heap.size,3,none⟩=some (.int .i64 fb)) w2:=⟨hbx2.cell (k:=0) rfl,hbx2.cell (k:=1) rfl,hbx2.cell (k:=2) rfl,hbx2.cell (k:=3) rfl⟩
 refine Pos.toG 14 #[false,false,false,false,false,false,false,false,false,false,false,false,false,false] rfl (by kernel_rfl) ?_;refine' PosG.takeK (k:=0) hS rfl (by kernel_rfl) (fun _ _ _ h=>h) (by rfl) ?_ ?_;rotate_left
 ·intro W hW;obtain ⟨s1,s2,s3,s4⟩:=hW;go_simp;try with_reducible rfl
 intro K hK;go_simp;refine hK _ ?_;clear hK K;refine' PosG.takeK (k:=3) hS rfl (by kernel_rfl) (fun _ _ _ h=>h) (by rfl) ?_ ?_;rotate_left
 ·intro W hW;obtain ⟨s1,s2,s3,s4⟩:=hW;go_simp;try with_reducible rfl
 intro K hK;go_simp;refine hK _ ?_;clear hK K;refine' PosG.takeK (k:=4) hS rfl (by kernel_rfl) (fun _ _ _ h=>h) (by rfl) ?_ ?_;rotate_left
 ·intro W hW;obtain ⟨s1,s2,s3,s4⟩:=hW;go_simp;try with_reducible rfl
 intro K hK;go_simp;refine hK _ ?_;clear hK K;refine' PosG.takeK (k:=5) hS rfl (by kernel_rfl) (fun _ _ _ h=>h) (by rfl) ?_ ?_;rotate_left
 ·intro W hW;obtain ⟨s1,s2,s3,s4⟩:=hW;go_simp;try with_reducible rfl
 intro K hK;go_simp;refine hK _ ?_;clear hK K;refine' PosG.takeK (k:=6) hS rfl (by kernel_rfl) (fun _ _ _ h=>h) (by rfl) ?_ ?_;rotate_left
 ·intro W hW;obtain ⟨s1,s2,s3,s4⟩:=hW;go_simp;try with_reducible rfl
 intro K hK;go_simp;refine hK _ ?_;clear hK K;clear hS;refine PosG.eff (k:=1) rfl (by kernel_rfl) ?_;go_wp2_with fail
 refine hnb.mono ?_;rintro e w' ⟨rfl,hw'⟩;rw [hw'];clear hnb hw' w';try dsimp only
 go_wp2_with fail
 refine ⟨hS2,?_⟩;have hS:=hS2;clear hS2;refine' PosG.takeK (k:=2) hS rfl (by kernel_rfl) (fun _ _ _ h=>h) (by rfl) ?_ ?_;rotate_left
 ·intro W hW;obtain ⟨s1,s2,s3,s4⟩:=hW;go_simp;try with_reducible rfl
 intro K hK;go_simp;refine hK _ ?_;clear hK K;clear hS;refine PosG.eff (k:=7) rfl (by kernel_rfl) ?_;go_wp2_with fail
 refine hop.mono ?_;rintro e w3 ⟨rfl,ho3,hb23⟩;have hcl:∀ {wa wb:World},Below w2.heap.size wa wb→(fun W:World=>W.cell? ⟨w.heap.size,0,none⟩=some (.int .i64 T.bs)∧W.cell? ⟨w.heap.size,1,none⟩=some (.int .i64 T.ri)∧W.cell? ⟨w.heap.size,2,none⟩=some (.int .i64 T.n)∧W.cell? ⟨w.heap.size,3,none⟩=some (.int .i64 fb)) wa→(fun W:World=>W.cell? ⟨w.heap.size,0,none⟩=some (.int .i64 T.bs)∧W.cell? ⟨w.heap.size,1,none⟩=some (.int .i64 T.ri)∧W.cell? ⟨w.heap.size,2,none⟩=some (.int .i64 T.n)∧W.cell? ⟨w.heap.size,3,none⟩=some (.int .i64 fb)) wb:=fun hb hs=>by
  have hc:∀ j,_:=fun j=>World.cell?_of_block (a:=⟨w.heap.size,j,none⟩) (hb.block w.heap.size (by omega))
  exact ⟨(hc 0).trans hs.1,(hc 1).trans hs.2.1,(hc 2).trans hs.2.2.1,(hc 3).trans hs.2.2.2⟩
 have hS2:(fun W:World=>W.cell? ⟨w.heap.size,0,none⟩=some (.int .i64 T.bs)∧W.cell? ⟨w.heap.size,1,none⟩=some (.int .i64 T.ri)∧W.cell? ⟨w.heap.size,2,none⟩=some (.int .i64 T.n)∧W.cell? ⟨w.heap.size,3,none⟩=some (.int .i64 fb)) w2:=⟨hbx2.cell (k:=0) rfl,hbx2.cell (k:=1) rfl,hbx2.cell (k:=2) rfl,hbx2.cell (k:=3) rfl⟩;have hS3:=hcl hb23 hS2;have hF3:FR' w3 (w.heap.size+1) da dc T.F:=⟨(hb23.block _ hfb.lt).trans hfb,hF.fr (S:=fun _=>False) (Fr.of_below (hb2.trans (hb23.mono hb2.size))) (fun _ _ h=>h)⟩
 have hnr:=newReader_any w3 (w.heap.size+1) dc (w2.heap.size+1) da T hok hF3 ho3;rw [hs2] at hnr;have hs3:=hb23.size;have HB3:=hid (show Below w.heap.size w w3 from hb2.trans (hb23.mono hb2.size));clear hop hF3 ho3 hb23 hb2 hb12 hb1 hbx hbx2 hfb;try dsimp only
 go_wp2_with fail
 refine ⟨hS3,?_⟩;refine PosG.eff (k:=8) rfl (by kernel_rfl) ?_;go_wp2_with fail
 refine hnr.mono ?_;rintro e w4 ⟨r,rfl,⟨C,hrd⟩,hb34⟩;have hS:=hcl (hb34.mono hs3) hS3;have HB4:=hid (show Below w.heap.size w w4 from HB3.out.trans (hb34.mono HB3.out.size));have HRD:=hid hrd;clear hnr hrd hb34 hS3 hS2 hcl;try dsimp only
 go_wp2_with fail
 refine ⟨hS,?_⟩;refine' PosG.takeK (k:=9) hS rfl (by kernel_rfl) (fun _ _ _ h=>h) (by rfl) ?_ ?_;rotate_left
 ·intro W hW;obtain ⟨s1,s2,s3,s4⟩:=hW;go_simp;try with_reducible rfl
 intro K hK;go_simp;refine hK _ ?_;clear hK K;refine' PosG.takeK (k:=10) hS rfl (by kernel_rfl) (fun _ _ _ h=>h) (by rfl) ?_ ?_;rotate_left
 ·intro W hW;obtain ⟨s1,s2,s3,s4⟩:=hW;go_simp;try with_reducible rfl
 intro K hK;go_simp;refine hK _ ?_;clear hK K;refine' PosG.takeK (k:=11) hS rfl (by kernel_rfl) (fun _ _ _ h=>h) (by rfl) ?_ ?_;rotate_left
 ·intro W hW;obtain ⟨s1,s2,s3,s4⟩:=hW;go_simp;try with_reducible rfl
 intro K hK;go_simp;refine hK _ ?_;clear hK K;refine' PosG.takeK (k:=12) hS rfl (by kernel_rfl) (fun _ _ _ h=>h) (by rfl) ?_ ?_;rotate_left
 ·intro W hW;obtain ⟨s1,s2,s3,s4⟩:=hW;go_simp;try with_reducible rfl
 intro K hK;go_simp;refine hK _ ?_;clear hK K;clear hS;refine PosG.tail rfl (by kernel_rfl) (by kernel_rfl) (by decide) ?_;simp only [List.drop_succ_cons,List.drop_zero];have HO:=hid hO;have HSZ:=hid hsz;have HLN:=hid hlen;have HOK:=hid hok;clear hO hsz hok HB3 hs1 hs2 hs3 hF hlen;go_wp2_with fail
 go_loopw [39,10] (fun i v wr=>∃ (j:Nat),i=.int .i64 j∧j≤on∧Hid (RTst w4 r T ops w4.heap.size j v wr)) (fun i _ _=>on - (intOf i).toNat)
 case atStart=>exact ⟨0,rfl,Nat.zero_le _,hid ⟨[],[],C,AnssAt.nil w4,rfl,fun i o a _ h=>by simp at h,HRD.out,Below.refl _ _,fun g e=>(nomatch e)⟩⟩
 case round =>
  obtain ⟨j,rfl,hj,hst⟩:=hrel;by_cases hlt:j < on
  ·obtain ⟨op,hop⟩:∃ op,ops[j]?=some op:=⟨_,List.getElem?_eq_getElem (by rw [HLN.out];exact hlt)⟩;obtain ⟨g,p,k1,n1,c1,k2,n2,c2,rfl,hgB,hq0,hq1,hq2,hq3,hk1,hk2⟩:=HO.out.at' j op hop;have hrdb:Below w.heap.size w wr∧w4.heap.size≤wr.heap.size:=by
    obtain ⟨_,_,_,_,_,_,_,q,_⟩:=hst.out;exact ⟨HB4.out.trans (q.mono HB4.out.size),q.size⟩
   have hc:∀ j,wr.cell? ⟨g,j,none⟩=w.cell? ⟨g,j,none⟩:=fun j=>World.cell?_of_block (a:=⟨g,j,none⟩) (hrdb.1.block g hgB)
   rw [← hc] at hq0 hq1 hq2 hq3;have HK:=hid (show Key w.heap.size wr k1 n1 c1 op.key∧Key w.heap.size wr k2 n2 c2 op.val from ⟨hk1.below hrdb.1,hk2.below hrdb.1⟩);have HOP:=hid hop;have HBR:=hid hrdb;clear hk1 hk2 hc hop hrdb;go_upto_region 9 with fail
   generalize hW:World.alloc _ (Obj.cells #[Value.slice none 0 0,Value.slice none 0 0,Value.int IntKind.i64 0,Value.bool false] 71)=W;have hW0:W.heap.size=wr.heap.size+2:=by rw [← hW];simp
   have hWb:Below wr.heap.size wr W:=by rw [← hW];exact ((Below.refl _ wr).alloc (Nat.le_refl _) _).alloc (by simp) _
   have hWp:Blk W wr.heap.size #[.int .i64 op.kind,.slice k1 n1 c1,.slice k2 n2 c2,.int .i64 op.n] 43:=by rw [← hW];exact (Blk.new wr _ _).alloc _
   have hWa:Blk W (wr.heap.size+1) zA 71:=by
    rw [← hW];have:=Blk.new (wr.alloc (.cells #[.int .i64 op.kind,.slice k1 n1 c1,.slice k2 n2 c2,.int .i64 op.n] 43)) #[Value.slice none 0 0,Value.slice none 0 0,Value.int IntKind.i64 0,Value.bool false] 71;simpa [zA] using this
   have hrdW:∃ C,RD w4.heap.size W r C T:=by
    obtain ⟨_,_,C,_,_,_,q,_⟩:=hst.out;exact ⟨C,q.below (hWb.mono HBR.out.2)⟩
   clear hW;obtain ⟨CW,hrdW⟩:=hrdW;have hbw4:=HB4.out.size;have hkw1:Key w4.heap.size W k1 n1 c1 op.key:=⟨(HK.out.1.below (hWb.mono HBR.out.1.size)).sl,fun g p e h=>Nat.lt_of_lt_of_le (HK.out.1.low g p e h) hbw4⟩;have hkw2:Key w4.heap.size W k2 n2 c2 op.val:=⟨(HK.out.2.below (hWb.mono HBR.out.1.size)).sl,fun g p e h=>Nat.lt_of_lt_of_le (HK.out.2.low g p e h) hbw4⟩;have hszo:=HSZ.out op (List.mem_of_getElem? HOP.out)
   have hn1:op.key.length=n1:=hkw1.sl.len;have hn2:op.val.length=n2:=hkw2.sl.len;rw [hn1,hn2] at hszo;have hpa:wr.heap.size≠wr.heap.size+1:=by omega
   have p0:=hWp.cell (k:=0) rfl;have p1:=hWp.cell (k:=1) rfl;have p2:=hWp.cell (k:=2) rfl;have p3:=hWp.cell (k:=3) rfl;have a0:W.cell? ⟨wr.heap.size+1,0,none⟩=some (.slice none 0 0):=hWa.cell (k:=0) rfl;have a3:W.cell? ⟨wr.heap.size+1,3,none⟩=some (.bool false):=hWa.cell (k:=3) rfl;have HW:=hid (show Below wr.heap.size wr W∧Blk W wr.heap.size #[.int .i64 op.kind,.slice k1 n1 c1,.slice k2 n2 c2,.int .i64 op.n] 43∧Blk W (wr.heap.size+1) zA 71∧RD w4.heap.size W r CW T∧Key w4.heap.size W k1 n1 c1 op.key∧Key w4.heap.size W k2 n2 c2 op.val∧wr.heap.size≤wr.heap.size+1∧op.key.length=n1∧op.val.length=n2∧n1≤2147483647∧n2≤2147483647∧W.heap.size=wr.heap.size+2 from ⟨hWb,hWp,hWa,hrdW,hkw1,hkw2,by omega,hn1,hn2,hszo.1,hszo.2,hW0⟩)
   clear hWb hWp hWa hrdW hkw1 hkw2 hn1 hn2 hszo hW0 hbw4 hq0 hq1 hq2 hq3;generalize hab:wr.heap.size+1=ab at *;generalize hpb:wr.heap.size=pb at *;clear hab;have HPB:=hid hpb;clear hpb;go_upto_block 2 with fail
   go_cut [] (fun wx=>AnsNew T.l op ab wr wx)
   case first =>
    by_cases hk2:op.kind=2
    ·obtain ⟨x1,x2,x3,x4,x5,x6,x7,x8,x9,x10,x11,x12⟩:=HW.out;have hget:=pget_any x4 x5 (by omega);clear x1 x2 x3 x4 x5 x6 x7 x8 x9 x10 x11 x12;have hb2:(op.kind == 2)=true:=by rw [beq_iff_eq];exact hk2
     have HKK:=hid hk2;clear hk2;go_wp2_with fail
     refine hget.mono ?_;rintro e w7 ⟨rv,err,rfl,hb7,hc⟩;clear hget;obtain ⟨x1,x2,x3,x4,x5,x6,x7,x8,x9,x10,x11,x12⟩:=HW.out;have hBa:Blk w7 ab zA 71:=(hb7.block _ x3.lt).trans x3;have hBp:Blk w7 pb #[.int .i64 op.kind,.slice k1 n1 c1,.slice k2 n2 c2,.int .i64 op.n] 43:=(hb7.block _ x2.lt).trans x2;have a3:w7.cell? ⟨ab,3,none⟩=some (.bool false):=hBa.cell (k:=3) rfl;have a0:w7.cell? ⟨ab,0,none⟩=some (.slice none 0 0):=hBa.cell (k:=0) rfl
     have f3:=hBa.free 3;have p1:w7.cell? ⟨pb,1,none⟩=some (.slice k1 n1 c1):=hBp.cell (k:=1) rfl;have hbl7:Below wr.heap.size wr w7:=by rw [HPB.out];exact x1.trans (hb7.mono (by omega))
     have hge:wr.heap.size≤ab:=by rw [HPB.out];exact x7
     rcases hc with ⟨ev,g1,g2,rfl,va,vn,vc,rfl,hsv⟩ | ⟨s,rfl,g1⟩
     ·obtain ⟨w8,hw8⟩:∃ w8,w8=w7.setCell ⟨ab,3,none⟩ (.bool true):=⟨_,rfl⟩;have hsv8:Sl w8 va vn vc ev.2:=by rw [hw8];exact sl_set hsv hBa
      have hb48:Below w4.heap.size W w8:=by
       have h1:Below w4.heap.size W w7:=hb7.mono (by have:=HBR.out.2;have:=HPB.out;omega);rw [hw8];exact h1.setCell (p:=⟨ab,3,none⟩) (by have:=HBR.out.2;have:=HPB.out;show _≤ab;omega) _
      have hc1:=copied_any w8 k1 n1 c1 op.key (x5.below hb48).sl (by omega);have hvn:vn=ev.2.length:=hsv.len.symm;have hkn:n1=ev.1.length:=by rw [g2];exact x8.symm
      have hev:=tot_mem (List.mem_of_getElem? g1);have hvl:ev.2.length≤4294967295:=by have:=HOK.out.tot;unfold kvs at hev;omega
      subst hvn;have HW8:=hid hw8;have HX:=hid (show Blk w7 ab zA 71∧wr.heap.size≤ab∧Below wr.heap.size wr w7∧Sl w8 va ev.2.length vc ev.2∧T.l[sidx T.l op.key]?=some ev∧ev.1=op.key∧n1=ev.1.length∧ev.2.length≤4294967295 from ⟨hBa,hge,hbl7,hsv8,g1,g2,hkn,hvl⟩);clear hBa hBp hbl7 hge hb7 g1 g2 x1 x2 x3 x4 x5 x6 x7 x8 x9 x10 x11 x12 hw8 hsv hsv8 hb48 hev hvl hkn;go_wp2_with fail
      rw [← HW8.out];refine hc1.mono ?_;rintro e w9 ⟨b1,d1,rfl,ho1,hbk1,hb89⟩;clear hc1;have hc2:=copied_any w9 va ev.2.length vc ev.2 (HX.out.2.2.2.1.fr (S:=fun _=>False) (Fr.of_below hb89) (fun _ _ h=>h)) HX.out.2.2.2.2.2.2.2;have hB9:Blk w9 ab #[.slice none 0 0,.slice none 0 0,.int .i64 0,.bool true] 71:=by
       have h8:Blk w8 ab #[.slice none 0 0,.slice none 0 0,.int .i64 0,.bool true] 71:=by rw [HW8.out];have:=HX.out.1.set 3 (.bool true);simpa [zA] using this
       exact (hb89.block ab h8.lt).trans h8
      have a09:w9.cell? ⟨ab,0,none⟩=some (.slice none 0 0):=hB9.cell (k:=0) rfl;have f09:=hB9.free 0;have hl9:=hB9.lt;clear hB9;have HC1:=hid (show w9.ownsRow 0 5 1 (.slice b1 n1 d1) n1 (bv op.key)∧(∀ k,(Value.slice b1 n1 d1).ownBlock=some k→w8.heap.size≤k)∧Below w8.heap.size w8 w9 from ⟨ho1,hbk1,hb89⟩);clear ho1 hbk1 hb89;try dsimp only
      go_wp2_with fail
      refine hc2.mono ?_;rintro e w10 ⟨b2,d2,rfl,ho2,hbk2,hb910⟩;clear hc2;have a0:w10.cell? ⟨ab,0,none⟩=some (.slice none 0 0):=(World.cell?_of_block (a:=⟨ab,0,none⟩) (hb910.block ab hl9)).trans a09;have f0:w10.frozen? ⟨ab,0,none⟩=false:=(World.frozen?_of_block (a:=⟨ab,0,none⟩) (hb910.block ab hl9)).trans f09;have hl10:ab < w10.heap.size:=Nat.lt_of_lt_of_le hl9 hb910.size;have HC2:=hid (show w10.ownsRow 0 5 1 (.slice b2 ev.2.length d2) ev.2.length (bv ev.2)∧(∀ k,(Value.slice b2 ev.2.length d2).ownBlock=some k→w9.heap.size≤k)∧Below w9.heap.size w9 w10 from ⟨ho2,hbk2,hb910⟩)
      clear ho2 hbk2 hb910 a09 f09 hl9;try dsimp only
      go_wp2_with fail
      go_meet
      case rel =>
       obtain ⟨y1,y2,y3,y4,y5,y6,y7,y8⟩:=HX.out;obtain ⟨z1,z2,z3⟩:=HC1.out;obtain ⟨u1,u2,u3⟩:=HC2.out;rw [y7,← y6] at z1;rw [y7] at z2;rw [y7];exact ans_pair y1 y2 y3 HW8.out (z3.trans (u3.mono z3.size)) (prv_copies z1 z2 u3 z3.size u1 u2) ⟨fun _=>.inl ⟨rfl,ev,y5,y6,rfl⟩,fun e=>by have:=HKK.out;omega,fun e=>by have:=HKK.out;omega,fun e=>by have:=HKK.out;omega,fun e=>by have:=HKK.out;omega,fun e=>by have:=HKK.out;omega⟩
     ·have HF:=hid (ans_none (l:=T.l) (o:=op) hBa hge hbl7 false ⟨fun _=>.inr ⟨rfl,g1⟩,fun e=>by have:=HKK.out;omega,fun e=>by have:=HKK.out;omega,fun e=>by have:=HKK.out;omega,fun e=>by have:=HKK.out;omega,fun e=>by have:=HKK.out;omega⟩);clear hBa hBp hbl7 hge hb7 g1 x1 x2 x3 x4 x5 x6 x7 x8 x9 x10 x11 x12;go_wp2_with fail
      go_meet
      case rel=>exact HF.out
    by_cases hk3:op.kind=3
    ·obtain ⟨x1,x2,x3,x4,x5,x6,x7,x8,x9,x10,x11,x12⟩:=HW.out;have hget:=pfind_any x4 x5 (by omega) (op.n == 1);clear x1 x2 x3 x4 x5 x6 x7 x8 x9 x10 x11 x12;have hb2:(op.kind == 2)=false:=by rw [beq_eq_false_iff_ne];omega
     have hb3:(op.kind == 3)=true:=by rw [beq_iff_eq];exact hk3
     have HKK:=hid hk3;clear hk3 hk2;go_wp2_with fail
     refine hget.mono ?_;rintro e w7 ⟨rk,rv,err,rfl,hb7,hc⟩;clear hget;obtain ⟨x1,x2,x3,x4,x5,x6,x7,x8,x9,x10,x11,x12⟩:=HW.out;have hBa:Blk w7 ab zA 71:=(hb7.block _ x3.lt).trans x3;have hBp:Blk w7 pb #[.int .i64 op.kind,.slice k1 n1 c1,.slice k2 n2 c2,.int .i64 op.n] 43:=(hb7.block _ x2.lt).trans x2;have a3:w7.cell? ⟨ab,3,none⟩=some (.bool false):=hBa.cell (k:=3) rfl;have a0:w7.cell? ⟨ab,0,none⟩=some (.slice none 0 0):=hBa.cell (k:=0) rfl
     have f3:=hBa.free 3;have p1:w7.cell? ⟨pb,1,none⟩=some (.slice k1 n1 c1):=hBp.cell (k:=1) rfl;have hbl7:Below wr.heap.size wr w7:=by rw [HPB.out];exact x1.trans (hb7.mono (by omega))
     have hge:wr.heap.size≤ab:=by rw [HPB.out];exact x7
     rcases hc with ⟨ev,g1,rfl,⟨ua,un,uc,rfl,hsu⟩,hv⟩ | ⟨s,rfl,g1⟩
     ·obtain ⟨va,vn,vc,rfl,hsv⟩:=hv rfl;obtain ⟨w8,hw8⟩:∃ w8,w8=w7.setCell ⟨ab,3,none⟩ (.bool true):=⟨_,rfl⟩;have hsv8:Sl w8 va vn vc ev.2:=by rw [hw8];exact sl_set hsv hBa
      have hsu8:Sl w8 ua un uc ev.1:=by rw [hw8];exact sl_set hsu hBa
      have hkn:un=ev.1.length:=hsu.len.symm;subst hkn;have hvn:vn=ev.2.length:=hsv.len.symm;have hev:=tot_mem (List.mem_of_getElem? g1);have hvl:ev.2.length≤4294967295:=by have:=HOK.out.tot;unfold kvs at hev;omega
      have hul:ev.1.length≤4294967295:=by have:=HOK.out.tot;unfold kvs at hev;omega
      have hc1:=copied_any w8 ua ev.1.length uc ev.1 hsu8 hul;subst hvn;have HW8:=hid hw8;have HX:=hid (show Blk w7 ab zA 71∧wr.heap.size≤ab∧Below wr.heap.size wr w7∧Sl w8 va ev.2.length vc ev.2∧T.l[sidx T.l op.key]?=some ev∧ev.2.length≤4294967295 from ⟨hBa,hge,hbl7,hsv8,g1,hvl⟩);clear hBa hBp hbl7 hge hb7 g1 x1 x2 x3 x4 x5 x6 x7 x8 x9 x10 x11 x12 hw8 hsv hsv8 hev hvl hul hsu hsu8 hv;go_wp2_with fail
      rw [← HW8.out];refine hc1.mono ?_;rintro e w9 ⟨b1,d1,rfl,ho1,hbk1,hb89⟩;clear hc1;have hc2:=copied_any w9 va ev.2.length vc ev.2 (HX.out.2.2.2.1.fr (S:=fun _=>False) (Fr.of_below hb89) (fun _ _ h=>h)) HX.out.2.2.2.2.2;have hB9:Blk w9 ab #[.slice none 0 0,.slice none 0 0,.int .i64 0,.bool true] 71:=by
       have h8:Blk w8 ab #[.slice none 0 0,.slice none 0 0,.int .i64 0,.bool true] 71:=by rw [HW8.out];have:=HX.out.1.set 3 (.bool true);simpa [zA] using this
       exact (hb89.block ab h8.lt).trans h8
      have a09:w9.cell? ⟨ab,0,none⟩=some (.slice none 0 0):=hB9.cell (k:=0) rfl;have f09:=hB9.free 0;have hl9:=hB9.lt;clear hB9;have HC1:=hid (show w9.ownsRow 0 5 1 (.slice b1 ev.1.length d1) ev.1.length (bv ev.1)∧(∀ k,(Value.slice b1 ev.1.length d1).ownBlock=some k→w8.heap.size≤k)∧Below w8.heap.size w8 w9 from ⟨ho1,hbk1,hb89⟩);clear ho1 hbk1 hb89;try dsimp only
      go_wp2_with fail
      refine hc2.mono ?_;rintro e w10 ⟨b2,d2,rfl,ho2,hbk2,hb910⟩;clear hc2;have a0:w10.cell? ⟨ab,0,none⟩=some (.slice none 0 0):=(World.cell?_of_block (a:=⟨ab,0,none⟩) (hb910.block ab hl9)).trans a09;have f0:w10.frozen? ⟨ab,0,none⟩=false:=(World.frozen?_of_block (a:=⟨ab,0,none⟩) (hb910.block ab hl9)).trans f09;have hl10:ab < w10.heap.size:=Nat.lt_of_lt_of_le hl9 hb910.size;have HC2:=hid (show w10.ownsRow 0 5 1 (.slice b2 ev.2.length d2) ev.2.length (bv ev.2)∧(∀ k,(Value.slice b2 ev.2.length d2).ownBlock=some k→w9.heap.size≤k)∧Below w9.heap.size w9 w10 from ⟨ho2,hbk2,hb910⟩)
      clear ho2 hbk2 hb910 a09 f09 hl9;try dsimp only
      go_wp2_with fail
      go_meet
      case rel =>
       obtain ⟨y1,y2,y3,y4,y5,y8⟩:=HX.out;obtain ⟨z1,z2,z3⟩:=HC1.out;obtain ⟨u1,u2,u3⟩:=HC2.out;exact ans_pair y1 y2 y3 HW8.out (z3.trans (u3.mono z3.size)) (prv_copies z1 z2 u3 z3.size u1 u2) ⟨fun e=>by have:=HKK.out;omega,fun _=>.inl ⟨rfl,ev,y5,rfl⟩,fun e=>by have:=HKK.out;omega,fun e=>by have:=HKK.out;omega,fun e=>by have:=HKK.out;omega,fun e=>by have:=HKK.out;omega⟩
     ·have HF:=hid (ans_none (l:=T.l) (o:=op) hBa hge hbl7 false ⟨fun e=>by have:=HKK.out;omega,fun _=>.inr ⟨rfl,g1.imp id (fun h=>⟨by simpa using h.1,h.2⟩)⟩,fun e=>by have:=HKK.out;omega,fun e=>by have:=HKK.out;omega,fun e=>by have:=HKK.out;omega,fun e=>by have:=HKK.out;omega⟩);clear hBa hBp hbl7 hge hb7 g1 x1 x2 x3 x4 x5 x6 x7 x8 x9 x10 x11 x12;go_wp2_with fail
      go_meet
      case rel=>exact HF.out
    by_cases hk4:op.kind=4
    ·obtain ⟨x1,x2,x3,x4,x5,x6,x7,x8,x9,x10,x11,x12⟩:=HW.out;have hget:=pfindKey_any x4 x5 (by omega) (op.n == 1);clear x1 x2 x3 x4 x5 x6 x7 x8 x9 x10 x11 x12;have hb2:(op.kind == 2)=false:=by rw [beq_eq_false_iff_ne];omega
     have hb3:(op.kind == 3)=false:=by rw [beq_eq_false_iff_ne];omega
     have hb4:(op.kind == 4)=true:=by rw [beq_iff_eq];exact hk4
     have HKK:=hid hk4;clear hk4 hk3 hk2;go_wp2_with fail
     refine hget.mono ?_;rintro e w7 ⟨rk,err,rfl,hb7,hc⟩;clear hget;obtain ⟨x1,x2,x3,x4,x5,x6,x7,x8,x9,x10,x11,x12⟩:=HW.out;have hBa:Blk w7 ab zA 71:=(hb7.block _ x3.lt).trans x3;have hBp:Blk w7 pb #[.int .i64 op.kind,.slice k1 n1 c1,.slice k2 n2 c2,.int .i64 op.n] 43:=(hb7.block _ x2.lt).trans x2;have a3:w7.cell? ⟨ab,3,none⟩=some (.bool false):=hBa.cell (k:=3) rfl;have a0:w7.cell? ⟨ab,0,none⟩=some (.slice none 0 0):=hBa.cell (k:=0) rfl
     have f3:=hBa.free 3;have p1:w7.cell? ⟨pb,1,none⟩=some (.slice k1 n1 c1):=hBp.cell (k:=1) rfl;have hbl7:Below wr.heap.size wr w7:=by rw [HPB.out];exact x1.trans (hb7.mono (by omega))
     have hge:wr.heap.size≤ab:=by rw [HPB.out];exact x7
     rcases hc with ⟨ev,g1,rfl,⟨ua,un,uc,rfl,hsu⟩⟩ | ⟨s,rfl,g1⟩
     ·obtain ⟨w8,hw8⟩:∃ w8,w8=w7.setCell ⟨ab,3,none⟩ (.bool true):=⟨_,rfl⟩;have hsu8:Sl w8 ua un uc ev.1:=by rw [hw8];exact sl_set hsu hBa
      have hkn:un=ev.1.length:=hsu.len.symm;subst hkn;have hev:=tot_mem (List.mem_of_getElem? g1);have hul:ev.1.length≤4294967295:=by have:=HOK.out.tot;unfold kvs at hev;omega
      have hc1:=copied_any w8 ua ev.1.length uc ev.1 hsu8 hul;have HW8:=hid hw8;have HX:=hid (show Blk w7 ab zA 71∧wr.heap.size≤ab∧Below wr.heap.size wr w7 from ⟨hBa,hge,hbl7⟩);clear hBa hBp hbl7 hge hb7 g1 x1 x2 x3 x4 x5 x6 x7 x8 x9 x10 x11 x12 hw8 hev hul hsu hsu8;go_wp2_with fail
      rw [← HW8.out];refine hc1.mono ?_;rintro e w9 ⟨b1,d1,rfl,ho1,hbk1,hb89⟩;clear hc1;have hB9:Blk w9 ab #[.slice none 0 0,.slice none 0 0,.int .i64 0,.bool true] 71:=by
       have h8:Blk w8 ab #[.slice none 0 0,.slice none 0 0,.int .i64 0,.bool true] 71:=by rw [HW8.out];have:=HX.out.1.set 3 (.bool true);simpa [zA] using this
       exact (hb89.block ab h8.lt).trans h8
      have a09:w9.cell? ⟨ab,0,none⟩=some (.slice none 0 0):=hB9.cell (k:=0) rfl;have f09:=hB9.free 0;have hl9:=hB9.lt;clear hB9;have HC1:=hid (show w9.ownsRow 0 5 1 (.slice b1 ev.1.length d1) ev.1.length (bv ev.1)∧(∀ k,(Value.slice b1 ev.1.length d1).ownBlock=some k→w8.heap.size≤k)∧Below w8.heap.size w8 w9 from ⟨ho1,hbk1,hb89⟩);clear ho1 hbk1 hb89;try dsimp only
      go_wp2_with fail
      go_meet
      case rel =>
       obtain ⟨y1,y2,y3⟩:=HX.out;obtain ⟨z1,z2,z3⟩:=HC1.out;exact ans_pair (ev:=(ev.1,[])) y1 y2 y3 HW8.out z3 (prv_copies (w8:=w9) (a2:=none) (c2:=0) (ev:=(ev.1,[])) z1 z2 (Below.refl _ _) z3.size (World.ownsRow_nil w9 0 5 1) (fun k e=>(nomatch e))) (ansOk_none ⟨by have:=HKK.out;omega,by have:=HKK.out;omega,by have:=HKK.out;omega,by have:=HKK.out;omega,by have:=HKK.out;omega,by have:=HKK.out;omega⟩)
     ·have HF:=hid (ans_none (l:=T.l) (o:=op) hBa hge hbl7 false (ansOk_none ⟨by have:=HKK.out;omega,by have:=HKK.out;omega,by have:=HKK.out;omega,by have:=HKK.out;omega,by have:=HKK.out;omega,by have:=HKK.out;omega⟩));clear hBa hBp hbl7 hge hb7 g1 x1 x2 x3 x4 x5 x6 x7 x8 x9 x10 x11 x12;go_wp2_with fail
      go_meet
      case rel=>exact HF.out
    by_cases hk7:op.kind=7
    ·obtain ⟨x1,x2,x3,x4,hkA,hkB,x7,x8,x9,x10,hl2,x12⟩:=HW.out;have hb2:(op.kind == 2)=false:=by rw [beq_eq_false_iff_ne];omega
     have hb3:(op.kind == 3)=false:=by rw [beq_eq_false_iff_ne];omega
     have hb4:(op.kind == 4)=false:=by rw [beq_eq_false_iff_ne];omega
     have hb7:(op.kind == 7)=true:=by rw [beq_iff_eq];exact hk7
     have HKK:=hid hk7;clear hk7 hk4 hk3 hk2;have hsl:=slice_none (W.drewN 1) op.kind (.slice k1 n1 c1) (.slice k2 n2 c2) op.n (by rw [HKK.out];decide);have hs4:w4.heap.size≤W.heap.size:=by have:=HBR.out.2;have:=HPB.out;omega
     have hcl:∀ wb:World,Below W.heap.size W wb→(fun Wx:World=>Wx.cell? ⟨pb,0,none⟩=some (.int .i64 op.kind)∧Wx.cell? ⟨pb,1,none⟩=some (.slice k1 n1 c1)∧Wx.cell? ⟨pb,2,none⟩=some (.slice k2 n2 c2)∧Wx.cell? ⟨pb,3,none⟩=some (.int .i64 op.n)) wb:=fun wb hb=>by
      have hc:∀ j,wb.cell? ⟨pb,j,none⟩=W.cell? ⟨pb,j,none⟩:=fun j=>World.cell?_of_block (a:=⟨pb,j,none⟩) (hb.block pb x2.lt)
      exact ⟨(hc 0).trans p0,(hc 1).trans p1,(hc 2).trans p2,(hc 3).trans p3⟩
     go_upto_region 29 with fail
     refine Pos.start (fun Wx:World=>Wx.cell? ⟨pb,0,none⟩=some (.int .i64 op.kind)∧Wx.cell? ⟨pb,1,none⟩=some (.slice k1 n1 c1)∧Wx.cell? ⟨pb,2,none⟩=some (.slice k2 n2 c2)∧Wx.cell? ⟨pb,3,none⟩=some (.int .i64 op.n)) 6 (by kernel_rfl) ?_;have hS:(fun Wx:World=>Wx.cell? ⟨pb,0,none⟩=some (.int .i64 op.kind)∧Wx.cell? ⟨pb,1,none⟩=some (.slice k1 n1 c1)∧Wx.cell? ⟨pb,2,none⟩=some (.slice k2 n2 c2)∧Wx.cell? ⟨pb,3,none⟩=some (.int .i64 op.n)) (W.drewN 1):=⟨p0,p1,p2,p3⟩
     refine Pos.toG 7 #[false,false,false,false,false,false,false] rfl (by kernel_rfl) ?_;refine' PosG.takeK (k:=0) hS rfl (by kernel_rfl) (fun _ _ _ h=>h) (by rfl) ?_ ?_;rotate_left
     ·intro W hW;obtain ⟨s1,s2,s3,s4⟩:=hW;go_simp;try with_reducible rfl
     intro K hK;go_simp;refine hK _ ?_;clear hK K;refine' PosG.takeK (k:=1) hS rfl (by kernel_rfl) (fun _ _ _ h=>h) (by rfl) ?_ ?_;rotate_left
     ·intro W hW;obtain ⟨s1,s2,s3,s4⟩:=hW;go_simp;try with_reducible rfl
     intro K hK;go_simp;refine hK _ ?_;clear hK K;refine' PosG.takeK (k:=4) hS rfl (by kernel_rfl) (fun _ _ _ h=>h) (by rfl) ?_ ?_;rotate_left
     ·intro W hW;obtain ⟨s1,s2,s3,s4⟩:=hW;go_simp;try with_reducible rfl
     intro K hK;go_simp;refine hK _ ?_;clear hK K;clear hS;have HKY:=hid (show Key w4.heap.size W k1 n1 c1 op.key∧Key w4.heap.size W k2 n2 c2 op.val∧RD w4.heap.size W r CW T∧Blk W ab zA 71∧pb≤ab∧Below pb wr W∧w4.heap.size≤W.heap.size∧n2≤2147483647∧op.val.length=n2∧pb < W.heap.size from ⟨hkA,hkB,x4,x3,x7,x1,hs4,hl2,x9,x2.lt⟩);have HCL:=hid hcl;clear x1 x2 x3 x4 hkA hkB x7 x8 x9 x10 hl2 x12 hs4 hcl p0 p1 p2 p3 a0 a3
     refine PosG.eff (k:=2) rfl (by kernel_rfl) ?_;go_wp2_with fail
     refine hsl.mono ?_;rintro e w5 ⟨rfl,hb5⟩;obtain ⟨hkA,hkB,hrdW,_,_,_,hs4,hl2,_⟩:=HKY.out;have hb5':Below W.heap.size W w5:=(Below.drewN' _ W 1).trans hb5;have hs5:=hb5'.size;have hrd5:RD w4.heap.size w5 r CW T:=hrdW.below (hb5'.mono hs4);have hnw:=newWhole_any hrd5;have hS5:=HCL.out w5 hb5';have HB5:=hid hb5';clear hsl hkA hkB hrdW hl2 hb5 hrd5;try dsimp only
     go_wp2_with fail
     refine ⟨hS5,?_⟩;clear hS5;refine PosG.eff (k:=3) rfl (by kernel_rfl) ?_;go_wp2_with fail
     refine hnw.mono ?_;rintro e w6 ⟨P,rfl,hPb,hPT,hPR,_,_,_,hg,hII,hb56⟩;have hv:vis P=T.l:=by rw [whole_vis hPR (by rw [hPT];exact HOK.out),hPT]
     have hvb:(∀ e∈vis P,e.1.length≤4294967295∧e.2.length≤4294967295)∧(vis P).length≤2147483647:=by rw [hv];exact HOK.out.kvb
     have hbW6:Below W.heap.size W w6:=HB5.out.trans (hb56.mono hs5);obtain ⟨hkA,hkB,hrdW,_,_,_,hs4,hl2,_⟩:=HKY.out;have hit:=iterFwd_any hg hII op.kind (.inl HKK.out) (.slice k1 n1 c1) (.slice k2 n2 c2) op.n hvb.1 hvb.2;rw [hPb] at hit;have hS6:=HCL.out w6 hbW6;have HB6:=hid hbW6;have HV:=hid hv;have HPT:=hid hPT;clear hnw hb56 hbW6 hkA hkB hrdW hl2 hvb hPR hg hII hb5' hs4 hv hPT hPb;try dsimp only
     go_wp2_with fail
     refine ⟨hS6,?_⟩;clear hS6;refine PosG.eff (k:=5) rfl (by kernel_rfl) ?_;go_wp2_with fail
     refine hit.mono ?_;rintro e w8 ⟨pv,rs,S,rfl,hp,hSS,hb68⟩;clear hit;rw [HV.out] at hp;obtain ⟨pa,pc,hpv,_⟩:=own_form hp.own;obtain ⟨LN,hLN⟩:∃ LN,T.l.length=LN:=⟨_,rfl⟩;rw [hLN] at hpv;clear hLN;subst hpv;have HA:Hid (Blk w8 ab zA 71∧wr.heap.size≤ab∧Below wr.heap.size wr w8∧ARow (fun k=>wr.heap.size≤k∧k < w8.heap.size∧k≠ab) w8 ((.slice pa LN pc),(.slice none 0 0)) ⟨T.l,[],0,true⟩∧(fun Wx:World=>Wx.cell? ⟨pb,0,none⟩=some (.int .i64 op.kind)∧Wx.cell? ⟨pb,1,none⟩=some (.slice k1 n1 c1)∧Wx.cell? ⟨pb,2,none⟩=some (.slice k2 n2 c2)∧Wx.cell? ⟨pb,3,none⟩=some (.int .i64 op.n)) w8):=hid (by
      obtain ⟨_,_,_,y4,y5,y6,y7,y8,y9,y10⟩:=HKY.out;have hb58:Below W.heap.size W w8:=HB6.out.trans (hb68.mono hs5);have hsz:∀ k,w5.heap.size≤k∧k < w8.heap.size→wr.heap.size≤k∧k < w8.heap.size∧k≠ab:=fun k hk=>by
       have h1:=y4.lt;have h2:=HPB.out;omega
      have hWs:=y6.size;refine ⟨(hb58.block ab y4.lt).trans y4,by rw [HPB.out];exact y5,?_,?_,HCL.out w8 hb58⟩
      ·rw [HPB.out];exact y6.trans (hb58.mono (by omega))
      ·exact ⟨rs,hp.keep (fun _ _=>rfl) (fun k hk=>hsz k (hSS k hk)),World.ownsRow_nil w8 0 4 1,fun g e=>(nomatch e)⟩)
     have hBa:=HA.out.1;have a0:w8.cell? ⟨ab,0,none⟩=some (.slice none 0 0):=hBa.cell (k:=0) rfl;have a1:w8.cell? ⟨ab,1,none⟩=some (.slice none 0 0):=hBa.cell (k:=1) rfl;have a2:w8.cell? ⟨ab,2,none⟩=some (.int .i64 0):=hBa.cell (k:=2) rfl;have a3:w8.cell? ⟨ab,3,none⟩=some (.bool false):=hBa.cell (k:=3) rfl;have f0:=hBa.free 0;have f1:=hBa.free 1;have f2:=hBa.free 2;have f3:=hBa.free 3;clear hp hSS hb68 hBa
     try dsimp only
     go_wp2_with fail
     refine ⟨HA.out.2.2.2.2,?_⟩;refine PosG.tail rfl (by kernel_rfl) (by kernel_rfl) (by decide) ?_;simp only [List.drop_succ_cons,List.drop_zero];go_wp2_with fail
     go_meet
     case rel =>
      obtain ⟨z1,z2,z3,z4,_⟩:=HA.out;have y9:=HKY.out.2.2.2.2.2.2.2.2.1;exact ans_agg z1 z2 z3 z4 ⟨fun e=>by have:=HKK.out;omega,fun e=>by have:=HKK.out;omega,fun _=>rfl,fun e=>by have:=HKK.out;omega,fun e=>by have:=HKK.out;omega,fun e=>by have:=HKK.out;omega⟩
    by_cases hk8:op.kind=8
    ·obtain ⟨x1,x2,x3,x4,hkA,hkB,x7,x8,x9,x10,hl2,x12⟩:=HW.out;have hb2:(op.kind == 2)=false:=by rw [beq_eq_false_iff_ne];omega
     have hb3:(op.kind == 3)=false:=by rw [beq_eq_false_iff_ne];omega
     have hb4:(op.kind == 4)=false:=by rw [beq_eq_false_iff_ne];omega
     have hb7:(op.kind == 7)=false:=by rw [beq_eq_false_iff_ne];omega
     have hb8:(op.kind == 8)=true:=by rw [beq_iff_eq];exact hk8
     have HKK:=hid hk8;clear hk8 hk7 hk4 hk3 hk2;have hsl:=slice_none (W.drewN 1) op.kind (.slice k1 n1 c1) (.slice k2 n2 c2) op.n (by rw [HKK.out];decide);have hs4:w4.heap.size≤W.heap.size:=by have:=HBR.out.2;have:=HPB.out;omega
     have hcl:∀ wb:World,Below W.heap.size W wb→(fun Wx:World=>Wx.cell? ⟨pb,0,none⟩=some (.int .i64 op.kind)∧Wx.cell? ⟨pb,1,none⟩=some (.slice k1 n1 c1)∧Wx.cell? ⟨pb,2,none⟩=some (.slice k2 n2 c2)∧Wx.cell? ⟨pb,3,none⟩=some (.int .i64 op.n)) wb:=fun wb hb=>by
      have hc:∀ j,wb.cell? ⟨pb,j,none⟩=W.cell? ⟨pb,j,none⟩:=fun j=>World.cell?_of_block (a:=⟨pb,j,none⟩) (hb.block pb x2.lt)
      exact ⟨(hc 0).trans p0,(hc 1).trans p1,(hc 2).trans p2,(hc 3).trans p3⟩
     go_upto_region 29 with fail
     refine Pos.start (fun Wx:World=>Wx.cell? ⟨pb,0,none⟩=some (.int .i64 op.kind)∧Wx.cell? ⟨pb,1,none⟩=some (.slice k1 n1 c1)∧Wx.cell? ⟨pb,2,none⟩=some (.slice k2 n2 c2)∧Wx.cell? ⟨pb,3,none⟩=some (.int .i64 op.n)) 6 (by kernel_rfl) ?_;have hS:(fun Wx:World=>Wx.cell? ⟨pb,0,none⟩=some (.int .i64 op.kind)∧Wx.cell? ⟨pb,1,none⟩=some (.slice k1 n1 c1)∧Wx.cell? ⟨pb,2,none⟩=some (.slice k2 n2 c2)∧Wx.cell? ⟨pb,3,none⟩=some (.int .i64 op.n)) (W.drewN 1):=⟨p0,p1,p2,p3⟩
     refine Pos.toG 7 #[false,false,false,false,false,false,false] rfl (by kernel_rfl) ?_;refine' PosG.takeK (k:=0) hS rfl (by kernel_rfl) (fun _ _ _ h=>h) (by rfl) ?_ ?_;rotate_left
     ·intro W hW;obtain ⟨s1,s2,s3,s4⟩:=hW;go_simp;try with_reducible rfl
     intro K hK;go_simp;refine hK _ ?_;clear hK K;refine' PosG.takeK (k:=1) hS rfl (by kernel_rfl) (fun _ _ _ h=>h) (by rfl) ?_ ?_;rotate_left
     ·intro W hW;obtain ⟨s1,s2,s3,s4⟩:=hW;go_simp;try with_reducible rfl
     intro K hK;go_simp;refine hK _ ?_;clear hK K;refine' PosG.takeK (k:=4) hS rfl (by kernel_rfl) (fun _ _ _ h=>h) (by rfl) ?_ ?_;rotate_left
     ·intro W hW;obtain ⟨s1,s2,s3,s4⟩:=hW;go_simp;try with_reducible rfl
     intro K hK;go_simp;refine hK _ ?_;clear hK K;clear hS;have HKY:=hid (show Key w4.heap.size W k1 n1 c1 op.key∧Key w4.heap.size W k2 n2 c2 op.val∧RD w4.heap.size W r CW T∧Blk W ab zA 71∧pb≤ab∧Below pb wr W∧w4.heap.size≤W.heap.size∧n2≤2147483647∧op.val.length=n2∧pb < W.heap.size from ⟨hkA,hkB,x4,x3,x7,x1,hs4,hl2,x9,x2.lt⟩);have HCL:=hid hcl;clear x1 x2 x3 x4 hkA hkB x7 x8 x9 x10 hl2 x12 hs4 hcl p0 p1 p2 p3 a0 a3
     refine PosG.eff (k:=2) rfl (by kernel_rfl) ?_;go_wp2_with fail
     refine hsl.mono ?_;rintro e w5 ⟨rfl,hb5⟩;obtain ⟨hkA,hkB,hrdW,_,_,_,hs4,hl2,_⟩:=HKY.out;have hb5':Below W.heap.size W w5:=(Below.drewN' _ W 1).trans hb5;have hs5:=hb5'.size;have hrd5:RD w4.heap.size w5 r CW T:=hrdW.below (hb5'.mono hs4);have hnw:=newWhole_any hrd5;have hS5:=HCL.out w5 hb5';have HB5:=hid hb5';clear hsl hkA hkB hrdW hl2 hb5 hrd5;try dsimp only
     go_wp2_with fail
     refine ⟨hS5,?_⟩;clear hS5;refine PosG.eff (k:=3) rfl (by kernel_rfl) ?_;go_wp2_with fail
     refine hnw.mono ?_;rintro e w6 ⟨P,rfl,hPb,hPT,hPR,_,_,_,hg,hII,hb56⟩;have hv:vis P=T.l:=by rw [whole_vis hPR (by rw [hPT];exact HOK.out),hPT]
     have hvb:(∀ e∈vis P,e.1.length≤4294967295∧e.2.length≤4294967295)∧(vis P).length≤2147483647:=by rw [hv];exact HOK.out.kvb
     have hbW6:Below W.heap.size W w6:=HB5.out.trans (hb56.mono hs5);obtain ⟨hkA,hkB,hrdW,_,_,_,hs4,hl2,_⟩:=HKY.out;have hit:=(by rw [HKK.out];exact iterBwd_any hg (by unfold IP.whole;rw [hPR];rfl) hII (.slice k1 n1 c1) (.slice k2 n2 c2) op.n hvb.1 hvb.2:Calls Tryz.prog 29 #[.iface 249 (.pointer (some ⟨P.it,0,none⟩)),.agg #[.int .i64 op.kind,.slice k1 n1 c1,.slice k2 n2 c2,.int .i64 op.n]] w6 _);rw [hPb] at hit
     have hS6:=HCL.out w6 hbW6;have HB6:=hid hbW6;have HV:=hid hv;have HPT:=hid hPT;clear hnw hb56 hbW6 hkA hkB hrdW hl2 hvb hPR hg hII hb5' hs4 hv hPT hPb;try dsimp only
     go_wp2_with fail
     refine ⟨hS6,?_⟩;clear hS6;refine PosG.eff (k:=5) rfl (by kernel_rfl) ?_;go_wp2_with fail
     refine hit.mono ?_;rintro e w8 ⟨pv,rs,S,rfl,hp,hSS,hb68⟩;clear hit;rw [HV.out] at hp;obtain ⟨pa,pc,hpv,_⟩:=own_form hp.own;obtain ⟨LN,hLN⟩:∃ LN,T.l.reverse.length=LN:=⟨_,rfl⟩;rw [hLN] at hpv;clear hLN;subst hpv;have HA:Hid (Blk w8 ab zA 71∧wr.heap.size≤ab∧Below wr.heap.size wr w8∧ARow (fun k=>wr.heap.size≤k∧k < w8.heap.size∧k≠ab) w8 ((.slice pa LN pc),(.slice none 0 0)) ⟨T.l.reverse,[],0,true⟩∧(fun Wx:World=>Wx.cell? ⟨pb,0,none⟩=some (.int .i64 op.kind)∧Wx.cell? ⟨pb,1,none⟩=some (.slice k1 n1 c1)∧Wx.cell? ⟨pb,2,none⟩=some (.slice k2 n2 c2)∧Wx.cell? ⟨pb,3,none⟩=some (.int .i64 op.n)) w8):=hid (by
      obtain ⟨_,_,_,y4,y5,y6,y7,y8,y9,y10⟩:=HKY.out;have hb58:Below W.heap.size W w8:=HB6.out.trans (hb68.mono hs5);have hsz:∀ k,w5.heap.size≤k∧k < w8.heap.size→wr.heap.size≤k∧k < w8.heap.size∧k≠ab:=fun k hk=>by
       have h1:=y4.lt;have h2:=HPB.out;omega
      have hWs:=y6.size;refine ⟨(hb58.block ab y4.lt).trans y4,by rw [HPB.out];exact y5,?_,?_,HCL.out w8 hb58⟩
      ·rw [HPB.out];exact y6.trans (hb58.mono (by omega))
      ·exact ⟨rs,hp.keep (fun _ _=>rfl) (fun k hk=>hsz k (hSS k hk)),World.ownsRow_nil w8 0 4 1,fun g e=>(nomatch e)⟩)
     have hBa:=HA.out.1;have a0:w8.cell? ⟨ab,0,none⟩=some (.slice none 0 0):=hBa.cell (k:=0) rfl;have a1:w8.cell? ⟨ab,1,none⟩=some (.slice none 0 0):=hBa.cell (k:=1) rfl;have a2:w8.cell? ⟨ab,2,none⟩=some (.int .i64 0):=hBa.cell (k:=2) rfl;have a3:w8.cell? ⟨ab,3,none⟩=some (.bool false):=hBa.cell (k:=3) rfl;have f0:=hBa.free 0;have f1:=hBa.free 1;have f2:=hBa.free 2;have f3:=hBa.free 3;clear hp hSS hb68 hBa
     try dsimp only
     go_wp2_with fail
     refine ⟨HA.out.2.2.2.2,?_⟩;refine PosG.tail rfl (by kernel_rfl) (by kernel_rfl) (by decide) ?_;simp only [List.drop_succ_cons,List.drop_zero];go_wp2_with fail
     go_meet
     case rel =>
      obtain ⟨z1,z2,z3,z4,_⟩:=HA.out;have y9:=HKY.out.2.2.2.2.2.2.2.2.1;exact ans_agg z1 z2 z3 z4 ⟨fun e=>by have:=HKK.out;omega,fun e=>by have:=HKK.out;omega,fun e=>by have:=HKK.out;omega,fun _=>rfl,fun e=>by have:=HKK.out;omega,fun e=>by have:=HKK.out;omega⟩
    by_cases hk9:op.kind=9
    ·obtain ⟨x1,x2,x3,x4,hkA,hkB,x7,x8,x9,x10,hl2,x12⟩:=HW.out;have hb2:(op.kind == 2)=false:=by rw [beq_eq_false_iff_ne];omega
     have hb3:(op.kind == 3)=false:=by rw [beq_eq_false_iff_ne];omega
     have hb4:(op.kind == 4)=false:=by rw [beq_eq_false_iff_ne];omega
     have hb7:(op.kind == 7)=false:=by rw [beq_eq_false_iff_ne];omega
     have hb8:(op.kind == 8)=false:=by rw [beq_eq_false_iff_ne];omega
     have hb9:(op.kind == 9)=true:=by rw [beq_iff_eq];exact hk9
     have HKK:=hid hk9;clear hk9 hk8 hk7 hk4 hk3 hk2;have hsl:=(by rw [HKK.out];exact slice_rng (W.drewN 1) k1 k2 n1 c1 n2 c2 op.n:Calls Tryz.prog 31 #[.agg #[.int .i64 op.kind,.slice k1 n1 c1,.slice k2 n2 c2,.int .i64 op.n]] (W.drewN 1) _);have hs4:w4.heap.size≤W.heap.size:=by have:=HBR.out.2;have:=HPB.out;omega
     have hcl:∀ wb:World,Below W.heap.size W wb→(fun Wx:World=>Wx.cell? ⟨pb,0,none⟩=some (.int .i64 op.kind)∧Wx.cell? ⟨pb,1,none⟩=some (.slice k1 n1 c1)∧Wx.cell? ⟨pb,2,none⟩=some (.slice k2 n2 c2)∧Wx.cell? ⟨pb,3,none⟩=some (.int .i64 op.n)) wb:=fun wb hb=>by
      have hc:∀ j,wb.cell? ⟨pb,j,none⟩=W.cell? ⟨pb,j,none⟩:=fun j=>World.cell?_of_block (a:=⟨pb,j,none⟩) (hb.block pb x2.lt)
      exact ⟨(hc 0).trans p0,(hc 1).trans p1,(hc 2).trans p2,(hc 3).trans p3⟩
     go_upto_region 29 with fail
     refine Pos.start (fun Wx:World=>Wx.cell? ⟨pb,0,none⟩=some (.int .i64 op.kind)∧Wx.cell? ⟨pb,1,none⟩=some (.slice k1 n1 c1)∧Wx.cell? ⟨pb,2,none⟩=some (.slice k2 n2 c2)∧Wx.cell? ⟨pb,3,none⟩=some (.int .i64 op.n)) 6 (by kernel_rfl) ?_;have hS:(fun Wx:World=>Wx.cell? ⟨pb,0,none⟩=some (.int .i64 op.kind)∧Wx.cell? ⟨pb,1,none⟩=some (.slice k1 n1 c1)∧Wx.cell? ⟨pb,2,none⟩=some (.slice k2 n2 c2)∧Wx.cell? ⟨pb,3,none⟩=some (.int .i64 op.n)) (W.drewN 1):=⟨p0,p1,p2,p3⟩
     refine Pos.toG 7 #[false,false,false,false,false,false,false] rfl (by kernel_rfl) ?_;refine' PosG.takeK (k:=0) hS rfl (by kernel_rfl) (fun _ _ _ h=>h) (by rfl) ?_ ?_;rotate_left
     ·intro W hW;obtain ⟨s1,s2,s3,s4⟩:=hW;go_simp;try with_reducible rfl
     intro K hK;go_simp;refine hK _ ?_;clear hK K;refine' PosG.takeK (k:=1) hS rfl (by kernel_rfl) (fun _ _ _ h=>h) (by rfl) ?_ ?_;rotate_left
     ·intro W hW;obtain ⟨s1,s2,s3,s4⟩:=hW;go_simp;try with_reducible rfl
     intro K hK;go_simp;refine hK _ ?_;clear hK K;refine' PosG.takeK (k:=4) hS rfl (by kernel_rfl) (fun _ _ _ h=>h) (by rfl) ?_ ?_;rotate_left
     ·intro W hW;obtain ⟨s1,s2,s3,s4⟩:=hW;go_simp;try with_reducible rfl
     intro K hK;go_simp;refine hK _ ?_;clear hK K;clear hS;have HKY:=hid (show Key w4.heap.size W k1 n1 c1 op.key∧Key w4.heap.size W k2 n2 c2 op.val∧RD w4.heap.size W r CW T∧Blk W ab zA 71∧pb≤ab∧Below pb wr W∧w4.heap.size≤W.heap.size∧n2≤2147483647∧op.val.length=n2∧pb < W.heap.size from ⟨hkA,hkB,x4,x3,x7,x1,hs4,hl2,x9,x2.lt⟩);have HCL:=hid hcl;clear x1 x2 x3 x4 hkA hkB x7 x8 x9 x10 hl2 x12 hs4 hcl p0 p1 p2 p3 a0 a3
     refine PosG.eff (k:=2) rfl (by kernel_rfl) ?_;go_wp2_with fail
     refine hsl.mono ?_;rintro e w5 ⟨q,rfl,hq,hBq,hb5⟩;obtain ⟨hkA,hkB,hrdW,_,_,_,hs4,hl2,_⟩:=HKY.out;have hb5':Below W.heap.size W w5:=(Below.drewN' _ W 1).trans hb5;have hs5:=hb5'.size;have hrd5:RD w4.heap.size w5 r CW T:=hrdW.below (hb5'.mono hs4);have hnw:=newRng_any hrd5 hBq (bndAt_of (hkA.below (hb5'.mono hs4)) (by omega)) (bndAt_of (hkB.below (hb5'.mono hs4)) (by omega)) (optB_ne _);have hS5:=HCL.out w5 hb5'
     have HB5:=hid hb5';clear hsl hkA hkB hrdW hl2 hb5 hrd5;try dsimp only
     go_wp2_with fail
     refine ⟨hS5,?_⟩;clear hS5;refine PosG.eff (k:=3) rfl (by kernel_rfl) ?_;go_wp2_with fail
     refine hnw.mono ?_;rintro e w6 ⟨P,rfl,hPb,hPT,hPR,hg,hII,hb56⟩;have hv:vis P=(T.l.take (rEnd T.l (optB op.val))).drop (rLo T.l (optB op.key)):=by
      rw [key_vis' (by rw [hPT];exact HOK.out) hPR,hPT]
     have hvb:(∀ e∈vis P,e.1.length≤4294967295∧e.2.length≤4294967295)∧(vis P).length≤2147483647:=by
      rw [hv];refine ⟨fun e he=>HOK.out.kvb.1 e (List.mem_of_mem_take (List.mem_of_mem_drop he)),?_⟩;have:=HOK.out.kvb.2;rw [List.length_drop,List.length_take];omega
     have hbW6:Below W.heap.size W w6:=HB5.out.trans (hb56.mono hs5);obtain ⟨hkA,hkB,hrdW,_,_,_,hs4,hl2,_⟩:=HKY.out;have hit:=iterFwd_any hg hII op.kind (.inr HKK.out) (.slice k1 n1 c1) (.slice k2 n2 c2) op.n hvb.1 hvb.2;rw [hPb] at hit;have hS6:=HCL.out w6 hbW6;have HB6:=hid hbW6;have HV:=hid hv;have HPT:=hid hPT;clear hnw hb56 hbW6 hkA hkB hrdW hl2 hvb hPR hg hII hb5' hs4 hv hPT hPb;try dsimp only
     go_wp2_with fail
     refine ⟨hS6,?_⟩;clear hS6;refine PosG.eff (k:=5) rfl (by kernel_rfl) ?_;go_wp2_with fail
     refine hit.mono ?_;rintro e w8 ⟨pv,rs,S,rfl,hp,hSS,hb68⟩;clear hit;rw [HV.out] at hp;obtain ⟨pa,pc,hpv,_⟩:=own_form hp.own;obtain ⟨LN,hLN⟩:∃ LN,((T.l.take (rEnd T.l (optB op.val))).drop (rLo T.l (optB op.key))).length=LN:=⟨_,rfl⟩;rw [hLN] at hpv;clear hLN;subst hpv;have HA:Hid (Blk w8 ab zA 71∧wr.heap.size≤ab∧Below wr.heap.size wr w8∧ARow (fun k=>wr.heap.size≤k∧k < w8.heap.size∧k≠ab) w8 ((.slice pa LN pc),(.slice none 0 0)) ⟨((T.l.take (rEnd T.l (optB op.val))).drop (rLo T.l (optB op.key))),[],0,true⟩∧(fun Wx:World=>Wx.cell? ⟨pb,0,none⟩=some (.int .i64 op.kind)∧Wx.cell? ⟨pb,1,none⟩=some (.slice k1 n1 c1)∧Wx.cell? ⟨pb,2,none⟩=some (.slice k2 n2 c2)∧Wx.cell? ⟨pb,3,none⟩=some (.int .i64 op.n)) w8):=hid (by
      obtain ⟨_,_,_,y4,y5,y6,y7,y8,y9,y10⟩:=HKY.out;have hb58:Below W.heap.size W w8:=HB6.out.trans (hb68.mono hs5);have hsz:∀ k,w5.heap.size≤k∧k < w8.heap.size→wr.heap.size≤k∧k < w8.heap.size∧k≠ab:=fun k hk=>by
       have h1:=y4.lt;have h2:=HPB.out;omega
      have hWs:=y6.size;refine ⟨(hb58.block ab y4.lt).trans y4,by rw [HPB.out];exact y5,?_,?_,HCL.out w8 hb58⟩
      ·rw [HPB.out];exact y6.trans (hb58.mono (by omega))
      ·exact ⟨rs,hp.keep (fun _ _=>rfl) (fun k hk=>hsz k (hSS k hk)),World.ownsRow_nil w8 0 4 1,fun g e=>(nomatch e)⟩)
     have hBa:=HA.out.1;have a0:w8.cell? ⟨ab,0,none⟩=some (.slice none 0 0):=hBa.cell (k:=0) rfl;have a1:w8.cell? ⟨ab,1,none⟩=some (.slice none 0 0):=hBa.cell (k:=1) rfl;have a2:w8.cell? ⟨ab,2,none⟩=some (.int .i64 0):=hBa.cell (k:=2) rfl;have a3:w8.cell? ⟨ab,3,none⟩=some (.bool false):=hBa.cell (k:=3) rfl;have f0:=hBa.free 0;have f1:=hBa.free 1;have f2:=hBa.free 2;have f3:=hBa.free 3;clear hp hSS hb68 hBa
     try dsimp only
     go_wp2_with fail
     refine ⟨HA.out.2.2.2.2,?_⟩;refine PosG.tail rfl (by kernel_rfl) (by kernel_rfl) (by decide) ?_;simp only [List.drop_succ_cons,List.drop_zero];go_wp2_with fail
     go_meet
     case rel =>
      obtain ⟨z1,z2,z3,z4,_⟩:=HA.out;have y9:=HKY.out.2.2.2.2.2.2.2.2.1;exact ans_agg z1 z2 z3 z4 ⟨fun e=>by have:=HKK.out;omega,fun e=>by have:=HKK.out;omega,fun e=>by have:=HKK.out;omega,fun e=>by have:=HKK.out;omega,fun _=>rfl,fun e=>by have:=HKK.out;omega⟩
    by_cases hk10:op.kind=10
    ·obtain ⟨x1,x2,x3,x4,hkA,hkB,x7,x8,x9,x10,hl2,x12⟩:=HW.out;have hb2:(op.kind == 2)=false:=by rw [beq_eq_false_iff_ne];omega
     have hb3:(op.kind == 3)=false:=by rw [beq_eq_false_iff_ne];omega
     have hb4:(op.kind == 4)=false:=by rw [beq_eq_false_iff_ne];omega
     have hb7:(op.kind == 7)=false:=by rw [beq_eq_false_iff_ne];omega
     have hb8:(op.kind == 8)=false:=by rw [beq_eq_false_iff_ne];omega
     have hb9:(op.kind == 9)=false:=by rw [beq_eq_false_iff_ne];omega
     have hb10:(op.kind == 10)=true:=by rw [beq_iff_eq];exact hk10
     have HKK:=hid hk10;clear hk10 hk9 hk8 hk7 hk4 hk3 hk2;have hsl:=slice_none (W.drewN 1) op.kind (.slice k1 n1 c1) (.slice k2 n2 c2) op.n (by rw [HKK.out];decide);have hs4:w4.heap.size≤W.heap.size:=by have:=HBR.out.2;have:=HPB.out;omega
     have hcl:∀ wb:World,Below W.heap.size W wb→(fun Wx:World=>Wx.cell? ⟨pb,0,none⟩=some (.int .i64 op.kind)∧Wx.cell? ⟨pb,1,none⟩=some (.slice k1 n1 c1)∧Wx.cell? ⟨pb,2,none⟩=some (.slice k2 n2 c2)∧Wx.cell? ⟨pb,3,none⟩=some (.int .i64 op.n)) wb:=fun wb hb=>by
      have hc:∀ j,wb.cell? ⟨pb,j,none⟩=W.cell? ⟨pb,j,none⟩:=fun j=>World.cell?_of_block (a:=⟨pb,j,none⟩) (hb.block pb x2.lt)
      exact ⟨(hc 0).trans p0,(hc 1).trans p1,(hc 2).trans p2,(hc 3).trans p3⟩
     go_upto_region 29 with fail
     refine Pos.start (fun Wx:World=>Wx.cell? ⟨pb,0,none⟩=some (.int .i64 op.kind)∧Wx.cell? ⟨pb,1,none⟩=some (.slice k1 n1 c1)∧Wx.cell? ⟨pb,2,none⟩=some (.slice k2 n2 c2)∧Wx.cell? ⟨pb,3,none⟩=some (.int .i64 op.n)) 6 (by kernel_rfl) ?_;have hS:(fun Wx:World=>Wx.cell? ⟨pb,0,none⟩=some (.int .i64 op.kind)∧Wx.cell? ⟨pb,1,none⟩=some (.slice k1 n1 c1)∧Wx.cell? ⟨pb,2,none⟩=some (.slice k2 n2 c2)∧Wx.cell? ⟨pb,3,none⟩=some (.int .i64 op.n)) (W.drewN 1):=⟨p0,p1,p2,p3⟩
     refine Pos.toG 7 #[false,false,false,false,false,false,false] rfl (by kernel_rfl) ?_;refine' PosG.takeK (k:=0) hS rfl (by kernel_rfl) (fun _ _ _ h=>h) (by rfl) ?_ ?_;rotate_left
     ·intro W hW;obtain ⟨s1,s2,s3,s4⟩:=hW;go_simp;try with_reducible rfl
     intro K hK;go_simp;refine hK _ ?_;clear hK K;refine' PosG.takeK (k:=1) hS rfl (by kernel_rfl) (fun _ _ _ h=>h) (by rfl) ?_ ?_;rotate_left
     ·intro W hW;obtain ⟨s1,s2,s3,s4⟩:=hW;go_simp;try with_reducible rfl
     intro K hK;go_simp;refine hK _ ?_;clear hK K;refine' PosG.takeK (k:=4) hS rfl (by kernel_rfl) (fun _ _ _ h=>h) (by rfl) ?_ ?_;rotate_left
     ·intro W hW;obtain ⟨s1,s2,s3,s4⟩:=hW;go_simp;try with_reducible rfl
     intro K hK;go_simp;refine hK _ ?_;clear hK K;clear hS;have HKY:=hid (show Key w4.heap.size W k1 n1 c1 op.key∧Key w4.heap.size W k2 n2 c2 op.val∧RD w4.heap.size W r CW T∧Blk W ab zA 71∧pb≤ab∧Below pb wr W∧w4.heap.size≤W.heap.size∧n2≤2147483647∧op.val.length=n2∧pb < W.heap.size from ⟨hkA,hkB,x4,x3,x7,x1,hs4,hl2,x9,x2.lt⟩);have HCL:=hid hcl;clear x1 x2 x3 x4 hkA hkB x7 x8 x9 x10 hl2 x12 hs4 hcl p0 p1 p2 p3 a0 a3
     refine PosG.eff (k:=2) rfl (by kernel_rfl) ?_;go_wp2_with fail
     refine hsl.mono ?_;rintro e w5 ⟨rfl,hb5⟩;obtain ⟨hkA,hkB,hrdW,_,_,_,hs4,hl2,_⟩:=HKY.out;have hb5':Below W.heap.size W w5:=(Below.drewN' _ W 1).trans hb5;have hs5:=hb5'.size;have hrd5:RD w4.heap.size w5 r CW T:=hrdW.below (hb5'.mono hs4);have hnw:=newWhole_any hrd5;have hS5:=HCL.out w5 hb5';have HB5:=hid hb5';clear hsl hkA hkB hrdW hl2 hb5 hrd5;try dsimp only
     go_wp2_with fail
     refine ⟨hS5,?_⟩;clear hS5;refine PosG.eff (k:=3) rfl (by kernel_rfl) ?_;go_wp2_with fail
     refine hnw.mono ?_;rintro e w6 ⟨P,rfl,hPb,hPT,hPR,_,_,_,hg,hII,hb56⟩;have hv:vis P=T.l:=by rw [whole_vis hPR (by rw [hPT];exact HOK.out),hPT]
     have hvb:(∀ e∈vis P,e.1.length≤4294967295∧e.2.length≤4294967295)∧(vis P).length≤2147483647:=by rw [hv];exact HOK.out.kvb
     have hbW6:Below W.heap.size W w6:=HB5.out.trans (hb56.mono hs5);obtain ⟨hkA,hkB,hrdW,_,_,_,hs4,hl2,_⟩:=HKY.out;have hit:=(by rw [HKK.out];exact iterScript_any hg hPR hII ((hkB.below (hbW6.mono hs4)).up (by omega)) ((hkA.below (hbW6.mono hs4)).up (by omega)) op.n hvb.1 hl2:Calls Tryz.prog 29 #[.iface 249 (.pointer (some ⟨P.it,0,none⟩)),.agg #[.int .i64 op.kind,.slice k1 n1 c1,.slice k2 n2 c2,.int .i64 op.n]] w6 _)
     rw [hPb] at hit;have hS6:=HCL.out w6 hbW6;have HB6:=hid hbW6;have HV:=hid hv;have HPT:=hid hPT;clear hnw hb56 hbW6 hkA hkB hrdW hl2 hvb hPR hg hII hb5' hs4 hv hPT hPb;try dsimp only
     go_wp2_with fail
     refine ⟨hS6,?_⟩;clear hS6;refine PosG.eff (k:=5) rfl (by kernel_rfl) ?_;go_wp2_with fail
     refine hit.mono ?_;rintro e w8 ⟨pv,fv,rfl,⟨rs,S,hp,hfo,hSS⟩,hb68⟩;clear hit;rw [HPT.out,HV.out] at hp hfo;obtain ⟨pa,pc,hpv,_⟩:=own_form hp.own;obtain ⟨LN,hLN⟩:∃ LN,(sPrs T.l (sidx T.l op.key) 0 op.val n2).length=LN:=⟨_,rfl⟩;rw [hLN] at hpv;clear hLN;subst hpv;obtain ⟨fa,fc,hfv,_⟩:=own_form hfo;obtain ⟨FN,hFN⟩:∃ FN,FN=(sFls T.l.length (sidx T.l op.key) 0 op.val n2).length:=⟨_,rfl⟩;rw [← hFN] at hfv
     subst hfv;have HA:Hid (Blk w8 ab zA 71∧wr.heap.size≤ab∧Below wr.heap.size wr w8∧ARow (fun k=>wr.heap.size≤k∧k < w8.heap.size∧k≠ab) w8 ((.slice pa LN pc),(.slice fa FN fc)) ⟨(sPrs T.l (sidx T.l op.key) 0 op.val n2),(sFls T.l.length (sidx T.l op.key) 0 op.val n2),0,true⟩∧(fun Wx:World=>Wx.cell? ⟨pb,0,none⟩=some (.int .i64 op.kind)∧Wx.cell? ⟨pb,1,none⟩=some (.slice k1 n1 c1)∧Wx.cell? ⟨pb,2,none⟩=some (.slice k2 n2 c2)∧Wx.cell? ⟨pb,3,none⟩=some (.int .i64 op.n)) w8):=hid (by
      obtain ⟨_,_,_,y4,y5,y6,y7,y8,y9,y10⟩:=HKY.out;have hb58:Below W.heap.size W w8:=HB6.out.trans (hb68.mono hs5);have hsz:∀ k,w5.heap.size≤k∧k < w8.heap.size→wr.heap.size≤k∧k < w8.heap.size∧k≠ab:=fun k hk=>by
       have h1:=y4.lt;have h2:=HPB.out;omega
      have hWs:=y6.size;refine ⟨(hb58.block ab y4.lt).trans y4,by rw [HPB.out];exact y5,?_,?_,HCL.out w8 hb58⟩
      ·rw [HPB.out];exact y6.trans (hb58.mono (by omega))
      ·exact ⟨rs,hp.keep (fun _ _=>rfl) (fun k hk=>hsz k (hSS k (.inl hk))),hfo,fun g e=>hsz g (hSS g (.inr e))⟩)
     have hBa:=HA.out.1;have a0:w8.cell? ⟨ab,0,none⟩=some (.slice none 0 0):=hBa.cell (k:=0) rfl;have a1:w8.cell? ⟨ab,1,none⟩=some (.slice none 0 0):=hBa.cell (k:=1) rfl;have a2:w8.cell? ⟨ab,2,none⟩=some (.int .i64 0):=hBa.cell (k:=2) rfl;have a3:w8.cell? ⟨ab,3,none⟩=some (.bool false):=hBa.cell (k:=3) rfl;have f0:=hBa.free 0;have f1:=hBa.free 1;have f2:=hBa.free 2;have f3:=hBa.free 3;clear hp hfo hFN hSS hb68 hBa
     try dsimp only
     go_wp2_with fail
     refine ⟨HA.out.2.2.2.2,?_⟩;refine PosG.tail rfl (by kernel_rfl) (by kernel_rfl) (by decide) ?_;simp only [List.drop_succ_cons,List.drop_zero];go_wp2_with fail
     go_meet
     case rel =>
      obtain ⟨z1,z2,z3,z4,_⟩:=HA.out;have y9:=HKY.out.2.2.2.2.2.2.2.2.1;exact ans_agg z1 z2 z3 z4 ⟨fun e=>by have:=HKK.out;omega,fun e=>by have:=HKK.out;omega,fun e=>by have:=HKK.out;omega,fun e=>by have:=HKK.out;omega,fun e=>by have:=HKK.out;omega,fun _=>⟨by rw [y9],by rw [y9]⟩⟩
    by_cases hk14:op.kind=14
    ·obtain ⟨x1,x2,x3,x4,hkA,hkB,x7,x8,x9,x10,hl2,x12⟩:=HW.out;have hb2:(op.kind == 2)=false:=by rw [beq_eq_false_iff_ne];omega
     have hb3:(op.kind == 3)=false:=by rw [beq_eq_false_iff_ne];omega
     have hb4:(op.kind == 4)=false:=by rw [beq_eq_false_iff_ne];omega
     have hb7:(op.kind == 7)=false:=by rw [beq_eq_false_iff_ne];omega
     have hb8:(op.kind == 8)=false:=by rw [beq_eq_false_iff_ne];omega
     have hb9:(op.kind == 9)=false:=by rw [beq_eq_false_iff_ne];omega
     have hb10:(op.kind == 10)=false:=by rw [beq_eq_false_iff_ne];omega
     have hb14:(op.kind == 14)=true:=by rw [beq_iff_eq];exact hk14
     have HKK:=hid hk14;clear hk14 hk10 hk9 hk8 hk7 hk4 hk3 hk2;have hof:=offsetOf_any x4 hkA;clear x1 x2 x3 x4 hkA hkB x7 x8 x9 x10 hl2 x12;go_wp2_with fail
     refine hof.mono ?_;rintro e w7 ⟨N,rfl,hb7⟩;clear hof;obtain ⟨x1,x2,x3,x4,x5,x6,x7,x8,x9,x10,x11,x12⟩:=HW.out;have hBa:Blk w7 ab zA 71:=(hb7.block _ x3.lt).trans x3;have a3:w7.cell? ⟨ab,3,none⟩=some (.bool false):=hBa.cell (k:=3) rfl;have a2:w7.cell? ⟨ab,2,none⟩=some (.int .i64 0):=hBa.cell (k:=2) rfl;have f3:=hBa.free 3;have f2:=hBa.free 2;have hbl7:Below wr.heap.size wr w7:=by rw [HPB.out];exact x1.trans (hb7.mono (by omega))
     have hge:wr.heap.size≤ab:=by rw [HPB.out];exact x7
     have HF:Hid (∀ k,AnsNew T.l op ab wr (((w7.setCell ⟨ab,2,none⟩ (.int .i64 N)).setCell ⟨ab,3,none⟩ (.bool true)).drewN k)):=hid (fun k=>⟨(.slice none 0 0,.slice none 0 0),⟨[],[],N,true⟩,by have:=((hBa.set 2 (.int .i64 N)).set 3 (.bool true)).drewN k;simpa [zA] using this,aRow_nil _ _ _ _,ansOk_none ⟨by have:=HKK.out;omega,by have:=HKK.out;omega,by have:=HKK.out;omega,by have:=HKK.out;omega,by have:=HKK.out;omega,by have:=HKK.out;omega⟩,((hbl7.setCell (p:=⟨ab,2,none⟩) hge _).setCell (p:=⟨ab,3,none⟩) hge _).trans (Below.drewN' _ _ k)⟩)
     clear hBa hbl7 hge hb7 x1 x2 x3 x4 x5 x6 x7 x8 x9 x10 x11 x12;try dsimp only
     go_upto_region 32 with fail
     refine Pos.start (fun Wx:World=>(∃ v,Wx.cell? ⟨ab,2,none⟩=some v)∧Wx.cell? ⟨ab,3,none⟩=some (.bool false)) 6 (by kernel_rfl) ?_;have hS:(fun Wx:World=>(∃ v,Wx.cell? ⟨ab,2,none⟩=some v)∧Wx.cell? ⟨ab,3,none⟩=some (.bool false)) (w7.drewN 1):=⟨⟨_,a2⟩,a3⟩;iterate 4
      refine' Pos.takeK hS rfl (by kernel_rfl) (fun _ _ _ h=>h) (by rfl) ?_ ?_;rotate_left
      ·intro W hW;obtain ⟨s1,s2⟩:=hW;go_simp;try with_reducible rfl
      intro K hK;go_simp;refine hK _ ?_;clear hK K
     clear hS;refine Pos.eff rfl (by kernel_rfl) ?_;go_wp2_with fail
     have hS:(fun Wx:World=>(∃ v,Wx.cell? ⟨ab,2,none⟩=some v)∧Wx.cell? ⟨ab,3,none⟩=some (.bool false)) ((w7.setCell ⟨ab,2,none⟩ (.int .i64 N)).drewN 1):=⟨⟨.int .i64 N,by go_simp⟩,by go_simp⟩;refine ⟨hS,?_⟩;iterate 1
      refine' Pos.takeK hS rfl (by kernel_rfl) (fun _ _ _ h=>h) (by rfl) ?_ ?_;rotate_left
      ·intro W hW;obtain ⟨s1,s2⟩:=hW;go_simp;try with_reducible rfl
      intro K hK;go_simp;refine hK _ ?_;clear hK K
     clear hS;refine Pos.tail (by kernel_rfl) (by decide) ?_;simp only [List.drop_succ_cons,List.drop_zero];go_wp2_with fail
     go_meet
     case rel=>exact HF.out 1
    have HNK:=hid (show op.kind≠2∧op.kind≠3∧op.kind≠7∧op.kind≠8∧op.kind≠9∧op.kind≠10 from ⟨hk2,hk3,hk7,hk8,hk9,hk10⟩);have hb2:(op.kind == 2)=false:=by rw [beq_eq_false_iff_ne];omega
    have hb3:(op.kind == 3)=false:=by rw [beq_eq_false_iff_ne];omega
    have hb4:(op.kind == 4)=false:=by rw [beq_eq_false_iff_ne];omega
    have hb7:(op.kind == 7)=false:=by rw [beq_eq_false_iff_ne];omega
    have hb8:(op.kind == 8)=false:=by rw [beq_eq_false_iff_ne];omega
    have hb9:(op.kind == 9)=false:=by rw [beq_eq_false_iff_ne];omega
    have hb10:(op.kind == 10)=false:=by rw [beq_eq_false_iff_ne];omega
    have hb14:(op.kind == 14)=false:=by rw [beq_eq_false_iff_ne];omega
    clear hk2 hk3 hk4 hk7 hk8 hk9 hk10 hk14;have HF:Hid (AnsNew T.l op ab wr W):=hid (by
     obtain ⟨x1,x2,x3,x4,x5,x6,x7,x8,x9,x10,x11,x12⟩:=HW.out;exact ⟨(.slice none 0 0,.slice none 0 0),⟨[],[],0,false⟩,x3,aRow_nil _ _ _ _,ansOk_none HNK.out,by rw [HPB.out];exact x1⟩)
    go_wp2_with fail
    go_meet
    case rel=>exact HF.out
   case rest =>
    obtain ⟨⟨x,y⟩,⟨ps,fs,an,aok⟩,hB,hr,hok1,hbn⟩:=hcut;have hxy:∃ xa xn xc ya yn yc,x=.slice xa xn xc∧y=.slice ya yn yc:=by
     obtain ⟨rs,h1,h2,_⟩:=hr;obtain ⟨xa,xc,h3,_⟩:=own_form h1.own;obtain ⟨ya,yc,h4,_⟩:=own_form h2;exact ⟨_,_,_,_,_,_,h3,h4⟩
    obtain ⟨xa,xn,xc,ya,yn,yc,rfl,rfl⟩:=hxy;obtain ⟨l,cs,C0,hA,hlj,hoks,hrd0,hbl0,hvb⟩:=hst.out;obtain ⟨hown,happ⟩:=hA.app hbn hr;rw [hlj] at hown;have q0:wc.cell? ⟨ab,0,none⟩=some (.slice xa xn xc):=hB.cell (k:=0) rfl;have q1:wc.cell? ⟨ab,1,none⟩=some (.slice ya yn yc):=hB.cell (k:=1) rfl;have q2:wc.cell? ⟨ab,2,none⟩=some (.int .i64 an):=hB.cell (k:=2) rfl;have q3:wc.cell? ⟨ab,3,none⟩=some (.bool aok):=hB.cell (k:=3) rfl
    have HOWN:=hid hown;have HX:Hid (∀ v8 w8,w8.ownsRow 0 71 4 v8 (j+1) (flatA cs l++[.slice xa xn xc,.slice ya yn yc,.int .i64 an,.bool aok])→(wc.alloc (.cells #[.slice xa xn xc,.slice ya yn yc,.int .i64 an,.bool aok] 71)).grownBy w8 u10.ownBlock→Lies (wc.alloc (.cells #[.slice xa xn xc,.slice ya yn yc,.int .i64 an,.bool aok] 71)) u10 v8→RTst w4 r T ops w4.heap.size (j+1) v8 w8):=hid (fun v8 w8 g1 g2 g3=>by
     obtain ⟨h1,h2⟩:=happ v8 w8 (by rw [hlj];exact g1) g2 g3;obtain ⟨h3,h4⟩:=h2 w4.heap.size (by rw [HPB.out];exact HBR.out.2) hvb;refine ⟨l++[⟨ps,fs,an,aok⟩],_,C0,h1,by rw [List.length_append,hlj];rfl,fun i o a ho ha=>?_,hrd0.below h3,hbl0.trans h3,h4⟩;by_cases hi:i < l.length
     ·rw [List.getElem?_append_left hi] at ha;exact hoks i o a ho ha
     ·have h5:=lt_of_some ha;rw [List.length_append,List.length_singleton] at h5;have:i=l.length:=by omega
      subst this;rw [List.getElem?_append_right (Nat.le_refl _)] at ha;simp at ha;subst ha;rw [hlj,HOP.out] at ho;cases ho
      exact hok1)
    clear hB hr hok1 hbn hA hlj hoks hrd0 hbl0 hvb hown happ hst p0 p1 p2 p3 a0 a3 hpa;go_wp2_with (at_builtin;go_must (refine wpList_app rfl _ _ 32 rfl 71 (.agg #[.slice none 0 0,.slice none 0 0,.int .i64 0,.bool false]) 4 64 un32 info71 rfl (by omega) u10 j (flatA cs l) rfl (by exact HOWN.out) (some ⟨wc.heap.size,0,none⟩) 1 1 [.slice xa xn xc,.slice ya yn yc,.int .i64 an,.bool aok] rfl rfl (fun e=>by cases e) (by exact news_new [.slice xa xn xc,.slice ya yn yc,.int .i64 an,.bool aok] _ (Blk.new wc _ _)) (by simp [Value.oneCell']) (by unfold maxLen;omega) (by omega) ?_);go_must (intro v9 w9 hown9 hgrow9 hlies9);go_must (have HY:=hid (HX.out v9 w9 hown9 hgrow9 hlies9));go_must (clear hown9 hgrow9 hlies9))
    go_roundw
    case rel=>exact ⟨j+1,by go_num,hlt,HY⟩
    case measure=>simp [intOf];omega
  ·have hjn:j=on:=by omega
   obtain ⟨l,cs,C0,hA,hlj,hoks,hrd0,hbl0,hvb⟩:=hst.out;obtain ⟨va,vc,hv,_⟩:=own_form hA.own;have HF:Hid (∃ (l:List Ans) (cs:List (Value × Value)),AnssAt wr u10 l cs∧l.length=ops.length∧(∀ (i:Nat) (o:OpV) (a:Ans),ops[i]?=some o→l[i]?=some a→AnsOk T.l o a)∧Below w.heap.size w wr):=hid ⟨l,cs,hA,by rw [hlj,hjn,HLN.out],hoks,HB4.out.trans (hbl0.mono HB4.out.size)⟩;subst hjn;clear hA hlj hoks hrd0 hbl0 hvb hst
   subst hv;go_wp2
   go_returns
   obtain ⟨l,cs,h1,h2,h3,h4⟩:=HF.out;exact ⟨_,l,cs,rfl,h1,h2,h3,h4⟩
end
end Go.Proofs.YtmkdpjicgjhhjaaGreatDoor
