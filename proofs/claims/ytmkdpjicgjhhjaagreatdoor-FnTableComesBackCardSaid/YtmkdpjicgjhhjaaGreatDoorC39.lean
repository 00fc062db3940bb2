/- Part 39 of the proof of FnTableComesBack: contracts and lemmas, each under the conditions that it states. Texts: SWk, ISc, BRs, BRg, IRg, IRk. -/
import Derived.Test.YtmkdpjicgjhhjaaGreatDoorC38
import Derived.Test.YtmkdpjicgjhhjaaGreatDoorC28
import Derived.Test.YtmkdpjicgjhhjaaGreatDoorC32
import Derived.Test.YtmkdpjicgjhhjaaGreatDoorC33
namespace Go.Proofs.YtmkdpjicgjhhjaaGreatDoor
open Go.Lib (hid)
set_option maxRecDepth 100000
set_option linter.all false
section
open Go Go.RowKit Go.Shelf
set_option maxHeartbeats 8000000 in
theorem script_any {P:IP} (hg:P.gets) (hR:P.R=wholeIR P.T) {w:World} {cur:Nat} (h:II P w cur) {ca:Option Addr} {cn cc:Nat} {cs:Bs} (hc:Key P.base w ca cn cc cs) {ka:Option Addr} {kn kc:Nat} {tk:Bs} (hk:Key P.base w ka kn kc tk) (hle:∀ e∈vis P,e.1.length≤4294967295∧e.2.length≤4294967295) (hcn:cn≤2147483647) :
  Calls Tryz.prog 70 #[.iface 249 (.pointer (some ⟨P.it,0,none⟩)),.slice ca cn cc,.slice ka kn kc] w fun e w'=>∃ pv fv,e=.returned (.tuple #[pv,fv])∧ScSt P w (cAt (vis P).length (sidx P.T.l tk) cur cs cn) (sPrs (vis P) (sidx P.T.l tk) cur cs cn) (sFls (vis P).length (sidx P.T.l tk) cur cs cn) pv fv w':=by
 have hw:P.whole:=by unfold IP.whole;rw [hR];rfl
 have HST:=hid (ScSt.start h);have HG:=hid hg;have HW:=hid hw;have HR:=hid hR;have HC:=hid hc;have HK:=hid hk;have HLE:=hid hle;generalize hN:(vis P).length=N at *;generalize hSK:sidx P.T.l tk=sk at *;have HN:=hid hN;have HSK:=hid hSK;clear h hg hR hc hk hle hw hN hSK;go_enter Tryz.func70,Tryz.ntmps70
 go_wp2_with fail
 go_loopw [12,6,7] (fun i v6 v7 wr=>∃ (j:Nat) (pv fv:Value),i=.int .i64 j∧v6=pv∧v7=fv∧j≤cn∧Hid (ScSt P w (cAt N sk cur cs j) (sPrs (vis P) sk cur cs j) (sFls N sk cur cs j) pv fv wr)) (fun i _ _ _=>cn - (intOf i).toNat)
 case atStart=>exact ⟨0,_,_,rfl,rfl,rfl,Nat.zero_le _,hid HST.out⟩
 case round =>
  obtain ⟨j,pv,fv,rfl,rfl,rfl,hj,hst⟩:=hrel;clear HST;by_cases hlt:j < cn
  ·have hbw:Below P.base w wr:=by obtain ⟨_,_,_,_,_,_,_,q,_⟩:=hst.out;exact q
   obtain ⟨b,o,rfl⟩:=HC.out.sl.form (by omega);obtain ⟨y,hy,hcy⟩:=(HC.out.below hbw).sl.get hlt;have hi1:(j:Int) < ((cn:Nat):Int):=by omega
   have hcm:cAt N sk cur cs (j+1)=cmove N sk y (cAt N sk cur cs j):=cAt_succ hy;have hp:=sPrs_succ (vis P) sk cur cs j;have hf:=sFls_succ N sk cur cs j;have hpl:=sPrs_len (vis P) sk cur cs j;have hfl:=sFls_len N sk cur cs j;rw [HN.out] at hp;generalize hEc1:cAt N sk cur cs (j+1)=c1 at *;have HEc1:=hid hEc1;clear hEc1;generalize cAt N sk cur cs j=c0 at *;generalize hEps1:sPrs (vis P) sk cur cs (j+1)=ps1 at *
   have HEps1:=hid hEps1;clear hEps1;generalize sPrs (vis P) sk cur cs j=ps at *;generalize hEfs1:sFls N sk cur cs (j+1)=fs1 at *;have HEfs1:=hid hEfs1;clear hEfs1;generalize sFls N sk cur cs j=fs at *;have HCM:=hid hcm;have HPP:=hid hp;have HFF:=hid hf;have HPL:=hid hpl;have HFL:=hid hfl;clear hcm hp hf hpl hfl hy hbw;go_upto_block 2 with fail
   go_cut [] (fun wx=>ScSt P w c1 ps fs u6 u7 wx)
   case first =>
    have hy5:y.toNat % 5=0∨y.toNat % 5=1∨y.toNat % 5=2∨y.toNat % 5=3∨y.toNat % 5=4:=by omega
    rcases hy5 with hy5 | hy5 | hy5 | hy5 | hy5
    ·have hc:=hst.out.first HG.out;have hb0:((y.toNat:Int) % 5 == 0)=true:=by rw [beq_iff_eq];omega
     clear hst;go_wp2_with fail
     refine hc.mono ?_;rintro e w2 ⟨⟨bb,rfl⟩,h2⟩;have H2:Hid (ScSt P w c1 ps fs u6 u7 w2):=hid (by rw [HCM.out];unfold cmove;rw [if_pos hy5];exact h2);clear hc h2;try dsimp only
     go_wp2_with fail
     go_meet
     case rel=>exact H2.out
    ·have hc:=hst.out.last HG.out HW.out;rw [HN.out] at hc;have hb0:((y.toNat:Int) % 5 == 0)=false:=by rw [beq_eq_false_iff_ne];omega
     have hb1:((y.toNat:Int) % 5 == 1)=true:=by rw [beq_iff_eq];omega
     clear hst;go_wp2_with fail
     refine hc.mono ?_;rintro e w2 ⟨⟨bb,rfl⟩,h2⟩;have H2:Hid (ScSt P w c1 ps fs u6 u7 w2):=hid (by rw [HCM.out];unfold cmove;rw [if_neg (by omega),if_pos hy5];exact h2);clear hc h2;try dsimp only
     go_wp2_with fail
     go_meet
     case rel=>exact H2.out
    ·have hc:=hst.out.next HG.out;rw [HN.out] at hc;have hb0:((y.toNat:Int) % 5 == 0)=false:=by rw [beq_eq_false_iff_ne];omega
     have hb1:((y.toNat:Int) % 5 == 1)=false:=by rw [beq_eq_false_iff_ne];omega
     have hb2:((y.toNat:Int) % 5 == 2)=true:=by rw [beq_iff_eq];omega
     clear hst;go_wp2_with fail
     refine hc.mono ?_;rintro e w2 ⟨⟨bb,rfl⟩,h2⟩;have H2:Hid (ScSt P w c1 ps fs u6 u7 w2):=hid (by rw [HCM.out];unfold cmove;rw [if_neg (by omega),if_neg (by omega),if_pos hy5];exact h2);clear hc h2;try dsimp only
     go_wp2_with fail
     go_meet
     case rel=>exact H2.out
    ·have hc:=hst.out.prev HG.out HW.out;have hb0:((y.toNat:Int) % 5 == 0)=false:=by rw [beq_eq_false_iff_ne];omega
     have hb1:((y.toNat:Int) % 5 == 1)=false:=by rw [beq_eq_false_iff_ne];omega
     have hb2:((y.toNat:Int) % 5 == 2)=false:=by rw [beq_eq_false_iff_ne];omega
     have hb3:((y.toNat:Int) % 5 == 3)=true:=by rw [beq_iff_eq];omega
     clear hst;go_wp2_with fail
     refine hc.mono ?_;rintro e w2 ⟨⟨bb,rfl⟩,h2⟩;have H2:Hid (ScSt P w c1 ps fs u6 u7 w2):=hid (by rw [HCM.out];unfold cmove;rw [if_neg (by omega),if_neg (by omega),if_neg (by omega),if_pos hy5];exact h2);clear hc h2;try dsimp only
     go_wp2_with fail
     go_meet
     case rel=>exact H2.out
    ·have hc:=hst.out.seek HG.out HR.out HK.out;rw [HSK.out] at hc;have hb0:((y.toNat:Int) % 5 == 0)=false:=by rw [beq_eq_false_iff_ne];omega
     have hb1:((y.toNat:Int) % 5 == 1)=false:=by rw [beq_eq_false_iff_ne];omega
     have hb2:((y.toNat:Int) % 5 == 2)=false:=by rw [beq_eq_false_iff_ne];omega
     have hb3:((y.toNat:Int) % 5 == 3)=false:=by rw [beq_eq_false_iff_ne];omega
     have hb4:((y.toNat:Int) % 5 == 4)=true:=by rw [beq_iff_eq];omega
     clear hst;go_wp2_with fail
     refine hc.mono ?_;rintro e w2 ⟨⟨bb,rfl⟩,h2⟩;have H2:Hid (ScSt P w c1 ps fs u6 u7 w2):=hid (by rw [HCM.out];unfold cmove;rw [if_neg (by omega),if_neg (by omega),if_neg (by omega),if_neg (by omega)];exact h2);clear hc h2;try dsimp only
     go_wp2_with fail
     go_meet
     case rel=>exact H2.out
   case rest =>
    have hv:=hcut.valid;rw [HN.out] at hv;have hfl:=hcut.flag (sFl N c1);rw [HFL.out] at hfl;have HFG:=hid hfl;clear hcut hfl hst;generalize hBB:sFl N c1=bb at *;go_wp2_with fail
    refine hv.mono ?_;rintro e w' ⟨rfl,hw'⟩;rw [hw'];clear hv hw' w';try dsimp only
    go_wp2_with (at_builtin;go_must (refine wpList_app rfl _ _ 69 rfl 4 (.bool false) 1 1 un69 info4 rfl (by omega) u7 j (bools fs) rfl (by exact HFG.out.1) (some ⟨wc.heap.size,0,none⟩) 1 1 [.bool bb] rfl rfl (fun e=>by cases e) (by exact news_new [.bool bb] _ (Blk.new wc _ _)) (by simp [Value.oneCell']) (by unfold maxLen;omega) (by omega) ?_);go_must (intro v8 w8 hown8 hgrow8 hlies8);go_must (have H8:=hid (HFG.out.2 v8 w8 hown8 hgrow8 hlies8));go_must (have hv8:=H8.out.valid);go_must (rw [HN.out,hBB] at hv8);go_must (clear hown8 hgrow8 hlies8))
    refine hv8.mono ?_;rintro e w' ⟨rfl,hw'⟩;rw [hw'];clear hv8 hw' w';try dsimp only
    cases bb
    ·obtain ⟨rs,ho,hstep⟩:=H8.out.pairs (w2:=w8) (Below.refl _ _) (prv_nil _ w8);rw [HPL.out] at ho hstep;have HO:=hid ho;have HST:=hid hstep;have HSP:Hid (sPr (vis P) c1=([],[])):=hid (by unfold sPr;rw [if_neg (by rw [HN.out];simpa [sFl] using hBB)]);clear ho hstep hBB;go_wp2_with (at_builtin;go_must (refine wpList_app rfl _ _ 22 rfl 40 (.agg #[.slice none 0 0,.slice none 0 0]) 2 48 un22 info40 rfl (by omega) u6 j (rs.flatMap fun r=>[r.1,r.2]) rfl (by exact HO.out) (some ⟨w8.heap.size,0,none⟩) 1 1 [.slice none 0 0,.slice none 0 0] rfl rfl (fun e=>by cases e) (by exact news_new [.slice none 0 0,.slice none 0 0] _ (Blk.new w8 _ _)) (by simp [Value.oneCell']) (by unfold maxLen;omega) (by omega) ?_);go_must (intro v9 w9 hown9 hgrow9 hlies9);go_must (have HX:=hid (HST.out v9 w9 hown9 hgrow9 hlies9));go_must (rw [← HSP.out] at HX);go_must (clear hown9 hgrow9 hlies9))
     go_roundw
     case rel=>exact ⟨j+1,_,_,by go_num,rfl,rfl,hlt,by rw [HEc1.out,HEps1.out,HEfs1.out,HPP.out,HFF.out];exact HX.out⟩
     case measure=>simp [intOf];omega
    ·have hpa:=H8.out.pair (by rw [HN.out];exact hBB) HLE.out;clear hBB;go_wp2_with fail
     refine hpa.mono ?_;rintro e w9 ⟨pa,pc,va,vc,ev,rfl,hev,hb9,hpv⟩;obtain ⟨rs,ho,hstep⟩:=H8.out.pairs hb9 hpv;rw [HPL.out] at ho hstep;have HO:=hid ho;have HST:=hid hstep;have HSP:=hid hev;clear ho hstep hev hb9 hpv hpa;try dsimp only
     go_wp2_with (at_builtin;go_must (refine wpList_app rfl _ _ 22 rfl 40 (.agg #[.slice none 0 0,.slice none 0 0]) 2 48 un22 info40 rfl (by omega) u6 j (rs.flatMap fun r=>[r.1,r.2]) rfl (by exact HO.out) (some ⟨w9.heap.size,0,none⟩) 1 1 [.slice pa ev.1.length pc,.slice va ev.2.length vc] rfl rfl (fun e=>by cases e) (by exact news_new [.slice pa ev.1.length pc,.slice va ev.2.length vc] _ (Blk.new w9 _ _)) (by simp [Value.oneCell']) (by unfold maxLen;omega) (by omega) ?_);go_must (intro v9 w10 hown9 hgrow9 hlies9);go_must (have HX:=hid (HST.out v9 w10 hown9 hgrow9 hlies9));go_must (rw [HSP.out] at HX);go_must (clear hown9 hgrow9 hlies9))
     go_roundw
     case rel=>exact ⟨j+1,_,_,by go_num,rfl,rfl,hlt,by rw [HEc1.out,HEps1.out,HEfs1.out,HPP.out,HFF.out];exact HX.out⟩
     case measure=>simp [intOf];omega
  ·have hjn:j=cn:=by omega
   subst hjn;have hf:=hst.out;obtain ⟨P',rs,q1,q2,q3,q4,q5,q6⟩:=id hf;obtain ⟨a1,c1,hv1,_⟩:=own_form q3.own;obtain ⟨a2,c2,hv2,_⟩:=own_form q4;clear q1 q2 q3 q4 q5 q6 rs P';have HF:=hid hf;clear hst hf;subst hv1 hv2;go_wp2
   go_returns
   exact ⟨_,_,rfl,HF.out⟩
end
section
open Go Go.RowKit Go.Shelf
def AnsAt (B:Nat) (w:World) (pv fv:Value) (l:List KV) (fs:List Bool):Prop :=
 ∃ rs S,PairsAt S w pv l rs∧w.ownsRow 0 4 1 fv fs.length (bools fs)∧(∀ k,S k∨fv.ownBlock=some k→B≤k∧k < w.heap.size)
set_option maxHeartbeats 4000000 in
theorem iterScript_any {P:IP} (hg:P.gets) (hR:P.R=wholeIR P.T) {w:World} {cur:Nat} (h:II P w cur) {ca:Option Addr} {cn cc:Nat} {cs:Bs} (hc:Key P.base w ca cn cc cs) {ka:Option Addr} {kn kc:Nat} {tk:Bs} (hk:Key P.base w ka kn kc tk) (n:Int) (hle:∀ e∈vis P,e.1.length≤4294967295∧e.2.length≤4294967295) (hcn:cn≤2147483647) :
  Calls Tryz.prog 29 #[.iface 249 (.pointer (some ⟨P.it,0,none⟩)),.agg #[.int .i64 10,.slice ka kn kc,.slice ca cn cc,.int .i64 n]] w fun e w' =>
   ∃ pv fv,e=.returned (.agg #[pv,fv,.int .i64 0,.bool true])∧AnsAt P.base w' pv fv (sPrs (vis P) (sidx P.T.l tk) cur cs cn) (sFls (vis P).length (sidx P.T.l tk) cur cs cn)∧Below P.base w w':=by
 go_enter Tryz.func29,Tryz.ntmps29
 go_upto_region 15 with fail
 obtain ⟨w1,hw1⟩:∃ w1,w1=((w.alloc (Obj.cells #[Value.int IntKind.i64 10,.slice ka kn kc,.slice ca cn cc,Value.int IntKind.i64 n] 43)).alloc (Obj.cells #[Value.slice none 0 0,Value.slice none 0 0,Value.int IntKind.i64 0,Value.bool false] 71)).alloc (Obj.cells #[Value.slice none 0 0,Value.slice none 0 0,Value.int IntKind.i64 0,Value.bool false] 71):=⟨_,rfl⟩;have hs1:w1.heap.size=w.heap.size+3:=by rw [hw1];simp
 have hb1:Below w.heap.size w w1:=by rw [hw1];exact (((Below.refl _ _).alloc (Nat.le_refl _) _).alloc (by simp) _).alloc (by simp;omega) _
 have hab:Blk w1 (w.heap.size+1+1) zA 71:=by
  rw [hw1];have:=Blk.new ((w.alloc (Obj.cells #[Value.int IntKind.i64 10,.slice ka kn kc,.slice ca cn cc,Value.int IntKind.i64 n] 43)).alloc (Obj.cells #[Value.slice none 0 0,Value.slice none 0 0,Value.int IntKind.i64 0,Value.bool false] 71)) #[Value.slice none 0 0,Value.slice none 0 0,Value.int IntKind.i64 0,Value.bool false] 71;simpa [zA] using this
 have hrb:Blk w1 (w.heap.size+1) zA 71:=by
  rw [hw1];have:=(Blk.new (w.alloc (Obj.cells #[Value.int IntKind.i64 10,.slice ka kn kc,.slice ca cn cc,Value.int IntKind.i64 n] 43)) #[Value.slice none 0 0,Value.slice none 0 0,Value.int IntKind.i64 0,Value.bool false] 71).alloc (Obj.cells #[Value.slice none 0 0,Value.slice none 0 0,Value.int IntKind.i64 0,Value.bool false] 71);simpa [zA] using this
 have hob:Blk w1 w.heap.size #[Value.int IntKind.i64 10,.slice ka kn kc,.slice ca cn cc,Value.int IntKind.i64 n] 43:=by
  rw [hw1];exact ((Blk.new w _ _).alloc _).alloc _
 have o1:=hob.cell (k:=1) rfl;have o2:=hob.cell (k:=2) rfl;rw [← hw1];have h1:II (P.grown w w1) w1 cur:=h.turn (Fr.of_below hb1);have hlow:=h.ab.1;have hscr:=script_any (P:=P.grown w w1) (gets_like ((IP.like.refl P).grown w w1) hg) hR h1 (hc.below (hb1.mono hlow)) (hk.below (hb1.mono hlow)) (by rw [vis_grown];exact hle) hcn;rw [vis_grown,show (P.grown w w1).T=P.T from rfl,show (P.grown w w1).it=P.it from rfl] at hscr
 have hA1:(P.grown w w1).A (w.heap.size+1+1)∧(P.grown w w1).A (w.heap.size+1):=⟨.inr ⟨by omega,by omega⟩,.inr ⟨by omega,by omega⟩⟩;clear hw1 hob;have hne:w.heap.size+1+1≠w.heap.size+1:=by omega
 have hge:P.base≤w.heap.size+1+1∧P.base≤w.heap.size+1:=by omega
 generalize hb5:w.heap.size+1+1=ab at *;generalize hb4:w.heap.size+1=rb at *;have HB1:=hid (show Below P.base w w1∧Blk w1 ab zA 71∧Blk w1 rb zA 71∧(P.grown w w1).A ab∧(P.grown w w1).A rb from ⟨hb1.mono hlow,hab,hrb,hA1⟩);have HR:=hid (show ab≠rb∧P.base≤ab∧P.base≤rb from ⟨hne,hge⟩);have hfl:=sFls_len (vis P).length (sidx P.T.l tk) cur cs cn;generalize hPS:sPrs (vis P) (sidx P.T.l tk) cur cs cn=ps at *
 have HPS:=hid hPS;clear hPS;generalize hFS:sFls (vis P).length (sidx P.T.l tk) cur cs cn=fs at *;have HFS:=hid hFS;clear hFS;generalize cAt (vis P).length (sidx P.T.l tk) cur cs cn=cN at *;clear h1 hab hrb hs1 hb1 hlow h hg hle hb5 hb4 hA1 hR hc hk hfl hne hge;go_wp2_with fail
 refine hscr.mono ?_;rintro e w2 ⟨pv,fv,rfl,P',rs,hl,h2,hp,hf,hfb,hbl,hkeep⟩;clear hscr;have hBa:Blk w2 ab zA 71:=(hkeep ab HB1.out.2.2.2.1).2.trans HB1.out.2.1;have hBr:Blk w2 rb zA 71:=(hkeep rb HB1.out.2.2.2.2).2.trans HB1.out.2.2.1;have hAa:=(hkeep ab HB1.out.2.2.2.1).1;have hAr:=(hkeep rb HB1.out.2.2.2.2).1;have q0:=hBa.cell (k:=0) rfl;have q1:=hBa.cell (k:=1) rfl;have q3:=hBa.cell (k:=3) rfl
 have f0:=hBa.free 0;have f1:=hBa.free 1;have f3:=hBa.free 3;obtain ⟨w3,hw3⟩:∃ w3,w3=(w2.setCell ⟨ab,0,none⟩ pv).setCell ⟨ab,1,none⟩ fv:=⟨_,rfl⟩;obtain ⟨w4,hw4⟩:∃ w4,w4=w3.setCell ⟨ab,3,none⟩ (.bool true):=⟨_,rfl⟩;have hf3:Fr (fun k=>k=ab) w2 w3:=by rw [hw3];exact ((Fr.refl (fun k=>k=ab) w2).setC ab 0 pv rfl).setC ab 1 fv rfl
 have hf4:Fr (fun k=>k=ab) w2 w4:=by rw [hw4];exact hf3.setC ab 3 _ rfl
 have h3:=h2.turn (hf3.mono (S':=P'.A) (fun k _ e=>e ▸ hAa));have h4:=h2.turn (hf4.mono (S':=P'.A) (fun k _ e=>e ▸ hAa));have hB4:Blk w4 ab #[pv,fv,.int .i64 0,.bool true] 71:=by
  rw [hw4,hw3];have:=((hBa.set 0 pv).set 1 fv).set 3 (.bool true);simpa [zA] using this
 have q3':w3.cell? ⟨ab,3,none⟩=some (.bool false):=by
  have:Blk w3 ab #[pv,fv,.int .i64 0,.bool false] 71:=by
   rw [hw3];have:=(hBa.set 0 pv).set 1 fv;simpa [zA] using this
  exact this.cell (k:=3) rfl
 have f3':w3.frozen? ⟨ab,3,none⟩=false:=by
  have:=(hBa.set 0 pv).set 1 fv;rw [hw3];exact this.free 3
 have herr:=h3.error;have hrel:=h4.release;have hit:P'.it=P.it:=hl.it;have hbase:P'.base=P.base:=hl.base;rw [show (P'.grown w2 w3).it=P.it from hit] at herr;rw [show (P'.grown w2 w4).it=P.it from hit,show (P'.grown w2 w4).base=P.base from hbase] at hrel;have HEND:=hid (show Blk w4 ab #[pv,fv,.int .i64 0,.bool true] 71∧Blk w4 rb zA 71∧PairsAt (fun k=>(P'.grown w2 w4).A k∧k≠ab∧k≠rb) w4 pv ps rs∧w4.ownsRow 0 4 1 fv fs.length (bools fs)∧(∀ g,fv.ownBlock=some g→(P'.grown w2 w4).A g∧g≠ab∧g≠rb)∧(P'.grown w2 w4).A ab∧(P'.grown w2 w4).A rb∧(∀ k,(P'.grown w2 w4).A k→P.base≤k∧k < w4.heap.size)∧Below P.base w w4 from by
  have hno:∀ k,¬ (P.grown w w1).A k→k≠ab∧k≠rb:=fun k hk=>⟨fun e=>hk (e ▸ HB1.out.2.2.2.1),fun e=>hk (e ▸ HB1.out.2.2.2.2)⟩
  refine ⟨hB4,(hf4.block rb hBr.lt (fun e=>HR.out.1 e.symm)).trans hBr,hp.keep (fun k hk=>hf4.block k (h2.ab.2 k hk.1).2 (hno k hk.2.1).1) (fun k hk=>⟨.inl hk.1,hno k hk.2.1⟩),own_same hf (fun g e=>hf4.block g (own_lt hf e) (hno g (hfb g e).2).1),fun g e=>⟨.inl (hfb g e).1,hno g (hfb g e).2⟩,.inl hAa,.inl hAr,fun k hk=>?_,?_⟩
  ·have:=h4.ab.2 k hk;exact ⟨by rw [← hbase];exact this.1,this.2⟩
  ·refine (HB1.out.1.trans hbl).trans (hf4.below ?_ (fun k hk e=>by have:=HR.out.2.1;omega));rw [← hbase];exact h2.ab.1)
 obtain ⟨pa,pc,hpv,_⟩:=own_form hp.own;obtain ⟨va,vc,hfv,_⟩:=own_form hf;clear hl h2 hp hf hfb hbl hkeep hBa hBr hAa hAr hf3 hf4 h3 h4 hB4 hit hbase;have HW3:=hid hw3;have HW4:=hid hw4;clear hw3 hw4;try dsimp only
 generalize (P'.grown w2 w4).A=AA at *;subst hpv hfv;go_wp2_with fail
 rw [← HW3.out];refine herr.mono ?_;rintro e w' ⟨rfl,hw'⟩;rw [hw'];clear herr hw' w' q0 q1 q3 f0 f1 f3;try dsimp only
 go_wp2_with fail
 rw [← HW4.out];refine hrel.mono ?_;rintro e w5 ⟨rfl,hb5,hk5⟩;clear hrel q3' f3';obtain ⟨z1,z2,z3,z4,z5,z6,z7,z8,z9⟩:=HEND.out;have hs5:=hb5.size;have hBa:Blk w5 ab #[.slice pa ps.length pc,.slice va fs.length vc,.int .i64 0,.bool true] 71:=(hk5 ab z6).trans z1;have hBr:Blk w5 rb zA 71:=(hk5 rb z7).trans z2;have a0:=hBa.cell (k:=0) rfl;have a1:=hBa.cell (k:=1) rfl;have a2:=hBa.cell (k:=2) rfl;have a3:=hBa.cell (k:=3) rfl
 have b0:w5.cell? ⟨rb,0,none⟩=some (.slice none 0 0):=hBr.cell (k:=0) rfl;have b1:w5.cell? ⟨rb,1,none⟩=some (.slice none 0 0):=hBr.cell (k:=1) rfl;have b2:w5.cell? ⟨rb,2,none⟩=some (.int .i64 0):=hBr.cell (k:=2) rfl;have b3:w5.cell? ⟨rb,3,none⟩=some (.bool false):=hBr.cell (k:=3) rfl;have c0:=hBr.free 0;have c1:=hBr.free 1;have c2:=hBr.free 2;have c3:=hBr.free 3;have HC:=hid (show Blk w5 rb zA 71∧PairsAt (fun k=>AA k∧k≠ab∧k≠rb) w5 (.slice pa ps.length pc) ps rs∧w5.ownsRow 0 4 1 (.slice va fs.length vc) fs.length (bools fs)∧(∀ g,(Value.slice va fs.length vc).ownBlock=some g→AA g∧g≠ab∧g≠rb)∧(∀ k,AA k→P.base≤k∧k < w5.heap.size)∧Below P.base w w5 from
  ⟨hBr,z3.keep (fun k hk=>hk5 k hk.1) (fun _ h=>h),own_same z4 (fun g e=>hk5 g (z5 g e).1),z5,fun k hk=>⟨(z8 k hk).1,Nat.lt_of_lt_of_le (z8 k hk).2 hs5⟩,z9.trans hb5⟩)
 clear hb5 hk5 z1 z2 z3 z4 z5 z6 z7 z8 z9 hBa hBr HEND;try dsimp only
 go_wp2
 have hfrF:Fr (fun k=>k=rb) w5 ((((w5.setCell ⟨rb,0,none⟩ (.slice pa ps.length pc)).setCell ⟨rb,1,none⟩ (.slice va fs.length vc)).setCell ⟨rb,2,none⟩ (.int .i64 0)).setCell ⟨rb,3,none⟩ (.bool true)):=Fr.setC (S:=fun k=>k=rb) (Fr.setC (S:=fun k=>k=rb) (Fr.setC (S:=fun k=>k=rb) (Fr.setC (S:=fun k=>k=rb) (Fr.refl _ w5) rb 0 _ rfl) rb 1 _ rfl) rb 2 _ rfl) rb 3 _ rfl;have hD:Blk ((((w5.setCell ⟨rb,0,none⟩ (.slice pa ps.length pc)).setCell ⟨rb,1,none⟩ (.slice va fs.length vc)).setCell ⟨rb,2,none⟩ (.int .i64 0)).setCell ⟨rb,3,none⟩ (.bool true)) rb #[.slice pa ps.length pc,.slice va fs.length vc,.int .i64 0,.bool true] 71:=by
  have:=(((HC.out.1.set 0 (.slice pa ps.length pc)).set 1 (.slice va fs.length vc)).set 2 (.int .i64 0)).set 3 (.bool true);simpa [zA] using this
 generalize (((w5.setCell ⟨rb,0,none⟩ (.slice pa ps.length pc)).setCell ⟨rb,1,none⟩ (.slice va fs.length vc)).setCell ⟨rb,2,none⟩ (.int .i64 0)).setCell ⟨rb,3,none⟩ (.bool true)=W at hfrF hD ⊢;have d0:=hD.cell (k:=0) rfl;have d1:=hD.cell (k:=1) rfl;have d2:=hD.cell (k:=2) rfl;have d3:=hD.cell (k:=3) rfl;have HFR:=hid hfrF;clear hfrF hD;refine bodyPost_ret (v:=.agg #[.slice pa ps.length pc,.slice va fs.length vc,.int .i64 0,.bool true]) (results_cell rfl rfl ?_) rfl ?_
 ·go_simp
 ·obtain ⟨y0,y1,y2,y3,y4,y5⟩:=HC.out;rw [HPS.out,HFS.out];refine ⟨_,_,rfl,⟨rs,_,y1.keep (fun k hk=>HFR.out.block k (y4 k hk.1).2 hk.2.2) (fun _ h=>h),own_same y2 (fun g e=>HFR.out.block g (own_lt y2 e) (y3 g e).2.2),fun k hk=>?_⟩,y5.trans (HFR.out.below (Nat.le_trans (Nat.le_of_lt_succ (by have:=y0.lt;have:=HR.out.2.2;omega)) (Nat.le_refl _)) (fun k hk e=>by have:=HR.out.2.2;omega))⟩;have hk':AA k:=hk.elim (fun e=>e.1) (fun e=>(y3 k e).1)
  exact ⟨(y4 k hk').1,Nat.lt_of_lt_of_le (y4 k hk').2 HFR.out.size⟩
end
section
open Go Go.RowKit Go.Shelf
set_option maxHeartbeats 4000000 in
theorem breset_any (w:World) (g:Nat) (c:IC) (s:IS) (O:Own) (key:Bs) (nodes:List Nat) (pk:Bs) (h:BI w g c s O key nodes pk) (hd:s.dir≠2) :
  Calls Tryz.prog 104 #[.pointer (some ⟨g,0,none⟩)] w fun e w'=>e=.returned (.tuple #[])∧∃ a kc,BI w' g c { s with kv:=.slice a 0 kc,vv:=.slice none 0 0,off:=c.oS,rix:=c.riS,dir:=0 } O [] nodes pk∧Fr (fun k=>k=g) w w':=by
 obtain ⟨a,kc,hkv,_,ho,hob⟩:=own_take h.key 0 (Nat.zero_le _);obtain ⟨w1,hw1⟩:∃ w1,w1=((w.setCell ⟨g,10,none⟩ (.int .i64 (c.riS:Int))).setCell ⟨g,6,none⟩ (.int .i64 (c.oS:Int))).setCell ⟨g,11,none⟩ (.int .i64 0):=⟨_,rfl⟩;have h1:BI w1 g c { s with off:=c.oS,rix:=c.riS,dir:=0 } O key nodes pk:=by
  rw [hw1];have e1:=h.setNum { s with rix:=c.riS } 10 (.int .i64 (c.riS:Int)) rfl rfl rfl rfl;have e2:=e1.setNum { s with rix:=c.riS,off:=c.oS } 6 (.int .i64 (c.oS:Int)) rfl rfl rfl rfl;exact e2.setNum { s with off:=c.oS,rix:=c.riS,dir:=0 } 11 (.int .i64 0) rfl rfl rfl rfl
 have hf1:Fr (fun k=>k=g) w w1:=by
  rw [hw1];exact Fr.setC (S:=fun k=>k=g) (Fr.setC (S:=fun k=>k=g) (Fr.setC (S:=fun k=>k=g) (Fr.refl _ w) g 10 _ rfl) g 6 _ rfl) g 11 _ rfl
 have hno:∀ k,(Value.slice a 0 kc).ownBlock=some k→O.f=some k:=fun k hk=>by rw [← h.keyO,← hob];exact hk
 have ho1:w1.ownsRow 0 5 1 (.slice a 0 kc) ([]:Bs).length (bv []):=own_fr ho hf1 (fun k hk e=>h.dis.fb k (hno k hk) e);have h2:=(h1.keyTo (w1:=w1) (Fr.refl _ _) ho1 (fun k hk=>.inl (hno k hk))).1;have hO:({ O with f:=(Value.slice a 0 kc).ownBlock }:Own)=O:=by
  rw [hob,h.keyO]
 rw [hO] at h2;have h3:=h2.setNum { s with kv:=.slice a 0 kc,vv:=.slice none 0 0,off:=c.oS,rix:=c.riS,dir:=0 } 5 (.slice none 0 0) rfl rfl rfl rfl;have hf3:Fr (fun k=>k=g) w ((w1.setCell ⟨g,4,none⟩ (.slice a 0 kc)).setCell ⟨g,5,none⟩ (.slice none 0 0)):=Fr.setC (S:=fun k=>k=g) (Fr.setC (S:=fun k=>k=g) hf1 g 4 _ rfl) g 5 _ rfl;have HF:=hid (show BI _ g c _ O [] nodes pk∧_ from ⟨h3,hf3⟩);have hB:=h.blk
 have q4:w.cell? ⟨g,4,none⟩=some (.slice a key.length kc):=by rw [← hkv];exact hB.cell (k:=4) rfl
 have q5:=hB.cell (k:=5) rfl;have q6:=hB.cell (k:=6) rfl;have q10:=hB.cell (k:=10) rfl;have q11:w.cell? ⟨g,11,none⟩=some (.int .i64 (s.dir:Int)):=hB.cell (k:=11) rfl;have q12:w.cell? ⟨g,12,none⟩=some (.int .i64 (c.riS:Int)):=hB.cell (k:=12) rfl;have q14:w.cell? ⟨g,14,none⟩=some (.int .i64 (c.oS:Int)):=hB.cell (k:=14) rfl;have f4:=hB.free 4;have f5:=hB.free 5;have f6:=hB.free 6;have f10:=hB.free 10
 have f11:=hB.free 11;have hd2:((s.dir:Int) == 2)=false:=by rw [beq_eq_false_iff_ne];omega
 obtain ⟨a',kc',hkv',hcap,hmax,hnil⟩:=own_form h.key;have HCAP:key.length≤kc:=by rw [hkv] at hkv';cases hkv';exact hcap
 have HNIL:a=none→kc=0:=by rw [hkv] at hkv';cases hkv';exact hnil
 clear h h1 hf1 ho ho1 h2 h3 hf3 hB hO hob hno hkv hkv' hcap hmax hnil hd;rw [hw1] at HF;clear hw1;cases a with
 | none =>
  obtain rfl:kc=0:=HNIL rfl;clear HNIL;go_enter Tryz.func104,Tryz.ntmps104
  go_wp2
  go_end0
  exact ⟨rfl,_,_,HF.out⟩
 | some ad =>
  clear HNIL;go_enter Tryz.func104,Tryz.ntmps104
  go_wp2
  go_end0
  exact ⟨rfl,_,_,HF.out⟩
end
section
open Go Go.RowKit Go.Shelf
theorem BE.restartAt {w:World} {p q off len ri:Nat} {p0:Bs} {es:List KV} (hE:BE w p q off len ri p0 es) {j:Nat} (hj:j < (bends ri p0 es).length) :
  ∃ r,(bdata ri p0 es).drop (eoff ri p0 es es.length+4*j)=Lib.leBytes 4 (eoff ri p0 es (j*ri))++r∧eoff ri p0 es (j*ri) < 4294967296∧j*ri≤es.length:=by
 have hri0:=hE.ri;have hj2:j*ri≤es.length:=by
  rcases bends_lt (p:=p0) hri0 hj with e | e
  ·rw [e];omega
  ·omega
 have hme:=eoff_mono (ri:=ri) (p:=p0) (es:=es) hj2;obtain ⟨r',hD⟩:=bdata_end (ri:=ri) (p:=p0) (es:=es) (j:=j) (x:=eoff ri p0 es (j*ri)) (by rw [List.getElem?_append_left hj];exact bends_at hri0 hj);have hl:=hE.rb.len;have hm:=hE.rb.max;exact ⟨r',hD,by omega,hj2⟩
theorem BE.restartOff {w:World} {p q off len ri:Nat} {p0:Bs} {es:List KV} (hE:BE w p q off len ri p0 es) {j:Nat} (hj:j < (bends ri p0 es).length) :
  Calls Tryz.prog 103 #[.pointer (some ⟨p,0,none⟩),.int .i64 (j:Int)] w fun e w'=>e=.returned (.int .i64 ((eoff ri p0 es (j*ri):Nat):Int))∧Below w.heap.size w w':=by
 obtain ⟨r,h1,h2,_⟩:=hE.restartAt hj;exact restartOffset_any w p q off len _ _ _ hE.rb j _ (Nat.le_of_lt hj) h2 h1
theorem BE.restartIdx {w:World} {p q off len ri:Nat} {p0:Bs} {es:List KV} (hE:BE w p q off len ri p0 es) {rs j:Nat} (hj:j < es.length) (hrs:rs*ri≤j) :
  Calls Tryz.prog 102 #[.pointer (some ⟨p,0,none⟩),.int .i64 (rs:Int),.int .i64 ((bends ri p0 es).length:Int),.int .i64 ((eoff ri p0 es j:Nat):Int)] w fun e w'=>e=.returned (.int .i64 ((j / ri:Nat):Int))∧Below w.heap.size w w':=by
 have hri0:=hE.ri;obtain ⟨c1,c2,c3⟩:=bends_cover (p:=p0) hri0 hj;have hle:rs≤j / ri:=(Nat.le_div_iff_mul_le hri0).2 hrs;have hl:=hE.rb.len;have hm:=hE.rb.max;have hme:=eoff_mono (ri:=ri) (p:=p0) (es:=es) (Nat.le_of_lt hj);have hx:eoff ri p0 es es.length≤4294967295:=by omega
 have h:=restartIndex_any w p q off len _ _ _ hE.rb rs (bends ri p0 es).length (eoff ri p0 es j) (j / ri+1 - rs) (by omega) (Nat.le_refl _) (by omega) ⟨by omega,fun i hi=>?_⟩ (by omega)
 ·rw [show rs+(j / ri+1 - rs) - 1=j / ri by omega] at h;exact h
 ·obtain ⟨r,h1,h2,h3⟩:=hE.restartAt (j:=rs+i) (by omega);refine ⟨_,r,h1,h2,fun hlt=>?_,fun hge=>?_⟩
  ·rcases Nat.lt_or_ge j ((rs+i)*ri) with h4 | h4
   ·have:j / ri < rs+i:=(Nat.div_lt_iff_lt_mul hri0).2 h4;omega
   ·have:=eoff_mono (ri:=ri) (p:=p0) (es:=es) h4;omega
  ·refine eoff_lt' ?_ h3;exact (Nat.div_lt_iff_lt_mul hri0).1 (by omega)
end
section
open Go Go.RowKit Go.Shelf
theorem take_drop_step {l es:List KV} {p q A Bd dl dh:Nat} (hes:es=(l.take q).drop p) (hpq:p≤q) (hq:q≤l.length) (hdl:dl=A - p) (hdh:dh=max dl (min Bd q - p)) :
  (l.take (min Bd p)).drop A++(es.take dh).drop dl=(l.take (min Bd q)).drop A:=by
 rcases Nat.lt_or_ge Bd p with h | h
 ·have e1:min Bd p=Bd:=by omega
  have e2:min Bd q=Bd:=by omega
  have e3:dh=dl:=by omega
  rw [e1,e2,e3,List.drop_of_length_le (l:=es.take dl) (by rw [List.length_take];omega),List.append_nil]
 ·have e1:min Bd p=p:=by omega
  have e4:l.take (min Bd q)=l.take p++es.take (min Bd q - p):=by
   rw [hes];have h2:(l.take (min Bd q))=(l.take q).take (min Bd q):=by rw [List.take_take];congr 1;omega
   have h3:=List.take_append_drop p ((l.take q).take (min Bd q));rw [h2,← h3,List.take_take,List.take_take,List.drop_take];congr 1
   congr 1
   omega
  rw [e1,e4,List.drop_append];have e5:(l.take p).length=p:=by rw [List.length_take];omega
  rw [e5,← hdl];congr 1
  rcases Nat.lt_or_ge (min Bd q - p) dl with h5 | h5
  ·rw [List.drop_of_length_le (by rw [List.length_take];omega),List.drop_of_length_le (by rw [List.length_take];omega)]
  ·rw [show dh=min Bd q - p by omega]
theorem vis_range {P:IP} (hok:P.T.ok) (A Bd:Nat) (hhi:P.R.hi≤P.T.B.length) (hlo:before P.T.B P.R.lo≤A)
  (hd:∀ k b,P.T.B[k]?=some b→P.R.lo≤k→k < P.R.hi→P.R.dl k=A - before P.T.B k∧P.R.dh k=max (P.R.dl k) (min Bd (before P.T.B (k+1)) - before P.T.B k))
  (hend:Bd≤before P.T.B P.R.hi∨before P.T.B P.R.hi=P.T.l.length) (hB:Bd≤P.T.l.length):vis P=(P.T.l.take Bd).drop A:=by
 have hbm:∀ i j,i≤j→before P.T.B i≤before P.T.B j:=fun i j h=>by
  unfold before;have h1:P.T.B.take i=(P.T.B.take j).take i:=by rw [List.take_take];congr 1;omega
  have h2:dents (P.T.B.take j)=dents ((P.T.B.take j).take i++(P.T.B.take j).drop i):=by rw [List.take_append_drop]
  rw [h1,h2,dents_append,List.length_append];omega
 have hbl:∀ i,before P.T.B i≤P.T.l.length:=fun i=>by
  have h1:=before_all P.T.B;rw [hok.tab.flat] at h1;rcases Nat.lt_or_ge i P.T.B.length with h | h
  ·rw [← h1];exact hbm _ _ (Nat.le_of_lt h)
  ·have:before P.T.B i=before P.T.B P.T.B.length:=by unfold before;rw [List.take_of_length_le h,List.take_length]
   omega
 have key:∀ k,k≤P.R.hi→vup P k=(P.T.l.take (min Bd (before P.T.B k))).drop A:=fun k=>by
  induction k with
  | zero =>
   intro _;have:before P.T.B 0=0:=rfl;rw [this];simp [vup]
  | succ k ih =>
   intro hk;rw [vup,ih (by omega)];unfold seg;rcases Nat.lt_or_ge k P.R.lo with h | h
   ·rw [if_neg (by omega),List.append_nil];have h1:=hbm (k+1) P.R.lo (by omega);have h2:=hbm k (k+1) (by omega);rw [List.drop_of_length_le (by rw [List.length_take];omega),List.drop_of_length_le (by rw [List.length_take];omega)]
   ·rw [if_pos ⟨h,by omega⟩];have hb:P.T.B[k]?=some P.T.B[k]:=List.getElem?_eq_getElem (by omega);obtain ⟨h1,h2⟩:=hd k _ hb h (by omega);rw [hb];refine take_drop_step ?_ (hbm k (k+1) (by omega)) (hbl _) h1 h2;have h3:=before_succ hb;have h4:=dents_cut hb;rw [hok.tab.flat] at h4;rw [h3,h4];show P.T.B[k].es=_
    unfold before;rw [List.take_append,List.drop_append];simp
 unfold vis;rw [key _ (Nat.le_refl _)];rcases hend with h | h
 ·rw [show min Bd (before P.T.B P.R.hi)=Bd by omega]
 ·rw [h,show min Bd P.T.l.length=Bd by omega]
end
section
open Go Go.RowKit Go.Shelf
def rLo (es:List KV):Option Bs→Nat
 | none=>0
 | some s=>sidx es s
def rHi (es:List KV) (lo:Nat) (incl:Bool):Option Bs→Nat
 | none=>es.length
 | some t=>if incl then min (max lo (sidx es t)+1) es.length else max lo (sidx es t)
def esAt (T:TI) (k:Nat):List KV:=(T.B[k]?.map DB.es).getD []
def keyIR (T:TI) (s t:Option Bs) (sl:Option Addr):IR :=
 let lo:=rLo (ients T.ri T.B T.sp) s
 let hi:=rHi (ients T.ri T.B T.sp) lo true t
 { lo:=lo,hi:=hi,dl:=fun k=>if k=lo∨k+1=hi then rLo (esAt T k) s else 0,dh:=fun k=>if k=lo∨k+1=hi then rHi (esAt T k) (rLo (esAt T k) s) false t else (esAt T k).length,fw:=true,sl:=sl }
section
variable {n ri:Nat} {l:List KV} {B:List DB} {sp:List Bs} {fd:Bs}
theorem before_mono (B:List DB) {i j:Nat} (h:i≤j):before B i≤before B j:=by
 unfold before;have h1:B.take i=(B.take j).take i:=by rw [List.take_take];congr 1;omega
 have h2:dents (B.take j)=dents ((B.take j).take i++(B.take j).drop i):=by rw [List.take_append_drop]
 rw [h1,h2,dents_append,List.length_append];omega
theorem before_len (h:Tab n ri l B sp fd):before B B.length=l.length:=by rw [before_all,h.flat]
theorem Tab.place (h:Tab n ri l B sp fd) (t:Bs) {k:Nat} {b:DB} (hb:B[k]?=some b) :
  (k < sidx (ients ri B sp) t→before B (k+1)≤sidx l t∧sidx b.es t=b.es.length)∧(k=sidx (ients ri B sp) t→sidx l t=before B k+sidx b.es t)∧(sidx (ients ri B sp) t < k→sidx l t≤before B k∧sidx b.es t=0):=by
 have hkl:=lt_of_some hb;refine ⟨fun hk=>?_,fun hk=>?_,fun hk=>?_⟩
 ·have h1:=h.low t (i:=k+1) (by omega);have h2:dents B=dents (B.take (k+1))++dents (B.drop (k+1)):=by rw [← dents_append,List.take_append_drop]
  have h3:sidx l t=before B (k+1)+sidx (dents (B.drop (k+1))) t:=by rw [← h.flat,h2,sidx_append _ _ t h1];rfl
  refine ⟨by omega,?_⟩;have h4:∀ e∈b.es,Lib.compareBytes e.1 t=-1:=fun e he=>h1 e (mem_dents (b:=b) (List.mem_of_getElem? (i:=k) (by rw [List.getElem?_take_of_lt (by omega)];exact hb)) he)
  have h5:=sidx_append b.es [] t h4;simpa [sidx] using h5
 ·subst hk;exact h.seek_in t hb
 ·have hj:sidx (ients ri B sp) t < B.length:=by omega
  have hbj:B[sidx (ients ri B sp) t]?=some B[sidx (ients ri B sp) t]:=List.getElem?_eq_getElem hj;have h1:=h.seek_in t hbj;have h2:=before_succ hbj;have h3:=sidx_le (B[sidx (ients ri B sp) t]).es t;have h4:=before_mono B (show sidx (ients ri B sp) t+1≤k by omega);have h5:=h.high t hj (Nat.le_refl _);refine ⟨by omega,sidx_none (fun e he=>?_)⟩;rw [h5 e (mem_dents (b:=b) (List.mem_of_getElem? (i:=k - (sidx (ients ri B sp) t+1)) (by rw [List.getElem?_drop,show sidx (ients ri B sp) t+1+(k - (sidx (ients ri B sp) t+1))=k by omega];exact hb)) he)]
  decide
end
theorem key_vis {P:IP} (hok:P.T.ok) {s t:Option Bs} {sl:Option Addr} (hR:P.R=keyIR P.T s t sl):vis P=(P.T.l.take (match t with | none=>P.T.l.length | some t=>sidx P.T.l t)).drop (rLo P.T.l s):=by
 have hlen:=before_len hok.tab;have hil:=hok.tab.ilen;have eLo:P.R.lo=rLo (ients P.T.ri P.T.B P.T.sp) s:=by rw [hR];rfl
 have eHi:P.R.hi=rHi (ients P.T.ri P.T.B P.T.sp) P.R.lo true t:=by rw [eLo,hR];rfl
 have hlo:P.R.lo≤P.T.B.length:=by
  rw [eLo];cases s with
  | none=>exact Nat.zero_le _
  | some s=>rw [← hil];exact sidx_le _ _
 have hhi:P.R.hi≤P.T.B.length:=by
  rw [eHi];cases t with
  | none=>rw [← hil];exact Nat.le_refl _
  | some t=>simp only [rHi,if_true];omega
 have hA:∀ k b,P.T.B[k]?=some b→P.R.lo≤k→rLo P.T.l s - before P.T.B k=rLo b.es s∧rLo P.T.l s≤before P.T.B (k+1)∧(P.R.lo < k→rLo b.es s=0):=fun k b hb hk=>by
  have hs:=before_succ hb;cases s with
  | none=>exact ⟨by simp [rLo],by simp [rLo],fun _=>rfl⟩
  | some s =>
   have e:P.R.lo=sidx (ients P.T.ri P.T.B P.T.sp) s:=eLo;obtain ⟨_,p2,p3⟩:=hok.tab.place s hb;have h1:=sidx_le b.es s;rcases Nat.eq_or_lt_of_le hk with h2 | h2
   ·have:=p2 (by omega);exact ⟨by show sidx _ s - _=sidx _ s;omega,by show sidx _ s≤_;omega,fun h=>by omega⟩
   ·have:=p3 (by omega);exact ⟨by show sidx _ s - _=sidx _ s;omega,by show sidx _ s≤_;omega,fun _=>this.2⟩
 refine vis_range hok _ _ hhi ?_ (fun k b hb hk1 hk2=>?_) ?_ ?_
 ·rw [eLo];cases s with
  | none=>exact Nat.zero_le _
  | some s =>
   show before P.T.B (sidx (ients P.T.ri P.T.B P.T.sp) s)≤sidx P.T.l s
   have h1:=sidx_le (ients P.T.ri P.T.B P.T.sp) s;rcases Nat.lt_or_ge (sidx (ients P.T.ri P.T.B P.T.sp) s) P.T.B.length with h | h
   ·have:=hok.tab.seek_in s (List.getElem?_eq_getElem h);omega
   ·have h2:sidx (ients P.T.ri P.T.B P.T.sp) s=P.T.B.length:=by omega
    have:=hok.tab.seek_none s h2;rw [h2];omega
 ·obtain ⟨a1,a2,a3⟩:=hA k b hb hk1;have hs:=before_succ hb;have he:esAt P.T k=b.es:=by unfold esAt;rw [hb];rfl
  have edl:P.R.dl k=if k=P.R.lo∨k+1=P.R.hi then rLo b.es s else 0:=by rw [eHi,eLo,hR,← he];rfl
  have edh:P.R.dh k=if k=P.R.lo∨k+1=P.R.hi then rHi b.es (rLo b.es s) false t else b.es.length:=by rw [eHi,eLo,hR,← he];rfl
  have h1:P.R.dl k=rLo b.es s:=by
   rw [edl];split
   ·rfl
   ·rw [a3 (by omega)]
  have hle:rLo b.es s≤b.es.length:=by
   cases s with
   | none=>exact Nat.zero_le _
   | some s=>exact sidx_le _ _
  refine ⟨by rw [h1,a1],?_⟩;rw [h1,edh];cases t with
  | none =>
   have h2:=before_mono P.T.B (show k+1≤P.T.B.length from lt_of_some hb);have e1:(if k=P.R.lo∨k+1=P.R.hi then rHi b.es (rLo b.es s) false none else b.es.length)=b.es.length:=by split <;> rfl
   rw [e1];simp only;omega
  | some t =>
   obtain ⟨p1,p2,p3⟩:=hok.tab.place t hb;have eh:P.R.hi=min (max P.R.lo (sidx (ients P.T.ri P.T.B P.T.sp) t)+1) (ients P.T.ri P.T.B P.T.sp).length:=by rw [eHi];simp [rHi]
   have e2:rHi b.es (rLo b.es s) false (some t)=max (rLo b.es s) (sidx b.es t):=by simp [rHi]
   have h4:=sidx_le b.es t;rw [e2];simp only;rcases Nat.lt_trichotomy k (sidx (ients P.T.ri P.T.B P.T.sp) t) with h | h | h
   ·have:=p1 h;have e1:(if k=P.R.lo∨k+1=P.R.hi then max (rLo b.es s) (sidx b.es t) else b.es.length)=b.es.length:=by split <;> omega
    rw [e1];omega
   ·have:=p2 h;rw [if_pos (by omega)];omega
   ·have:=p3 h;rw [if_pos (by omega)];omega
 ·cases t with
  | none=>right;rw [eHi];show before P.T.B (ients P.T.ri P.T.B P.T.sp).length=_;rw [hil];exact hlen
  | some t =>
   have eh:P.R.hi=min (max P.R.lo (sidx (ients P.T.ri P.T.B P.T.sp) t)+1) (ients P.T.ri P.T.B P.T.sp).length:=by rw [eHi];simp [rHi]
   rcases Nat.lt_or_ge (sidx (ients P.T.ri P.T.B P.T.sp) t) P.T.B.length with h | h
   ·have h1:=hok.tab.seek_in t (List.getElem?_eq_getElem h);have h2:=before_succ (List.getElem?_eq_getElem h);have h3:=sidx_le (P.T.B[sidx (ients P.T.ri P.T.B P.T.sp) t]).es t;rcases Nat.lt_or_ge P.R.hi P.T.B.length with h5 | h5
    ·left
     have h4:=before_mono P.T.B (show sidx (ients P.T.ri P.T.B P.T.sp) t+1≤P.R.hi by omega);show sidx P.T.l t≤_
     omega
    ·right
     rw [show P.R.hi=P.T.B.length by omega];exact hlen
   ·right
    rw [show P.R.hi=P.T.B.length by omega];exact hlen
 ·cases t with
  | none=>exact Nat.le_refl _
  | some t=>exact sidx_le _ _
end
end Go.Proofs.YtmkdpjicgjhhjaaGreatDoor
