/- Part 19 of the proof of FnTableComesBack: contracts and lemmas, each under the conditions that it states. Texts: NewW, NewS, NewW2. -/
import Derived.Test.YtmkdpjicgjhhjaaGreatDoorC17
import Derived.Test.YtmkdpjicgjhhjaaGreatDoorC18
namespace Go.Proofs.YtmkdpjicgjhhjaaGreatDoor
open Go.Lib (hid)
set_option maxRecDepth 100000
set_option linter.all false
section
open Go Go.RowKit Go.Shelf
theorem mk0 (w:World):(Instr.makeSlice 29 (.int .i64 0) (.int .i64 0)).run Tryz.prog w=.ok (.slice (some ⟨w.heap.size,0,none⟩) 0 0) (w.alloc (.cells #[] 5)):=by
 obtain ⟨i,hi,hzz⟩:=Option.map_eq_some_iff.1 info5;simp only [Prod.mk.injEq] at hzz;obtain ⟨hz,hs,hb⟩:=hzz;have:=run_make (P:=Tryz.prog) w 29 5 i (.int .u8 0) un29 hi hz .i64 .i64 0 0 (by omega) (by omega) (by omega) (by omega);rw [hs,show madeCells (Value.int .u8 0).cells (Int.toNat 0*1)=#[] from Array.eq_empty_of_size_eq_zero (by rw [size_madeCells];rfl)] at this;exact this
def newC (Z:Array Value) (bb s bs:Nat) (fv:Value):Array Value:=(((((Z.setIfInBounds 0 (Value.iface 53 (Value.pointer (some ⟨bb,0,none⟩)))).setIfInBounds 2 (Value.iface 192 (Value.agg #[]))).setIfInBounds 3 fv).setIfInBounds 4 (Value.int IntKind.u64 1)).setIfInBounds 5 (Value.int IntKind.i64 ↑bs)).setIfInBounds 271 (Value.slice (some ⟨s,0,none⟩) 0 0)
theorem zc {Z:Array Value} {bb s bs:Nat} {fv v:Value} {k:Nat} (h:Z[k]?=some v) (h0:k≠0) (h2:k≠2) (h3:k≠3) (h4:k≠4) (h5:k≠5) (h6:k≠271):(newC Z bb s bs fv)[k]?=some v:=by
 unfold newC;rw [Array.getElem?_setIfInBounds_ne (Ne.symm h6),Array.getElem?_setIfInBounds_ne (Ne.symm h5),Array.getElem?_setIfInBounds_ne (Ne.symm h4),Array.getElem?_setIfInBounds_ne (Ne.symm h3),Array.getElem?_setIfInBounds_ne (Ne.symm h2),Array.getElem?_setIfInBounds_ne (Ne.symm h0)];exact h
theorem zboot {o:Nat} (h:(Tryz.zeroCells117.toList.drop o).take 64=List.replicate 64 (.int .u8 0)) (j:Nat) (hj:j < 64):Tryz.zeroCells117[o+j]?=some (.int .u8 0):=by
 have h1:((Tryz.zeroCells117.toList.drop o).take 64)[j]?=some (.int .u8 0):=by rw [h,List.getElem?_replicate,if_pos hj]
 rw [List.getElem?_take_of_lt hj,List.getElem?_drop] at h1;simpa using h1
def newC2 (Z:Array Value) (bb s b bs ri:Nat) (fv:Value):Array Value:=((((newC Z bb s bs fv).setIfInBounds 6 (.int .i64 ri)).setIfInBounds 76 (.slice (some ⟨b,241,none⟩) 30 30)).setIfInBounds 77 (.int .i64 1)).setIfInBounds 147 (.slice (some ⟨b,241,none⟩) 30 30)
theorem zsize:Tryz.zeroCells117.size=273:=by kernel_rfl
theorem newC2_size (bb s b bs ri:Nat) (fv:Value):(newC2 Tryz.zeroCells117 bb s b bs ri fv).size=273:=by simp [newC2,newC,zsize]
theorem zc2 {Z:Array Value} {bb s b bs ri:Nat} {fv v:Value} {k:Nat} (h:Z[k]?=some v) (h0:k≠0) (h2:k≠2) (h3:k≠3) (h4:k≠4) (h5:k≠5) (h6:k≠271) (h7:k≠6) (h8:k≠76) (h9:k≠77) (h10:k≠147):(newC2 Z bb s b bs ri fv)[k]?=some v:=by
 unfold newC2;rw [Array.getElem?_setIfInBounds_ne (Ne.symm h10),Array.getElem?_setIfInBounds_ne (Ne.symm h9),Array.getElem?_setIfInBounds_ne (Ne.symm h8),Array.getElem?_setIfInBounds_ne (Ne.symm h7)];exact zc h h0 h2 h3 h4 h5 h6
structure NewAt (w:World) (b bb s bs ri:Nat) (fv:Value):Prop where
 blk:Blk w b (newC2 Tryz.zeroCells117 bb s b bs ri fv) 117
 row:Blk w s #[] 5
 sb:s≠b
set_option maxHeartbeats 8000000 in
theorem newWriter0 (w:World) (bb o bs ri n:Nat) (hn:n=0) (hO:OptAt w o bs ri n) (hbs:0 < bs) (hri:0 < ri) :
  Calls Tryz.prog 18 #[.iface 53 (.pointer (some ⟨bb,0,none⟩)),.pointer (some ⟨o,0,none⟩)] w fun e w'=>e=.returned (.pointer (some ⟨w.heap.size+1,0,none⟩))∧NewAt w' (w.heap.size+1) bb w.heap.size bs ri .nilIface∧Below w.heap.size w w':=by
 have HO:=hid hO;have HN:=hid hn;clear hn;have hmk:=mk0;have hgf:∀ W,OptAt W o bs ri n→Calls Tryz.prog 36 #[.pointer (some ⟨o,0,none⟩)] W fun e w'=>e=.returned .nilIface∧w'=W:=fun W hW=>by
  have h1:=getFilter_any hW;have h2:filtV n=.nilIface:=if_pos HN.out;rwa [h2] at h1
 go_enter Tryz.func18,Tryz.ntmps18
 go_upto_region 1 with fail
 refine Pos.start (fun W:World=>OptAt W o bs ri n) 12 (by kernel_rfl) ?_;have hS:(fun W:World=>OptAt W o bs ri n) (w.drewN 1):=hO;refine Pos.toG 13 #[false,false,false,false,false,false,false,false,false,false,false,false,false] rfl (by kernel_rfl) ?_;refine' PosG.takeK (k:=0) hS rfl (by kernel_rfl) (fun _ _ _ h=>h) (by rfl) ?_ ?_;rotate_left
 ·intro W hW;obtain s1:=hW;go_simp;try with_reducible rfl
 intro K hK;go_simp;refine hK _ ?_;clear hK K;refine' PosG.takeK (k:=1) hS rfl (by kernel_rfl) (fun _ _ _ h=>h) (by rfl) ?_ ?_;rotate_left
 ·intro W hW;obtain s1:=hW;go_simp;try with_reducible rfl
 intro K hK;go_simp;refine hK _ ?_;clear hK K;refine' PosG.takeK (k:=3) hS rfl (by kernel_rfl) (fun _ _ _ h=>h) (by rfl) ?_ ?_;rotate_left
 ·intro W hW;obtain s1:=hW;go_simp;try with_reducible rfl
 intro K hK;go_simp;refine hK _ ?_;clear hK K;refine' PosG.takeK (k:=5) hS rfl (by kernel_rfl) (fun _ _ _ h=>h) (by rfl) ?_ ?_;rotate_left
 ·intro W hW;obtain s1:=hW;go_simp;try with_reducible rfl
 intro K hK;go_simp;refine hK _ ?_;clear hK K;refine' PosG.takeK (k:=7) hS rfl (by kernel_rfl) (fun _ _ _ h=>h) (by rfl) ?_ ?_;rotate_left
 ·intro W hW;obtain s1:=hW;go_simp;try with_reducible rfl
 intro K hK;go_simp;refine hK _ ?_;clear hK K;refine' PosG.call (k:=2) 35 #[.pointer (some ⟨o,0,none⟩)] hS rfl (by kernel_rfl) (fun _ _ _ h=>h) (by rfl) ?_ (fun W hW=>getComparer_any hW) ?_
 ·intro W hW;go_simp;try with_reducible rfl
 intro K hK;go_simp;refine hK _ ?_;clear hK K;refine' PosG.call (k:=4) 36 #[.pointer (some ⟨o,0,none⟩)] hS rfl (by kernel_rfl) (fun _ _ _ h=>h) (by rfl) ?_ (fun W hW=>hgf W hW) ?_
 ·intro W hW;go_simp;try with_reducible rfl
 intro K hK;go_simp;refine hK _ ?_;clear hK K;refine' PosG.call (k:=6) 37 #[.pointer (some ⟨o,0,none⟩)] hS rfl (by kernel_rfl) (fun _ _ _ h=>h) (by rfl) ?_ (fun W hW=>getCompression_any hW) ?_
 ·intro W hW;go_simp;try with_reducible rfl
 intro K hK;go_simp;refine hK _ ?_;clear hK K;refine' PosG.call (k:=8) 38 #[.pointer (some ⟨o,0,none⟩)] hS rfl (by kernel_rfl) (fun _ _ _ h=>h) (by rfl) ?_ (fun W hW=>getBlockSize_any hW hbs) ?_
 ·intro W hW;go_simp;try with_reducible rfl
 intro K hK;go_simp;refine hK _ ?_;clear hK K;refine PosG.eff (k:=9) rfl (by kernel_rfl) ?_;go_wp2
 have hO1:OptAt (w.alloc (Obj.cells #[] 5)) o bs ri n:=HO.out.keep (Below.heap_alloc w _ o (lt_of_heap HO.out));have hS1:(fun W:World=>OptAt W o bs ri n) ((w.alloc (Obj.cells #[] 5)).drewN 1):=hO1;refine ⟨hS1,?_⟩;clear hS;have hS:=hS1;refine' PosG.takeK (k:=10) hS rfl (by kernel_rfl) (fun _ _ _ h=>h) (by rfl) ?_ ?_;rotate_left
 ·intro W hW;obtain s1:=hW;go_simp;try with_reducible rfl
 intro K hK;go_simp;refine hK _ ?_;clear hK K;refine PosG.eff (k:=11) rfl (by kernel_rfl) ?_;go_wp2
 obtain ⟨CZ,hCZ⟩:∃ CZ,CZ=newC Tryz.zeroCells117 bb w.heap.size bs .nilIface:=⟨_,rfl⟩;have hW2:OptAt ((w.alloc (Obj.cells #[] 5)).alloc (Obj.cells CZ 117)) o bs ri n:=HO.out.keep ((Below.heap_alloc _ _ o (by have:=lt_of_heap HO.out;simp;omega)).trans (Below.heap_alloc w _ o (lt_of_heap HO.out)));unfold newC at hCZ;rw [← hCZ];refine ⟨hW2,?_⟩;clear hS hS1;refine PosG.tail rfl (by kernel_rfl) (by kernel_rfl) (by decide) ?_
 simp only [List.drop_succ_cons,List.drop_zero];obtain ⟨b,hb⟩:∃ b,b=w.heap.size+1:=⟨_,rfl⟩;have hB2:Blk ((w.alloc (Obj.cells #[] 5)).alloc (Obj.cells CZ 117)) b CZ 117:=by
  have:=Blk.new (w.alloc (Obj.cells #[] 5)) CZ 117;rw [hb];simpa using this
 have HB0:=hid hb;rw [← hb];obtain ⟨W2,hW2e⟩:∃ W2,W2=(w.alloc (Obj.cells #[] 5)).alloc (Obj.cells CZ 117):=⟨_,rfl⟩;have hW21:OptAt (W2.drewN 1) o bs ri n:=by rw [hW2e];exact hW2
 rw [← hW2e] at hB2 ⊢;have hgr:=getRestart_any hW21 hri;have HW2:=hid hW2e;have hz6:W2.cell? ⟨b,6,none⟩=some (.int .i64 0):=hB2.cell (by rw [hCZ];exact zc (by kernel_rfl) (by decide) (by decide) (by decide) (by decide) (by decide) (by decide));have hz76:W2.cell? ⟨b,76,none⟩=some (.slice none 0 0):=hB2.cell (by rw [hCZ];exact zc (by kernel_rfl) (by decide) (by decide) (by decide) (by decide) (by decide) (by decide))
 have hz77:W2.cell? ⟨b,77,none⟩=some (.int .i64 0):=hB2.cell (by rw [hCZ];exact zc (by kernel_rfl) (by decide) (by decide) (by decide) (by decide) (by decide) (by decide));have hz147:W2.cell? ⟨b,147,none⟩=some (.slice none 0 0):=hB2.cell (by rw [hCZ];exact zc (by kernel_rfl) (by decide) (by decide) (by decide) (by decide) (by decide) (by decide));have hz148:W2.cell? ⟨b,148,none⟩=some .nilIface:=hB2.cell (by rw [hCZ];exact zc (by kernel_rfl) (by decide) (by decide) (by decide) (by decide) (by decide) (by decide))
 have hz3:W2.cell? ⟨b,3,none⟩=some .nilIface:=hB2.cell (by rw [hCZ,Array.getElem?_setIfInBounds_ne (by decide),Array.getElem?_setIfInBounds_ne (by decide),Array.getElem?_setIfInBounds_ne (by decide),Array.getElem?_setIfInBounds_self_of_lt (by simp [zsize])]);have hf6:=hB2.free 6;have hf76:=hB2.free 76;have hf77:=hB2.free 77;have hf147:=hB2.free 147;have hf148:=hB2.free 148;have HB2:=hid hB2;have HCZ:=hid hCZ
 clear hCZ hW2e hb hB2 hW2 hW21;go_wp2_with fail
 refine hgr.mono ?_;rintro e w3 ⟨rfl,hw3⟩;rw [hw3];clear hw3 hgr w3;dsimp only;go_wp2
 go_ret
 have hb:b=w.heap.size+1:=HB0.out;refine ⟨by rw [hb];rfl,?_,?_⟩
 ·have h1:=(((HB2.out.set 6 (.int .i64 ri)).set 76 (.slice (some ⟨b,241,none⟩) 30 30)).set 77 (.int .i64 1)).set 147 (.slice (some ⟨b,241,none⟩) 30 30);have hr:Blk W2 w.heap.size #[] 5:=by
   rw [HW2.out];exact (Blk.new w #[] 5).alloc _
  have hsb:w.heap.size≠b:=by omega
  rw [← hb];refine ⟨?_,?_,hsb⟩
  ·rw [HCZ.out] at h1;exact h1
  ·exact (Below.heap_setCell _ _ _ _ (by simpa using hsb)).trans ((Below.heap_setCell _ _ _ _ (by simpa using hsb)).trans ((Below.heap_setCell _ _ _ _ (by simpa using hsb)).trans ((Below.heap_setCell _ _ _ _ (by simpa using hsb)).trans hr)))
 ·have hbW:Below w.heap.size w W2:=by
   rw [HW2.out];exact ((Below.refl w.heap.size w).alloc (Nat.le_refl _) _).alloc (by simp) _
  have hk:∀ k,k < w.heap.size→k≠b:=fun k hk=>by omega
  exact ⟨hbW.os,hbW.tape,hbW.output,by simpa using hbW.size,fun k hk'=>(Below.heap_setCell _ _ _ _ (by simpa using hk k hk')).trans ((Below.heap_setCell _ _ _ _ (by simpa using hk k hk')).trans ((Below.heap_setCell _ _ _ _ (by simpa using hk k hk')).trans ((Below.heap_setCell _ _ _ _ (by simpa using hk k hk')).trans (hbW.block k hk'))))⟩
end
section
open Go Go.RowKit Go.Shelf
structure NC (C:Array Value) (bb s b bs ri:Nat) (fv:Value):Prop where
 size:C.size=273
 cell:∀ k,k < 148∨217≤k→C[k]?=(newC2 Tryz.zeroCells117 bb s b bs ri fv)[k]?
section
variable {C:Array Value} {bb s b bs ri:Nat} {fv:Value} {w:World}
theorem NC.z (h:NC C bb s b bs ri fv) {k:Nat} {v:Value} (hz:Tryz.zeroCells117[k]?=some v) (h0:k≠0) (h2:k≠2) (h3:k≠3) (h4:k≠4) (h5:k≠5) (h6:k≠271) (h7:k≠6) (h8:k≠76) (h9:k≠77) (h10:k≠147) (h11:k < 148∨217≤k):C[k]?=some v :=
 (h.cell k h11).trans (zc2 hz h0 h2 h3 h4 h5 h6 h7 h8 h9 h10)
theorem NC.ub (h:NC C bb s b bs ri fv) (hB:Blk w b C 117) {o:Nat} (ho:o=7∨o=78):UB w b C 117 o none []:=by
 have hs:=h.size;rcases ho with rfl | rfl
 ·refine ⟨hB,by omega,fun j hj=>⟨0,?_⟩,h.z (by kernel_rfl) (by decide) (by decide) (by decide) (by decide) (by decide) (by decide) (by decide) (by decide) (by decide) (by decide) (by decide),.slice none 0 0,h.z (by kernel_rfl) (by decide) (by decide) (by decide) (by decide) (by decide) (by decide) (by decide) (by decide) (by decide) (by decide) (by decide),.inl ⟨rfl,rfl,rfl⟩⟩;exact h.z (zboot (o:=9) (by kernel_rfl) j hj) (by omega) (by omega) (by omega) (by omega) (by omega) (by omega) (by omega) (by omega) (by omega) (by omega) (by omega)
 ·refine ⟨hB,by omega,fun j hj=>⟨0,?_⟩,h.z (by kernel_rfl) (by decide) (by decide) (by decide) (by decide) (by decide) (by decide) (by decide) (by decide) (by decide) (by decide) (by decide),.slice none 0 0,h.z (by kernel_rfl) (by decide) (by decide) (by decide) (by decide) (by decide) (by decide) (by decide) (by decide) (by decide) (by decide) (by decide),.inl ⟨rfl,rfl,rfl⟩⟩;exact h.z (zboot (o:=80) (by kernel_rfl) j hj) (by omega) (by omega) (by omega) (by omega) (by omega) (by omega) (by omega) (by omega) (by omega) (by omega) (by omega)
def noOwn:Own:=⟨none,none,none⟩
theorem noOwn_has (k:Nat):¬ noOwn.has k:=by rintro (h | h | h) <;> cases h
theorem noOwn_dis (b:Nat):noOwn.dis b:=⟨fun _ h=>(nomatch h),fun _ h=>(nomatch h),fun _ h=>(nomatch h),fun _ h=>(nomatch h),fun _ h=>(nomatch h),fun _ h=>(nomatch h)⟩
theorem own_nil (w:World) (e:Nat):w.ownsRow 0 e 1 (.slice none 0 0) 0 []:=World.ownsRow_nil w 0 e 1
theorem NC.set6 (h:NC C bb s b bs ri fv):C[6]?=some (.int .i64 ri)∧C[76]?=some (.slice (some ⟨b,241,none⟩) 30 30)∧C[77]?=some (.int .i64 1)∧C[147]?=some (.slice (some ⟨b,241,none⟩) 30 30)∧C[0]?=some (.iface 53 (.pointer (some ⟨bb,0,none⟩)))∧C[2]?=some (.iface 192 (.agg #[]))∧C[3]?=some fv∧C[4]?=some (.int .u64 1)∧C[5]?=some (.int .i64 bs)∧C[271]?=some (.slice (some ⟨s,0,none⟩) 0 0):=by
 refine ⟨?_,?_,?_,?_,?_,?_,?_,?_,?_,?_⟩ <;> rw [h.cell _ (by decide)] <;> unfold newC2 newC <;> simp [Array.getElem?_setIfInBounds,zsize]
theorem NC.bw (h:NC C bb s b bs ri fv) (hB:Blk w b C 117):BW w b C 117 6 241 noOwn (BWS.new ri [])∧BW w b C 117 77 241 noOwn (BWS.new 1 []):=by
 obtain ⟨h1,h2,h3,h4,_⟩:=h.set6;have hs:=h.size;exact ⟨⟨h.ub hB (.inl rfl),by omega,h1,h.z (by kernel_rfl) (by decide) (by decide) (by decide) (by decide) (by decide) (by decide) (by decide) (by decide) (by decide) (by decide) (by decide),⟨.slice none 0 0,h.z (by kernel_rfl) (by decide) (by decide) (by decide) (by decide) (by decide) (by decide) (by decide) (by decide) (by decide) (by decide) (by decide),own_nil w 5,rfl⟩,⟨.slice none 0 0,h.z (by kernel_rfl) (by decide) (by decide) (by decide) (by decide) (by decide) (by decide) (by decide) (by decide) (by decide) (by decide) (by decide),own_nil w 201,rfl⟩,h2,by omega,.inr (by omega),noOwn_dis b⟩,
  ⟨h.ub hB (.inr rfl),by omega,h3,h.z (by kernel_rfl) (by decide) (by decide) (by decide) (by decide) (by decide) (by decide) (by decide) (by decide) (by decide) (by decide) (by decide),⟨.slice none 0 0,h.z (by kernel_rfl) (by decide) (by decide) (by decide) (by decide) (by decide) (by decide) (by decide) (by decide) (by decide) (by decide) (by decide),own_nil w 5,rfl⟩,⟨.slice none 0 0,h.z (by kernel_rfl) (by decide) (by decide) (by decide) (by decide) (by decide) (by decide) (by decide) (by decide) (by decide) (by decide) (by decide),own_nil w 201,rfl⟩,h4,by omega,.inr (by omega),noOwn_dis b⟩⟩
def newWS (ri n:Nat):WS:={ file:=[],data:=BWS.new ri [],index:=BWS.new 1 [],filt:=if n=0 then none else some ⟨[],[]⟩,po:=0,pl:=0,ent:=0 }
theorem NC.ww (h:NC C bb s b bs ri fv) (hB:Blk w b C 117) (hR:Blk w s #[] 5) (hsb:s≠b) (hBB:BB w bb [] (.slice none 0 0)) (hbb:bb≠b) (hbs:bb≠s) {base:Nat} (h1:base≤b) (h2:base≤s) (h3:base≤bb) {n:Nat} {OF:FOwn} {ft:Option FS} (hF:FiltIn w b C n OF ft) (hFo:∀ k,FiltHas OF ft k→k≠b∧k≠bb∧k≠s∧base≤k) :
  WIn base w b bb bs n { newWS ri n with filt:=ft }:=by
 obtain ⟨_,_,_,_,c0,c2,c3,c4,c5,c271⟩:=h.set6;have hbw:=h.bw hB;refine ⟨fun k=>if k=b then 7 else if k=bb then 5 else if k=s then 4 else if base≤k then 3 else 0,C,noOwn,noOwn,OF,⟨hbw.1,hbw.2,hF,h.size,c0,h.z (by kernel_rfl) (by decide) (by decide) (by decide) (by decide) (by decide) (by decide) (by decide) (by decide) (by decide) (by decide) (by decide),c2,c4,c5,h.z (by kernel_rfl) (by decide) (by decide) (by decide) (by decide) (by decide) (by decide) (by decide) (by decide) (by decide) (by decide) (by decide),h.z (by kernel_rfl) (by decide) (by decide) (by decide) (by decide) (by decide) (by decide) (by decide) (by decide) (by decide) (by decide) (by decide),h.z (by kernel_rfl) (by decide) (by decide) (by decide) (by decide) (by decide) (by decide) (by decide) (by decide) (by decide) (by decide) (by decide),h.z (by kernel_rfl) (by decide) (by decide) (by decide) (by decide) (by decide) (by decide) (by decide) (by decide) (by decide) (by decide) (by decide),
  ⟨.slice (some ⟨s,0,none⟩) 0 0,0,[],c271,⟨rfl,.inr ⟨s,0,#[],rfl,Nat.zero_le _,hR,Nat.le_refl _,by decide,rfl,rfl⟩⟩,fun k hk=>?_⟩,⟨.slice none 0 0,hBB,fun _=>rfl,fun k hk=>by cases hk⟩,if_pos rfl,?_,fun k hk=>absurd hk (noOwn_has k),fun k hk=>absurd hk (noOwn_has k),fun k hk=>?_,fun k hk=>?_⟩⟩
 ·have:k=s:=by
   have h1:some s=some k:=hk;exact (Option.some.inj h1).symm
  subst this;rw [if_neg hsb,if_neg (Ne.symm hbs),if_pos rfl]
 ·rw [if_neg hbb,if_pos rfl]
 ·obtain ⟨q1,q2,q3,q4⟩:=hFo k hk;rw [if_neg q1,if_neg q2,if_neg q3,if_pos q4]
 ·by_cases e1:k=b
  ·omega
  ·by_cases e2:k=bb
   ·omega
   ·by_cases e3:k=s
    ·omega
    ·rw [if_neg e1,if_neg e2,if_neg e3] at hk;by_cases e4:base≤k
     ·exact e4
     ·rw [if_neg e4] at hk;exact absurd rfl hk
theorem newC2_nc (bb s b bs ri:Nat) (fv gv:Value):NC ((newC2 Tryz.zeroCells117 bb s b bs ri fv).setIfInBounds 148 gv) bb s b bs ri fv :=
 ⟨by simp [newC2_size],fun k hk=>Array.getElem?_setIfInBounds_ne (by omega)⟩
theorem newC2_self (bb s b bs ri:Nat) (fv:Value):NC (newC2 Tryz.zeroCells117 bb s b bs ri fv) bb s b bs ri fv:=⟨newC2_size _ _ _ _ _ _,fun _ _=>rfl⟩
theorem newC2_fb (bb s b bs ri g n:Nat) (fv:Value) (w:World) (hB:Blk w b ((newC2 Tryz.zeroCells117 bb s b bs ri fv).setIfInBounds 148 (.iface 291 (.pointer (some ⟨g,0,none⟩)))) 117) (hG:Blk w g #[.int .i64 n,.int .u8 (bk n),.slice none 0 0] 293) (hgb:g≠b) :
  FB w b ((newC2 Tryz.zeroCells117 bb s b bs ri fv).setIfInBounds 148 (.iface 291 (.pointer (some ⟨g,0,none⟩)))) 117 148 n ⟨none,none,g,none⟩ (FS.raw ⟨[],[]⟩):=by
 have hz:∀ {k:Nat} {v:Value},Tryz.zeroCells117[k]?=some v→148 < k→k < 217→((newC2 Tryz.zeroCells117 bb s b bs ri fv).setIfInBounds 148 (.iface 291 (.pointer (some ⟨g,0,none⟩))))[k]?=some v:=fun hv h1 h2 =>
  (Array.getElem?_setIfInBounds_ne (by omega)).trans (zc2 hv (by omega) (by omega) (by omega) (by omega) (by omega) (by omega) (by omega) (by omega) (by omega) (by omega))
 have hs:((newC2 Tryz.zeroCells117 bb s b bs ri fv).setIfInBounds 148 (.iface 291 (.pointer (some ⟨g,0,none⟩)))).size=273:=by simp [newC2_size]
 refine ⟨⟨hB,by omega,fun j hj=>⟨0,hz (zboot (o:=151) (by kernel_rfl) j hj) (by omega) (by omega)⟩,hz (k:=150) (by kernel_rfl) (by decide) (by decide),.slice none 0 0,hz (k:=149) (by kernel_rfl) (by decide) (by decide),.inl ⟨rfl,rfl,rfl⟩⟩,by omega,Array.getElem?_setIfInBounds_self_of_lt (by rw [newC2_size];decide),hz (k:=215) (by kernel_rfl) (by decide) (by decide),
  ⟨.slice none 0 0,hz (k:=216) (by kernel_rfl) (by decide) (by decide),own_nil w 201,rfl⟩,⟨.slice none 0 0,⟨hG,own_nil w 201,by simp [Value.ownBlock]⟩,rfl⟩,⟨hgb,by simp,by simp,by simp,by simp,by simp,fun _ h=>(nomatch h),fun _ h=>(nomatch h),fun _ h=>(nomatch h)⟩⟩
end
end
section
open Go Go.RowKit Go.Shelf
set_option maxHeartbeats 8000000 in
theorem newWriter1 (w:World) (bb o bs ri n:Nat) (hn:1≤n∧n≤20) (base:Nat) (hbase1:base≤bb) (hbase2:base≤w.heap.size) (hBB0:BB w bb [] (.slice none 0 0)∧bb < w.heap.size) (hO:OptAt w o bs ri n) (hbs:0 < bs) (hri:0 < ri) :
  Calls Tryz.prog 18 #[.iface 53 (.pointer (some ⟨bb,0,none⟩)),.pointer (some ⟨o,0,none⟩)] w fun e w'=>e=.returned (.pointer (some ⟨w.heap.size+1,0,none⟩))∧WIn base w' (w.heap.size+1) bb bs n (newWS ri n)∧Below base w w':=by
 have HO:=hid hO;have HN:=hid hn;have HBB:=hid hBB0;clear hBB0;clear hn;have hmk:=mk0;have hgf:∀ W,OptAt W o bs ri n→Calls Tryz.prog 36 #[.pointer (some ⟨o,0,none⟩)] W fun e w'=>e=.returned (.iface 194 (.int .i64 n))∧w'=W:=fun W hW=>by
  have h1:=getFilter_any hW;have h2:filtV n=(.iface 194 (.int .i64 n)):=if_neg (by have:=HN.out;omega);rwa [h2] at h1
 go_enter Tryz.func18,Tryz.ntmps18
 go_upto_region 1 with fail
 refine Pos.start (fun W:World=>OptAt W o bs ri n) 12 (by kernel_rfl) ?_;have hS:(fun W:World=>OptAt W o bs ri n) (w.drewN 1):=hO;refine Pos.toG 13 #[false,false,false,false,false,false,false,false,false,false,false,false,false] rfl (by kernel_rfl) ?_;refine' PosG.takeK (k:=0) hS rfl (by kernel_rfl) (fun _ _ _ h=>h) (by rfl) ?_ ?_;rotate_left
 ·intro W hW;obtain s1:=hW;go_simp;try with_reducible rfl
 intro K hK;go_simp;refine hK _ ?_;clear hK K;refine' PosG.takeK (k:=1) hS rfl (by kernel_rfl) (fun _ _ _ h=>h) (by rfl) ?_ ?_;rotate_left
 ·intro W hW;obtain s1:=hW;go_simp;try with_reducible rfl
 intro K hK;go_simp;refine hK _ ?_;clear hK K;refine' PosG.takeK (k:=3) hS rfl (by kernel_rfl) (fun _ _ _ h=>h) (by rfl) ?_ ?_;rotate_left
 ·intro W hW;obtain s1:=hW;go_simp;try with_reducible rfl
 intro K hK;go_simp;refine hK _ ?_;clear hK K;refine' PosG.takeK (k:=5) hS rfl (by kernel_rfl) (fun _ _ _ h=>h) (by rfl) ?_ ?_;rotate_left
 ·intro W hW;obtain s1:=hW;go_simp;try with_reducible rfl
 intro K hK;go_simp;refine hK _ ?_;clear hK K;refine' PosG.takeK (k:=7) hS rfl (by kernel_rfl) (fun _ _ _ h=>h) (by rfl) ?_ ?_;rotate_left
 ·intro W hW;obtain s1:=hW;go_simp;try with_reducible rfl
 intro K hK;go_simp;refine hK _ ?_;clear hK K;refine' PosG.call (k:=2) 35 #[.pointer (some ⟨o,0,none⟩)] hS rfl (by kernel_rfl) (fun _ _ _ h=>h) (by rfl) ?_ (fun W hW=>getComparer_any hW) ?_
 ·intro W hW;go_simp;try with_reducible rfl
 intro K hK;go_simp;refine hK _ ?_;clear hK K;refine' PosG.call (k:=4) 36 #[.pointer (some ⟨o,0,none⟩)] hS rfl (by kernel_rfl) (fun _ _ _ h=>h) (by rfl) ?_ (fun W hW=>hgf W hW) ?_
 ·intro W hW;go_simp;try with_reducible rfl
 intro K hK;go_simp;refine hK _ ?_;clear hK K;refine' PosG.call (k:=6) 37 #[.pointer (some ⟨o,0,none⟩)] hS rfl (by kernel_rfl) (fun _ _ _ h=>h) (by rfl) ?_ (fun W hW=>getCompression_any hW) ?_
 ·intro W hW;go_simp;try with_reducible rfl
 intro K hK;go_simp;refine hK _ ?_;clear hK K;refine' PosG.call (k:=8) 38 #[.pointer (some ⟨o,0,none⟩)] hS rfl (by kernel_rfl) (fun _ _ _ h=>h) (by rfl) ?_ (fun W hW=>getBlockSize_any hW hbs) ?_
 ·intro W hW;go_simp;try with_reducible rfl
 intro K hK;go_simp;refine hK _ ?_;clear hK K;refine PosG.eff (k:=9) rfl (by kernel_rfl) ?_;go_wp2
 have hO1:OptAt (w.alloc (Obj.cells #[] 5)) o bs ri n:=HO.out.keep (Below.heap_alloc w _ o (lt_of_heap HO.out));have hS1:(fun W:World=>OptAt W o bs ri n) ((w.alloc (Obj.cells #[] 5)).drewN 1):=hO1;refine ⟨hS1,?_⟩;clear hS;have hS:=hS1;refine' PosG.takeK (k:=10) hS rfl (by kernel_rfl) (fun _ _ _ h=>h) (by rfl) ?_ ?_;rotate_left
 ·intro W hW;obtain s1:=hW;go_simp;try with_reducible rfl
 intro K hK;go_simp;refine hK _ ?_;clear hK K;refine PosG.eff (k:=11) rfl (by kernel_rfl) ?_;go_wp2
 obtain ⟨CZ,hCZ⟩:∃ CZ,CZ=newC Tryz.zeroCells117 bb w.heap.size bs (.iface 194 (.int .i64 n)):=⟨_,rfl⟩;have hW2:OptAt ((w.alloc (Obj.cells #[] 5)).alloc (Obj.cells CZ 117)) o bs ri n:=HO.out.keep ((Below.heap_alloc _ _ o (by have:=lt_of_heap HO.out;simp;omega)).trans (Below.heap_alloc w _ o (lt_of_heap HO.out)));unfold newC at hCZ;rw [← hCZ];refine ⟨hW2,?_⟩;clear hS hS1;refine PosG.tail rfl (by kernel_rfl) (by kernel_rfl) (by decide) ?_
 simp only [List.drop_succ_cons,List.drop_zero];obtain ⟨b,hb⟩:∃ b,b=w.heap.size+1:=⟨_,rfl⟩;have hB2:Blk ((w.alloc (Obj.cells #[] 5)).alloc (Obj.cells CZ 117)) b CZ 117:=by
  have:=Blk.new (w.alloc (Obj.cells #[] 5)) CZ 117;rw [hb];simpa using this
 have HB0:=hid hb;rw [← hb];obtain ⟨W2,hW2e⟩:∃ W2,W2=(w.alloc (Obj.cells #[] 5)).alloc (Obj.cells CZ 117):=⟨_,rfl⟩;have hW21:OptAt (W2.drewN 1) o bs ri n:=by rw [hW2e];exact hW2
 rw [← hW2e] at hB2 ⊢;have hgr:=getRestart_any hW21 hri;have HW2:=hid hW2e;have hz6:W2.cell? ⟨b,6,none⟩=some (.int .i64 0):=hB2.cell (by rw [hCZ];exact zc (by kernel_rfl) (by decide) (by decide) (by decide) (by decide) (by decide) (by decide));have hz76:W2.cell? ⟨b,76,none⟩=some (.slice none 0 0):=hB2.cell (by rw [hCZ];exact zc (by kernel_rfl) (by decide) (by decide) (by decide) (by decide) (by decide) (by decide))
 have hz77:W2.cell? ⟨b,77,none⟩=some (.int .i64 0):=hB2.cell (by rw [hCZ];exact zc (by kernel_rfl) (by decide) (by decide) (by decide) (by decide) (by decide) (by decide));have hz147:W2.cell? ⟨b,147,none⟩=some (.slice none 0 0):=hB2.cell (by rw [hCZ];exact zc (by kernel_rfl) (by decide) (by decide) (by decide) (by decide) (by decide) (by decide));have hz148:W2.cell? ⟨b,148,none⟩=some .nilIface:=hB2.cell (by rw [hCZ];exact zc (by kernel_rfl) (by decide) (by decide) (by decide) (by decide) (by decide) (by decide))
 have hz3:W2.cell? ⟨b,3,none⟩=some (.iface 194 (.int .i64 n)):=hB2.cell (by rw [hCZ,Array.getElem?_setIfInBounds_ne (by decide),Array.getElem?_setIfInBounds_ne (by decide),Array.getElem?_setIfInBounds_ne (by decide),Array.getElem?_setIfInBounds_self_of_lt (by simp [zsize])]);have hf6:=hB2.free 6;have hf76:=hB2.free 76;have hf77:=hB2.free 77;have hf147:=hB2.free 147;have hf148:=hB2.free 148;have HB2:=hid hB2
 have HCZ:=hid hCZ;clear hCZ hW2e hb hB2 hW2 hW21;go_wp2_with fail
 refine hgr.mono ?_;rintro e w3 ⟨rfl,hw3⟩;rw [hw3];clear hw3 hgr w3;dsimp only;go_wp2_with fail
 refine (newgen_any n _ (by have:=HN.out;omega) (by have:=HN.out;omega)).mono ?_;rintro e w4 ⟨rfl,hw4⟩;have hb:b=w.heap.size+1:=HB0.out;have hw2s:W2.heap.size=w.heap.size+2:=by rw [HW2.out];simp
 have hbf:Blk ((((W2.setCell ⟨b,6,none⟩ (.int .i64 ri)).setCell ⟨b,76,none⟩ (.slice (some ⟨b,241,none⟩) 30 30)).setCell ⟨b,77,none⟩ (.int .i64 1)).setCell ⟨b,147,none⟩ (.slice (some ⟨b,241,none⟩) 30 30)) b (newC2 Tryz.zeroCells117 bb w.heap.size b bs ri (.iface 194 (.int .i64 n))) 117:=by
  have h1:=(((HB2.out.set 6 (.int .i64 ri)).set 76 (.slice (some ⟨b,241,none⟩) 30 30)).set 77 (.int .i64 1)).set 147 (.slice (some ⟨b,241,none⟩) 30 30);rw [HCZ.out] at h1;exact h1
 obtain ⟨W3,hW3⟩:∃ W3,W3=(((W2.setCell ⟨b,6,none⟩ (.int .i64 ri)).setCell ⟨b,76,none⟩ (.slice (some ⟨b,241,none⟩) 30 30)).setCell ⟨b,77,none⟩ (.int .i64 1)).setCell ⟨b,147,none⟩ (.slice (some ⟨b,241,none⟩) 30 30):=⟨_,rfl⟩;rw [← hW3] at hbf hw4 ⊢;have h3s:W3.heap.size=w.heap.size+2:=by rw [hW3];simpa using hw2s
 have hk3:∀ k,k < w.heap.size→W3.heap[k]?=w.heap[k]?:=fun k hk'=>by
  have hkb:k≠b:=by omega
  rw [hW3];refine (Below.heap_setCell _ _ _ _ (by simpa using hkb)).trans ((Below.heap_setCell _ _ _ _ (by simpa using hkb)).trans ((Below.heap_setCell _ _ _ _ (by simpa using hkb)).trans ((Below.heap_setCell _ _ _ _ (by simpa using hkb)).trans ?_)));rw [HW2.out];exact (Below.heap_alloc _ _ k (by simp;omega)).trans (Below.heap_alloc w _ k hk')
 have hr3:Blk W3 w.heap.size #[] 5:=by
  have hsb:w.heap.size≠b:=by omega
  have hr:Blk W2 w.heap.size #[] 5:=by
   rw [HW2.out];exact (Blk.new w #[] 5).alloc _
  rw [hW3];exact (Below.heap_setCell _ _ _ _ (by simpa using hsb)).trans ((Below.heap_setCell _ _ _ _ (by simpa using hsb)).trans ((Below.heap_setCell _ _ _ _ (by simpa using hsb)).trans ((Below.heap_setCell _ _ _ _ (by simpa using hsb)).trans hr)))
 have hos3:W3.os=w.os∧W3.tape=w.tape∧W3.output=w.output:=by rw [hW3];exact ⟨by rw [show (((W2.setCell ⟨b,6,none⟩ (.int .i64 ri)).setCell ⟨b,76,none⟩ (.slice (some ⟨b,241,none⟩) 30 30)).setCell ⟨b,77,none⟩ (.int .i64 1)).setCell ⟨b,147,none⟩ (.slice (some ⟨b,241,none⟩) 30 30)=(((W2.setCell ⟨b,6,none⟩ (.int .i64 ri)).setCell ⟨b,76,none⟩ (.slice (some ⟨b,241,none⟩) 30 30)).setCell ⟨b,77,none⟩ (.int .i64 1)).setCell ⟨b,147,none⟩ (.slice (some ⟨b,241,none⟩) 30 30) from rfl,HW2.out];rfl,by rw [HW2.out];rfl,by rw [HW2.out];rfl⟩
 obtain ⟨w5,hw5⟩:∃ w5,w5=w4.setCell ⟨b,148,none⟩ (.iface 291 (.pointer (some ⟨w.heap.size+2,0,none⟩))):=⟨_,rfl⟩;have hgW:Blk w4 (w.heap.size+2) #[.int .i64 n,.int .u8 (bk n),.slice none 0 0] 293:=by
  rw [hw4];have:=Blk.new (W3.drewN 1) #[.int .i64 n,.int .u8 (bk n),.slice none 0 0] 293;rw [show (W3.drewN 1).heap.size=w.heap.size+2 from h3s] at this;exact this
 have hb4:Blk w4 b (newC2 Tryz.zeroCells117 bb w.heap.size b bs ri (.iface 194 (.int .i64 n))) 117:=by
  rw [hw4];exact (Below.heap_alloc (W3.drewN 1) _ b hbf.lt).trans hbf
 have hgb:w.heap.size+2≠b:=by omega
 have hb5:Blk w5 b ((newC2 Tryz.zeroCells117 bb w.heap.size b bs ri (.iface 194 (.int .i64 n))).setIfInBounds 148 (.iface 291 (.pointer (some ⟨w.heap.size+2,0,none⟩)))) 117:=by rw [hw5];exact hb4.set 148 _
 have hg5:Blk w5 (w.heap.size+2) #[.int .i64 n,.int .u8 (bk n),.slice none 0 0] 293:=by rw [hw5];exact hgW.other _ hgb
 have hfb:=newC2_fb bb w.heap.size b bs ri (w.heap.size+2) n (.iface 194 (.int .i64 n)) w5 hb5 hg5 hgb;have hfl:=fflush_any w5 b 148 n _ 117 ⟨none,none,w.heap.size+2,none⟩ ⟨[],[]⟩ hfb ⟨fun c hc=>(by simp at hc),fun h hh=>(by simp at hh)⟩ (by have:=HN.out;omega) 0 (by omega) (by omega) (by simp) (by unfold ktot FS.ks;simp);have hz148':w4.cell? ⟨b,148,none⟩=some .nilIface:=hb4.cell (zc2 (by kernel_rfl) (by decide) (by decide) (by decide) (by decide) (by decide) (by decide) (by decide) (by decide) (by decide) (by decide))
 have hf148':=hb4.free 148;have hlow5:∀ k,k < w.heap.size→w5.heap[k]?=w.heap[k]?:=fun k hk'=>by
  rw [hw5,hw4];exact (Below.heap_setCell _ _ _ _ (by simp;omega)).trans ((Below.heap_alloc (W3.drewN 1) _ k (by show k < W3.heap.size;omega)).trans (hk3 k hk'))
 have hr5:Blk w5 w.heap.size #[] 5:=by
  rw [hw5,hw4];exact (Below.heap_setCell _ _ _ _ (by simp;omega)).trans ((Below.heap_alloc (W3.drewN 1) _ _ (by show w.heap.size < W3.heap.size;omega)).trans hr3)
 have hs5:w5.heap.size=w.heap.size+3:=by rw [hw5,hw4];simp;omega
 have hos5:w5.os=w.os∧w5.tape=w.tape∧w5.output=w.output:=by rw [hw5,hw4];exact hos3
 have HL5:=hid hlow5;have HR5:=hid hr5;have HS5:=hid hs5;have HO5:=hid hos5;have HGB:=hid hgb;have hgen:(W3.drewN 1).heap.size=w.heap.size+2:=h3s;rw [hgen];clear hb4 hgW hb5 hg5 hfb hbf hk3 hr3 hos3 hw2s hW3 hw4 h3s hgen hlow5 hr5 hs5 hos5 hgb hb;dsimp only;go_wp2_with fail
 rw [← hw5];clear hw5;refine hfl.mono ?_;rintro e w6 ⟨rfl,fs',hto,hok,hks⟩;have HTO:=hid hto;have HOK:=hid hok;have HKS:=hid hks;clear hfl hto hok hks;dsimp only;go_wp2
 go_ret
 have hb:b=w.heap.size+1:=HB0.out;obtain ⟨C6,O6,hF6,hs6,hC6,hf6',hO6⟩:=HTO.out;have hC6':NC C6 bb w.heap.size b bs ri (.iface 194 (.int .i64 n)):=by
  have h0:=newC2_nc bb w.heap.size b bs ri (.iface 194 (.int .i64 n)) (.iface 291 (.pointer (some ⟨w.heap.size+2,0,none⟩)));exact ⟨hs6.trans h0.size,fun k hk=>(hC6 k (by omega)).trans (h0.cell k hk)⟩
 have hS5:=HS5.out;have hlow6:∀ k,k < w.heap.size+1→w6.heap[k]?=w5.heap[k]?:=fun k hk=>hf6'.block k (by omega) (by
  rintro (h | h)
  ·omega
  ·rcases h with h | h | h | h
   ·cases h
   ·cases h
   ·have h:w.heap.size+2=k:=h;omega
   ·cases h)
 have hsz6:=hf6'.size;have hBB6:BB w6 bb [] (.slice none 0 0):=HBB.out.1.keep ((hlow6 bb (by have:=HBB.out.2;omega)).trans (HL5.out bb HBB.out.2)) (fun k h=>by cases h);have hfs:fs'=⟨[],[]⟩:=by
  have h1:=HKS.out;have h2:fs'.ks=([],[]):=by rw [h1];simp [kflush,kit,FS.ks]
  unfold FS.ks at h2;simp only [Prod.mk.injEq,List.map_eq_nil_iff] at h2;cases fs'
  simp only at h2;obtain ⟨rfl,rfl⟩:=h2;rfl
 have hwin:=hC6'.ww (n:=n) (OF:=O6) (ft:=some fs') hF6.ub.blk ((hlow6 w.heap.size (by omega)).trans HR5.out) (by omega) hBB6 (by have:=HBB.out.2;omega) (by have:=HBB.out.2;omega) (base:=base) (by omega) (by omega) hbase1 ⟨hF6,hC6'.set6.2.2.2.2.2.2.1⟩ (fun k hk=>by
  rcases hO6 k hk with h | h
  ·rcases h with h | h | h | h
   ·cases h
   ·cases h
   ·have h:w.heap.size+2=k:=h;have:=HBB.out.2;exact ⟨by omega,by omega,by omega,by omega⟩
   ·cases h
  ·have:=HBB.out.2;exact ⟨by omega,by omega,by omega,by omega⟩)
 rw [hfs] at hwin;have hns:{ newWS ri n with filt:=some ⟨[],[]⟩ }=newWS ri n:=by
  unfold newWS;rw [if_neg (by have:=HN.out;omega)]
 rw [hns] at hwin;refine ⟨by rw [hb];rfl,by rw [← hb];exact hwin,(hf6'.os.trans HO5.out.1),(hf6'.tape.trans HO5.out.2.1),(hf6'.output.trans HO5.out.2.2),by omega,fun k hk=>(hlow6 k (by omega)).trans (HL5.out k (by omega))⟩
theorem newWriter_any (w:World) (base bb o bs ri n:Nat) (hO:OptAt w o bs ri n) (hbs:0 < bs) (hri:0 < ri) (hn:n≤20) (hbase1:base≤bb) (hbase2:base≤w.heap.size) (hBB:BB w bb [] (.slice none 0 0)) (hbl:bb < w.heap.size) :
  Calls Tryz.prog 18 #[.iface 53 (.pointer (some ⟨bb,0,none⟩)),.pointer (some ⟨o,0,none⟩)] w fun e w'=>e=.returned (.pointer (some ⟨w.heap.size+1,0,none⟩))∧WIn base w' (w.heap.size+1) bb bs n (newWS ri n)∧Below base w w':=by
 rcases Nat.eq_zero_or_pos n with h0 | h0
 ·refine (newWriter0 w bb o bs ri n h0 hO hbs hri).mono ?_;rintro e w' ⟨rfl,⟨h1,h2,h3⟩,h4⟩;have hnc:=newC2_self bb w.heap.size (w.heap.size+1) bs ri .nilIface;have hz:∀ {k:Nat} {v:Value},Tryz.zeroCells117[k]?=some v→147 < k→k < 217→(newC2 Tryz.zeroCells117 bb w.heap.size (w.heap.size+1) bs ri .nilIface)[k]?=some v:=fun hv q1 q2 =>
   zc2 hv (by omega) (by omega) (by omega) (by omega) (by omega) (by omega) (by omega) (by omega) (by omega) (by omega)
  have hBB':BB w' bb [] (.slice none 0 0):=hBB.keep (h4.block bb hbl) (fun k h=>by cases h);have hwin:=hnc.ww (n:=n) (OF:=⟨none,none,0,none⟩) (ft:=none) h1 h2 h3 hBB' (by omega) (by omega) (base:=base) (by omega) hbase2 hbase1 ⟨hz (k:=148) (by kernel_rfl) (by decide) (by decide),hz (k:=149) (by kernel_rfl) (by decide) (by decide),hz (k:=150) (by kernel_rfl) (by decide) (by decide),hnc.set6.2.2.2.2.2.2.1⟩ (fun k hk=>hk.elim)
  have hns:{ newWS ri n with filt:=none }=newWS ri n:=by
   unfold newWS;rw [if_pos h0]
  rw [hns] at hwin;exact ⟨rfl,hwin,h4.mono hbase2⟩
 ·exact newWriter1 w bb o bs ri n ⟨h0,hn⟩ base hbase1 hbase2 ⟨hBB,hbl⟩ hO hbs hri
end
end Go.Proofs.YtmkdpjicgjhhjaaGreatDoor
