/- Part 23 of the proof of FnTableComesBack: contracts and lemmas, each under the conditions that it states. Texts: Close. -/
import Derived.Test.YtmkdpjicgjhhjaaGreatDoorC22
import Derived.Test.YtmkdpjicgjhhjaaGreatDoorC15
import Derived.Lib.ConvBytes
namespace Go.Proofs.YtmkdpjicgjhhjaaGreatDoor
open Go.Lib (hid)
set_option maxRecDepth 100000
set_option linter.all false
section
open Go Go.RowKit Go.Shelf
def FDat (n:Nat) (fs:FS) (fd:List UInt8):Prop :=
 ∃ fs1:FS,fs1.ok n∧fs1.ks=(if fs.keys=[] then fs.ks else kgen fs.ks)∧fd=fdata (cbuf fs1.cs) (coffs fs1.cs)
def ClA (n:Nat) (s s2:WS):Prop:=∃ s1,(if 0 < s.data.n∨s.ent=0 then FinTo n s s1 else s1=s)∧FlTo s1 [] s2
def ClB (n:Nat) (s:WS) (file2:List UInt8) (fo fl:Nat):Prop :=
 match s.filt with
 | none=>file2=s.file∧fo=0∧fl=0
 | some fs=>∃ fd,FDat n fs fd∧fo=s.file.length∧fl=fd.length∧file2=s.file++sealB fd
theorem FDat.of {n:Nat} {fs:FS} {s1:FR} (hok:fs.ok n) (h:(fs.raw.keys=[]∧s1=fs.raw)∨(fs.raw.keys≠[]∧∃ fb,cOk n (fs.raw.keys,fb)∧s1=⟨fs.raw.buf++fb,fs.raw.offs++[fs.raw.buf.length],[]⟩)):FDat n fs (fdata s1.buf s1.offs):=by
 rcases h with ⟨h1,rfl⟩ | ⟨h1,fb,h2,rfl⟩
 ·exact ⟨fs,hok,by rw [if_pos (show fs.keys=[] from h1)],rfl⟩
 ·refine ⟨⟨fs.cs++[(fs.keys,fb)],[]⟩,⟨fun c hc=>?_,fun x hx=>by simp at hx⟩,?_,?_⟩
  ·rcases List.mem_append.1 hc with hc | hc
   ·exact hok.1 c hc
   ·rw [List.mem_singleton.1 hc];exact h2
  ·rw [if_neg (show ¬ fs.keys=[] from h1)];simp [FS.ks,kgen]
  ·simp only [FS.raw];rw [cbuf_append,cbuf_one,coffs_append]
theorem finish_len (s:BWS):s.finish.buf.length≤s.buf.length+4*s.rs.length+8:=by
 unfold BWS.finish BWS.ends;simp only [List.length_append,le32s_length];split <;> simp <;> omega
theorem coffs_lt {cs:List (List Nat × List UInt8)} (h:(cbuf cs).length < 4294967296):∀ x∈coffs cs,x < 4294967296:=by
 intro x hx;simp only [coffs,List.mem_map,List.mem_range] at hx;obtain ⟨i,hi,rfl⟩:=hx;have:cbuf cs=cbuf (cs.take i)++cbuf (cs.drop i):=by rw [← cbuf_append,List.take_append_drop]
 rw [this] at h;simp at h;omega
theorem fdata_pos (buf:List UInt8) (offs:List Nat):0 < (fdata buf offs).length:=by
 unfold fdata;simp;omega
theorem FDat.len {n:Nat} {fs:FS} {fd:List UInt8} (h:FDat n fs fd) (hn:n≤20) (hk:ktot fs.ks≤4194304) (hc:fs.cs.length≤1048576):fd.length≤33554432:=by
 obtain ⟨fs1,h1,h2,rfl⟩:=h;have hb:=cbuf_len hn fs1.cs h1.1;have e1:ktot fs1.ks=ktot fs.ks:=by rw [h2];split;rfl;exact ktot_gen _
 have e2:fs1.cs.length≤fs.cs.length+1:=by
  have:fs1.ks.1.length≤fs.ks.1.length+1:=by rw [h2];split <;> simp [kgen]
  simpa [FS.ks] using this
 have e3:(List.map Prod.fst fs1.cs).flatten.length≤ktot fs1.ks:=by unfold ktot FS.ks;simp
 unfold fdata;simp only [List.length_append,le32s_length,coffs_length,List.length_singleton];omega
structure WB2 (n:Nat) (s:WS):Prop where
 db:s.data.buf.length≤33554432
 dn:s.data.n≤33554432
 dr:s.data.rs.length≤4194304
 drv:∀ x∈s.data.rs,x < 4294967296
 dp:s.data.prev.length≤33554432
 dri:1≤s.data.ri
 dri2:s.data.ri≤1000
 ib:s.index.buf.length≤67108912
 in':s.index.n≤33554433
 ir:s.index.rs.length≤4194305
 irv:∀ x∈s.index.rs,x < 4294967296
 fl:s.file.length≤134217728
 ft:match s.filt with | none=>True | some fs=>fs.ok n∧n≤20∧fs.keys.length≤67108864∧ktot fs.ks≤4194304∧fs.cs.length≤1048576∧(cbuf fs.cs).length≤268435456
theorem FtTo.good {n x:Nat}:∀ {a b:Option FS},FtTo n x a b→x≤1048576→(match a with | none=>True | some fs=>fs.ok n∧n≤20∧fs.cs.length≤1048576∧ktot fs.ks≤4194304)→(match b with | none=>True | some fs=>fs.ok n∧n≤20∧fs.cs.length≤1048576∧ktot fs.ks≤4194304)
 | none,none,_,_,_=>trivial
 | none,some _,h,_,_=>h.elim
 | some _,none,h,_,_=>h.elim
 | some fs,some fs',h,hx,h1=>by
  have e1:ktot fs'.ks=ktot fs.ks:=by rw [h.2];exact ktot_kit _ _
  have e2:fs'.cs.length=fs.cs.length+(x - fs.cs.length):=by
   have:fs'.ks.1.length=fs.ks.1.length+(x - fs.ks.1.length):=by rw [h.2];exact kit_length _ _
   simpa [FS.ks] using this
  exact ⟨h.1,h1.2.1,by omega,by omega⟩
theorem ClA.ok {n:Nat} {s s2:WS} (h:ClA n s s2) (hB:WB n s):WB2 n s2:=by
 obtain ⟨s1,hs1,hs2⟩:=h;have hft:∀ ft:Option FS,(match ft with | none=>True | some fs=>fs.ok n∧n≤20∧fs.cs.length≤1048576∧ktot fs.ks≤4194304)→(match ft with | none=>True | some fs=>fs.ok n∧n≤20∧fs.keys.length≤67108864∧ktot fs.ks≤4194304∧fs.cs.length≤1048576∧(cbuf fs.cs).length≤268435456):=by
  intro ft hx;cases ft with
  | none=>trivial
  | some fs =>
   obtain ⟨a1,a2,a3,a4⟩:=hx;have hb:=cbuf_len a2 fs.cs a1.1;have e3:(List.map Prod.fst fs.cs).flatten.length≤ktot fs.ks:=by unfold ktot FS.ks;simp
   have e4:fs.keys.length≤ktot fs.ks:=by unfold ktot FS.ks;simp
   exact ⟨a1,a2,by omega,a4,a3,by omega⟩
 have hfl:=finish_len s.data;have b1:=hB.db;have b2:=hB.dr;have b3:=hB.fl;have b4:=hB.ib;have b5:=hB.in';have b6:=hB.ir;have H1:s1.data.buf.length≤33554432∧s1.data.n≤33554432∧s1.data.rs.length≤4194304∧(∀ x∈s1.data.rs,x < 4294967296)∧s1.data.prev=s.data.prev∧s1.data.ri=s.data.ri∧s1.index=s.index∧s1.file.length≤134217728∧s1.po < 34359738368∧s1.pl < 34359738368 ∧
   (match s1.filt with | none=>True | some fs=>fs.ok n∧n≤20∧fs.cs.length≤1048576∧ktot fs.ks≤4194304):=by
  by_cases hc:0 < s.data.n∨s.ent=0
  ·rw [if_pos hc] at hs1;obtain ⟨ft',h1,rfl⟩:=hs1;have hfile:(s.file++sealB s.data.finish.buf).length≤134217728:=by rw [List.length_append,sealB_length];omega
   exact ⟨by simp,by simp,by simp,fun x hx=>by simp at hx,rfl,rfl,rfl,hfile,by show s.file.length < _;omega,by show s.data.finish.buf.length < _;omega,h1.good (by omega) hB.ft⟩
  ·rw [if_neg hc] at hs1;subst hs1;exact ⟨b1,hB.dn,b2,hB.drv,rfl,rfl,rfl,by omega,hB.po,hB.pl,hB.ft⟩
 obtain ⟨c1,c2,c3,c4,c5,c6,c7,c8,c9,c10,c11⟩:=H1;have hdp:=hB.dp;have hri:=hB.dri;have hri2:=hB.dri2;rcases hs2 with ⟨_,rfl⟩ | ⟨_,sep,hsep,rfl⟩
 ·exact ⟨c1,c2,c3,c4,by rw [c5];exact hdp,by rw [c6];exact hri,by rw [c6];exact hri2,by rw [c7];omega,by rw [c7];omega,by rw [c7];omega,by rw [c7];exact hB.irv,c8,hft _ c11⟩
 ·have hsl:sep.length≤33554432:=by have:=hsep.2;rw [c5] at this;omega
  have h10:(hdl s1.po s1.pl).length≤10:=by
   have h1:=uvarint_len5 c9;have h2:=uvarint_len5 c10;unfold hdl;rw [List.length_append];omega
  have he:=entry_le s1.index sep (hdl s1.po s1.pl) (by omega) (by omega);have hr:=append_rs s1.index sep (hdl s1.po s1.pl);have hrv:=append_rsv s1.index sep (hdl s1.po s1.pl) (by rw [c7];exact hB.irv) (by rw [c7];omega);have hib:s1.index.buf.length≤33554432:=by rw [c7];exact b4
  have hin:s1.index.n≤33554432:=by rw [c7];exact b5
  have hir:s1.index.rs.length≤4194304:=by rw [c7];exact b6
  exact ⟨c1,c2,c3,c4,by simp,by show 1≤s1.data.ri;omega,by show s1.data.ri≤1000;omega,by show (s1.index.append _ _).buf.length≤_;omega,by show s1.index.n+1≤_;omega,by show (s1.index.append _ _).rs.length≤_;omega,hrv,c8,hft _ c11⟩
def ClM (base:Nat) (w:World) (b bb n:Nat) (s2:WS) (wx:World) (p4:Nat):Prop :=
 ∃ lab C OD OI,WX base wx b bb lab C OD OI s2.file s2.data s2.index∧lab p4=0∧Blk wx p4 #[.int .u64 0,.int .u64 0] 114∧Below base w wx ∧
  match s2.filt with
  | none=>C[149]?=some (.slice none 0 0)∧C[150]?=some (.int .i64 0)
  | some fs=>C[3]?=some (.iface 194 (.int .i64 n))∧∃ fd F,UB wx b C 117 149 F fd∧FDat n fs fd∧0 < fd.length∧fd.length≤33554432∧∀ k,F=some k→lab k=3
def ClN (base:Nat) (w:World) (b bb n:Nat) (s2:WS) (wx:World) (p4:Nat) (file2:List UInt8) (fo fl:Nat):Prop :=
 ∃ lab C OD OI,WX base wx b bb lab C OD OI file2 s2.data s2.index∧lab p4=0∧Blk wx p4 #[.int .u64 fo,.int .u64 fl] 114∧Below base w wx∧ClB n s2 file2 fo fl∧file2.length≤201326592∧fl≤33554432∧(fl=0∧s2.filt.isSome=false∨0 < fl∧s2.filt.isSome=true∧C[3]?=some (.iface 194 (.int .i64 n)))
def fkey:List UInt8:=[102,105,108,116,101,114,46,108,101,118,101,108,100,98,46,66,117,105,108,116,105,110,66,108,111,111,109,70,105,108,116,101,114]
theorem name_any (w:World) (v:Value):Calls Tryz.prog 184 #[v] w fun e w'=>e=.returned (.string ⟨#[108,101,118,101,108,100,98,46,66,117,105,108,116,105,110,66,108,111,111,109,70,105,108,116,101,114]⟩)∧w'=w:=by
 go_enter Tryz.func184,Tryz.ntmps184
 go_wp2
 go_ret
 exact ⟨rfl,rfl⟩
theorem fkey_conv (w:World):(convert 9 29 (Value.string (⟨#[102,105,108,116,101,114,46]⟩++⟨#[108,101,118,101,108,100,98,46,66,117,105,108,116,105,110,66,108,111,111,109,70,105,108,116,101,114]⟩))).run Tryz.prog w =
   .ok (.slice (some ⟨w.heap.size,0,none⟩) 33 (grownCap w 33 0 5)) (Lib.bytesWorld w 5 ⟨#[102,105,108,116,101,114,46,108,101,118,101,108,100,98,46,66,117,105,108,116,105,110,66,108,111,111,109,70,105,108,116,101,114]⟩) ∧
  Sl (Lib.bytesWorld w 5 ⟨#[102,105,108,116,101,114,46,108,101,118,101,108,100,98,46,66,117,105,108,116,105,110,66,108,111,111,109,70,105,108,116,101,114]⟩) (some ⟨w.heap.size,0,none⟩) 33 (grownCap w 33 0 5) fkey ∧
  Below w.heap.size w (Lib.bytesWorld w 5 ⟨#[102,105,108,116,101,114,46,108,101,118,101,108,100,98,46,66,117,105,108,116,105,110,66,108,111,111,109,70,105,108,116,101,114]⟩):=by
 refine ⟨?_,⟨rfl,grownCap_ge w 33 0 5,grownCap_le_maxLen w 33 0 5 (by decide),fun h=>by simp at h,fun j hj=>⟨w.heap.size,0,rfl,?_⟩⟩,rfl,rfl,rfl,by rw [Lib.bytesWorld_size];omega,fun k hk=>Lib.bytesWorld_at_old w 5 _ k hk⟩
 ·have e:(⟨#[102,105,108,116,101,114,46]⟩++⟨#[108,101,118,101,108,100,98,46,66,117,105,108,116,105,110,66,108,111,111,109,70,105,108,116,101,114]⟩:ByteArray)=⟨#[102,105,108,116,101,114,46,108,101,118,101,108,100,98,46,66,117,105,108,116,105,110,66,108,111,111,109,70,105,108,116,101,114]⟩:=by decide
  rw [e];exact Lib.run_convert_string_bytes w 9 29 5 _ (u:=.string) (by kernel_rfl) (by kernel_rfl) (by kernel_rfl)
 ·have hj':j < 33:=hj;rw [Nat.zero_add,Lib.bytesWorld_cell w 5 _ j (by exact hj)];simp only [List.getD,fkey] at *;rw [List.getElem?_eq_getElem (by simpa using hj')];rfl
theorem clD_bounds {n:Nat} {s2:WS} (h:WB2 n s2) {fo fl:Nat} {data3:BWS} (hd:data3=(if s2.filt.isSome then s2.data.append fkey (hdl fo fl) else s2.data)) {base:Nat} {w wx:World} {b bb p4:Nat} {file2:List UInt8} (hN:ClN base w b bb n s2 wx p4 file2 fo fl) :
  data3.buf.length≤33554600∧data3.rs.length≤4194305∧(∀ x∈data3.rs,x < 4294967296)∧data3.n≤33554433∧file2.length≤201326592∧data3.finish.buf.length≤67108864:=by
 obtain ⟨_,_,_,_,_,_,_,_,hcb,hf2,hfl,_⟩:=hN;have b1:=h.db;have b2:=h.dr;have b3:=h.dn;have hfo:fo < 34359738368:=by
  unfold ClB at hcb;cases hs:s2.filt with
  | none=>rw [hs] at hcb;have:=hcb.2.1;omega
  | some fs=>rw [hs] at hcb;obtain ⟨_,_,h1,_⟩:=hcb;have:=h.fl;omega
 have hfl0:fl < 34359738368:=by omega
 have hl10:(hdl fo fl).length≤10:=by
  have h1:=uvarint_len5 hfo;have h2:=uvarint_len5 hfl0;unfold hdl;rw [List.length_append];omega
 have he:=entry_le s2.data fkey (hdl fo fl) (by decide) (by omega);have hfk:fkey.length=33:=rfl;have hr:=append_rs s2.data fkey (hdl fo fl);have hrv:=append_rsv s2.data fkey (hdl fo fl) h.drv (by omega);have hfin:=finish_len data3;by_cases hs:s2.filt.isSome=true
 ·rw [if_pos hs] at hd;subst hd;exact ⟨by omega,by omega,hrv,by show s2.data.n+1≤_;omega,hf2,by omega⟩
 ·rw [if_neg hs] at hd;subst hd;exact ⟨by omega,by omega,h.drv,by omega,hf2,by omega⟩
theorem newErr_any (w:World) (x:ByteArray):Calls Tryz.prog 42 #[.string x] w fun e w'=>e=.returned (.iface 195 (.pointer (some ⟨w.heap.size,0,none⟩)))∧w'=w.alloc (.cells #[.string x] 197):=by
 go_enter Tryz.func42,Tryz.ntmps42
 go_wp2
 go_ret
 exact ⟨rfl,rfl⟩
def ClZ (n:Nat) (s:WS) (F:List UInt8):Prop :=
 ∃ s2 file2 fo fl data3,ClA n s s2∧ClB n s2 file2 fo fl∧data3=(if s2.filt.isSome then s2.data.append fkey (hdl fo fl) else s2.data) ∧
  F=file2++sealB data3.finish.buf++sealB s2.index.finish.buf++footer file2.length data3.finish.buf.length (file2++sealB data3.finish.buf).length s2.index.finish.buf.length
set_option maxHeartbeats 16000000 in
theorem close_any (w:World) (base b bb bs n:Nat) (s:WS) (h:WIn base w b bb bs n s) (hB:WB n s) :
  Calls Tryz.prog 21 #[.pointer (some ⟨b,0,none⟩)] w fun e w'=>e=.returned .nilIface∧∃ F v,ClZ n s F∧BB w' bb F v∧Below base w w':=by
 have HI:=hid h;have hz1:w.cell? ⟨b,1,none⟩=some .nilIface:=by
  obtain ⟨lab,C,OD,OI,OF,h⟩:=h;exact h.data.ub.blk.cell h.err
 have hz73:w.cell? ⟨b,73,none⟩=some (.int .i64 s.data.n):=by
  obtain ⟨lab,C,OD,OI,OF,h⟩:=h;exact h.data.ub.blk.cell h.data.n
 have hz220:w.cell? ⟨b,220,none⟩=some (.int .i64 s.ent):=by
  obtain ⟨lab,C,OD,OI,OF,h⟩:=h;exact h.data.ub.blk.cell h.ent
 have HB:=hid hB;clear h hB;go_enter Tryz.func21,Tryz.ntmps21
 go_upto_region 3 with fail
 go_cut [37] (fun t wx=>t=.bool (decide (0 < s.data.n∨s.ent=0))∧w=wx)
 case first=>as_aux_lemma =>
  by_cases h0:s.data.n=0
  ·rw [h0] at hz73;by_cases he:s.ent=0
   ·rw [he] at hz220;have HF:Hid (decide (0 < s.data.n∨s.ent=0)=true):=hid (by simp [he]);clear h0 he;go_wp2_with fail
    go_meet
    case rel=>rw [HF.out];exact ⟨rfl,rfl⟩
   ·have hpos:¬ s.ent=0:=he;have HF:Hid (decide (0 < s.data.n∨s.ent=0)=false):=hid (by simp [h0,he]);have hpd:((s.ent:Int) == 0)=false:=by rw [beq_eq_false_iff_ne];omega
    clear h0 he;go_wp2_with fail
    go_meet
    case rel=>rw [HF.out];exact ⟨rfl,rfl⟩
  ·have hpos:0 < s.data.n:=by omega
   have HF:Hid (decide (0 < s.data.n∨s.ent=0)=true):=hid (by simp [hpos]);clear h0;go_wp2_with fail
   go_meet
   case rel=>rw [HF.out];exact ⟨rfl,rfl⟩
 case rest =>
  obtain ⟨rfl,rfl⟩:=hcut;clear hz1 hz73 hz220;go_upto_if 37 with fail
  go_cut [] (fun wx=>∃ s1,(if 0 < s.data.n∨s.ent=0 then FinTo n s s1 else s1=s)∧WIn base wx b bb bs n s1∧Below base w wx)
  case first=>as_aux_lemma =>
   by_cases hc:0 < s.data.n∨s.ent=0
   ·have hcd:decide (0 < s.data.n∨s.ent=0)=true:=decide_eq_true hc;generalize decide (0 < s.data.n∨s.ent=0)=D at *;have hft:FtOk n s.filt:=by
     have h1:=HB.out.ft;cases hs:s.filt with
     | none=>trivial
     | some fs =>
      rw [hs] at h1;exact ⟨h1.1,h1.2.1,Nat.le_trans h1.2.2.1 (by decide),Nat.le_trans h1.2.2.2 (by decide)⟩
    have hfin:=finishBlock_walk w base b bb bs n s HI.out (Nat.le_trans HB.out.db (by decide)) (Nat.le_trans HB.out.dr (by decide)) HB.out.drv (Nat.le_trans HB.out.dn (by decide)) (Nat.le_trans HB.out.fl (by decide)) hft;have HC:=hid hc;subst hcd;clear hc hft;go_wp2_with fail
    refine hfin.mono ?_;rintro e w5 ⟨rfl,ft5,hw5,hf5,hb5⟩;have HF5:Hid (∃ s1,(if 0 < s.data.n∨s.ent=0 then FinTo n s s1 else s1=s)∧WIn base w5 b bb bs n s1∧Below base w w5):=hid ⟨_,by rw [if_pos HC.out];exact ⟨ft5,hf5,rfl⟩,hw5,hb5⟩;clear hfin hw5 hf5 hb5;dsimp only;go_wp2_with fail
    go_meet
    case rel=>exact HF5.out
   ·have hcd:decide (0 < s.data.n∨s.ent=0)=false:=decide_eq_false hc;generalize decide (0 < s.data.n∨s.ent=0)=D at *;have HF5:Hid (∃ s1,(if 0 < s.data.n∨s.ent=0 then FinTo n s s1 else s1=s)∧WIn base w b bb bs n s1∧Below base w w):=hid ⟨s,by rw [if_neg hc],HI.out,Below.refl _ _⟩;subst hcd;clear hc;go_wp2_with fail
    go_meet
    case rel=>exact HF5.out
  case rest =>
   obtain ⟨s1,hs1,hw1,hb1⟩:=hcut;have hbd:s1.po < 34359738368∧s1.pl < 34359738368∧s1.data.prev=s.data.prev∧s1.index=s.index:=by
    by_cases hc:0 < s.data.n∨s.ent=0
    ·rw [if_pos hc] at hs1;obtain ⟨ft',_,rfl⟩:=hs1;have h1:=HB.out.fl;have h2:=finish_len s.data;have h3:=HB.out.db;have h4:=HB.out.dr;exact ⟨by show s.file.length < _;omega,by show s.data.finish.buf.length < _;omega,rfl,rfl⟩
    ·rw [if_neg hc] at hs1;subst hs1;exact ⟨HB.out.po,HB.out.pl,rfl,rfl⟩
   have hfl:=flp_any wc base b bb bs n s1 hw1 hbd.1 hbd.2.1 none 0 0 [] ⟨rfl,by omega,by decide,fun _=>rfl,fun j hj=>by simp at hj⟩ (by omega) (by rw [hbd.2.2.1];have:=HB.out.dp;omega) (by rw [hbd.2.2.2];have:=HB.out.ib;omega) (by rw [hbd.2.2.2];have:=HB.out.in';omega) (by rw [hbd.2.2.2];have:=HB.out.ir;omega) (by rw [hbd.2.2.2];have:=HB.out.ip;omega) (by rw [hbd.2.2.2];exact HB.out.iri);have HB1:=hid hb1
   have HS1:=hid hs1;clear hbd hb1 hs1 hw1;go_wp2_with fail
   refine hfl.mono ?_;rintro e w2 ⟨rfl,s2,hs2,hw2,hb2⟩;have hA:ClA n s s2:=⟨s1,HS1.out,hs2⟩;have HA:=hid hA;have HB2:=hid (HB1.out.trans hb2);have HW2:=hid hw2;clear hfl hs2 hw2 hb2 hA;dsimp only;go_upto_region 10 with fail
   go_cut [] (fun wx=>ClM base w b bb n s2 wx w2.heap.size)
   case first=>as_aux_lemma =>
    have hst:=HW2.out;obtain ⟨lab,C,OD,OI,OF,h⟩:=hst;have hok:=HA.out.ok HB.out;have hx:=(h.wx.zero w2.heap.size (Nat.le_refl _)).ext (w':=w2.alloc (.cells #[.int .u64 0,.int .u64 0] 114)) (fun k hk _=>Below.heap_alloc w2 _ k hk);have hpn:=Blk.new w2 #[.int .u64 0,.int .u64 0] 114;have hba:Below base w2 (w2.alloc (.cells #[.int .u64 0,.int .u64 0] 114)):=⟨rfl,rfl,rfl,by simp,fun k hk=>Below.heap_alloc w2 _ k (by have:=h.wx.baseB;have:=h.wx.bl;omega)⟩
    have hbx:=HB2.out.trans hba;cases hs:s2.filt with
    | none =>
     have h3:=h.filt;rw [hs] at h3;have hcl:ClM base w b bb n s2 (w2.alloc (.cells #[.int .u64 0,.int .u64 0] 114)) w2.heap.size:=⟨_,C,OD,OI,hx,if_pos rfl,hpn,hbx,by rw [hs];exact ⟨h3.2.1,h3.2.2.1⟩⟩;have hfi:=ffinish_nil (w2.alloc (.cells #[.int .u64 0,.int .u64 0] 114)) b 148 (hx.data.ub.blk.cell h3.1);have HC:=hid hcl;clear h h3 hx hpn hba hbx hcl hok;go_wp2_with fail
     refine hfi.mono ?_;rintro e w3 ⟨rfl,rfl⟩;dsimp only;go_wp2_with fail
     go_meet
     case rel=>exact HC.out
    | some fs =>
     have h3:=h.filt;rw [hs] at h3;have h4:=hok.ft;rw [hs] at h4;have hfb:=h3.1.keep (w2:=w2.alloc (.cells #[.int .u64 0,.int .u64 0] 114)) hx.data.ub.blk rfl (fun _ _ _=>rfl) (fun k hk=>Below.heap_alloc w2 _ k (h3.1.lt hk));have hfi:=ffinish_raw (w2.alloc (.cells #[.int .u64 0,.int .u64 0] 114)) b 148 n C 117 OF fs.raw hfb h4.2.1 h4.2.2.1 (by show (cbuf fs.cs).length≤_;omega) (by show (coffs fs.cs).length≤_;rw [coffs_length];omega) h4.1.2 (fun x hx=>coffs_lt (by omega) x hx)
     have hF3:∀ k,OF.has k→(fun k=>if k=w2.heap.size then 0 else lab k) k=3:=fun k hk=>(if_neg (by have:=h3.1.lt hk;omega)).trans (h.labL k (by rw [hs];exact hk))
     have hfinal:∀ w3 (s1:FR),((fs.raw.keys=[]∧s1=fs.raw)∨(fs.raw.keys≠[]∧∃ fb,cOk n (fs.raw.keys,fb)∧s1=⟨fs.raw.buf++fb,fs.raw.offs++[fs.raw.buf.length],[]⟩))→FBTo b C 117 148 n OF ⟨fdata s1.buf s1.offs,s1.offs++[s1.buf.length],s1.keys⟩ (w2.alloc (.cells #[.int .u64 0,.int .u64 0] 114)) w3→ClM base w b bb n s2 w3 w2.heap.size:=by
      intro w3 s1 hs1 hto;obtain ⟨lab',C',F,g1,g2,g3,g4,g5,g6,g7⟩:=hx.filtTo hF3 hto;have hfd:=FDat.of h4.1 hs1;refine ⟨lab',C',OD,OI,g1,(g2 _ (by simp)).trans (if_pos rfl),(g4 _ (by simp) (if_pos rfl)).trans hpn,hbx.trans g3,?_⟩;rw [hs];exact ⟨g5.trans h3.2,_,F,g6,hfd,fdata_pos _ _,hfd.len h4.2.1 h4.2.2.2.1 h4.2.2.2.2.1,g7⟩
     have HC:=hid hfinal;clear h h3 hx hpn hba hbx hfinal hok h4 hfb hF3;go_wp2_with fail
     refine hfi.mono ?_;rintro e w3 ⟨rfl,sx,hsx,hto⟩;have HCL:=hid (HC.out w3 sx hsx hto);clear hfi hsx hto HC;dsimp only;go_wp2_with fail
     go_meet
     case rel=>exact HCL.out
   case rest =>
    obtain ⟨lab,C,OD,OI,hx,hl4,hp4,hb4,hff⟩:=hcut;have hok:=HA.out.ok HB.out;have hp4b:base≤w2.heap.size:=by
     have hst:=HW2.out;obtain ⟨lab,C,OD,OI,OF,h⟩:=hst;have:=h.wx.baseB;have:=h.wx.bl;omega
    have hpb:w2.heap.size≠b:=by
     have hst:=HW2.out;obtain ⟨lab,C,OD,OI,OF,h⟩:=hst;have:=h.wx.bl;omega
    clear HW2 HB2 HI HB1 HS1;obtain ⟨p4,hp4e⟩:∃ p4,p4=w2.heap.size:=⟨_,rfl⟩;rw [← hp4e] at hl4 hp4 hp4b hpb ⊢;clear hp4e;have HX:=hid hx;have HL4:=hid hl4;have HP4:=hid hp4;have HB4:=hid hb4;have HF:=hid hff;have HOK:=hid hok;clear hx hl4 hp4 hb4 hff hok;go_upto_region 12 with fail
    go_cut [62] (fun t wx=>t=.bool s2.filt.isSome∧∃ k,wc.drewN k=wx)
    case first=>as_aux_lemma =>
     have hff:=HF.out;cases hs:s2.filt with
     | none =>
      rw [hs] at hff;have hln:=len_cells b 149 none 0 0 wc (HX.out.data.ub.blk.cell hff.1) (HX.out.data.ub.blk.cell hff.2) (by omega);clear hff;go_wp2_with fail
      refine hln.mono ?_;rintro e w3 ⟨rfl,k,rfl⟩;clear hln;dsimp only;go_wp2_with fail
      go_meet
      case rel=>exact ⟨by rw [hs];rfl,k,rfl⟩
     | some fs =>
      rw [hs] at hff;obtain ⟨_,fd,F,hu,_,hpos,_,_⟩:=hff;have hln:=len_any wc b 149 C 117 F fd hu;clear hu;go_wp2_with fail
      refine hln.mono ?_;rintro e w3 ⟨rfl,k,rfl⟩;clear hln;generalize fd.length=m at *;dsimp only;go_wp2_with fail
      go_meet
      case rel=>exact ⟨by rw [hs];rfl,k,rfl⟩
    case rest =>
     obtain ⟨rfl,k0,rfl⟩:=hcut;go_upto_if 62 with fail
     go_cut [] (fun wx=>∃ file2 fo fl,ClN base w b bb n s2 wx p4 file2 fo fl)
     case first=>as_aux_lemma =>
      have hff:=HF.out;cases hs:s2.filt with
      | none =>
       rw [hs] at hff;have hfin:Hid (∃ file2 fo fl,ClN base w b bb n s2 (wc.drewN k0) p4 file2 fo fl):=hid ⟨s2.file,0,0,lab,C,OD,OI,HX.out.ext (fun _ _ _=>rfl),HL4.out,HP4.out,HB4.out.trans (Below.drewN' _ _ _),by unfold ClB;rw [hs];exact ⟨rfl,rfl,rfl⟩,by have:=HOK.out.fl;omega,by omega,.inl ⟨rfl,by rw [hs];rfl⟩⟩;clear hff;go_wp2_with fail
       go_meet
       case rel=>exact hfin.out
      | some fs =>
       rw [hs] at hff;obtain ⟨h3,fd,F,hu,hfd,hpos,hfl,hF3⟩:=hff;have hx:=HX.out;obtain ⟨v6,hB6,hp6,hl6⟩:=hx.bf;have hsz:=hx.size;have hlF:=HOK.out.fl;have hwb:=writeBlock_any (wc.drewN k0) b bb 149 s2.file.length C F fd s2.file v6 (hu.drewN k0) (by omega) (by omega) (by omega) hx.wr hx.off (hB6.keep rfl (fun _ _=>rfl)) hp6 (fun e=>by have h1:=hx.labB;have h2:=hx.labF;rw [e] at h2;omega) (fun e=>by have h1:=hF3 bb e;have h2:=hx.labF;omega) (fun e=>by have h1:=hl6 b e;have h2:=hx.labB;omega) (fun k hk e=>by have h1:=hl6 k e;have h2:=hF3 k hk;omega) (by omega) (by omega) (by omega)
       have hlt4:=HP4.out.lt;have hnext:∀ w3,WRes b bb 149 s2.file.length C F fd v6 s2.file (wc.drewN k0) w3→Blk w3 p4 #[.int .u64 0,.int .u64 0] 114∧w3.frozen? ⟨b,1,none⟩=false∧w3.cell? ⟨b,1,none⟩=some .nilIface ∧
         ∃ file2 fo fl,ClN base w b bb n s2 (((w3.setCell ⟨p4,0,none⟩ (.int .u64 s2.file.length)).setCell ⟨p4,1,none⟩ (.int .u64 fd.length)).setCell ⟨b,1,none⟩ .nilIface) p4 file2 fo fl:=by
        intro w3 hw3;obtain ⟨lab',C',OD',OI',g1,g2,g3,g4,g5⟩:=(hx.ext (w':=wc.drewN k0) (fun _ _ _=>rfl)).sealF hF3 hl6 hw3;have hp:=(g4 p4 hlt4 HL4.out).trans (HP4.out.drewN k0);have hl':=(g2 p4 hlt4).trans HL4.out;obtain ⟨q1,q2,q3,q4⟩:=g1.putH hl' hp hp4b (.int .u64 s2.file.length) (.int .u64 fd.length);obtain ⟨C2,r1,r2,r3,r4⟩:=q1.nilErr;exact ⟨hp,g1.data.ub.blk.free 1,g1.data.ub.blk.cell g1.err,s2.file++sealB fd,s2.file.length,fd.length,lab',C2,OD',OI',r1,hl',(r3 p4 hpb).trans q2,(((HB4.out.trans (Below.drewN' _ _ _)).trans g3).trans q3).trans r2,by unfold ClB;rw [hs];exact ⟨fd,hfd,rfl,rfl,rfl⟩,
         by rw [List.length_append,sealB_length];omega,hfl,.inr ⟨hpos,by rw [hs];rfl,(r4.trans g5).trans h3⟩⟩
       have HN:=hid hnext;clear hnext h3 hu hfd hpos hfl hF3 hx hB6 hp6 hl6;go_wp2_with fail
       refine hwb.mono ?_;rintro e w3 ⟨rfl,hw3⟩;obtain ⟨hq4,hqf,hq1,hqn⟩:=HN.out w3 hw3;have hq40:=hq4.cell (k:=0) rfl;have hq41:=hq4.cell (k:=1) rfl;have hq4f0:=hq4.free 0;have hq4f1:=hq4.free 1;have HQ:=hid hqn;clear hwb hw3 hqn hq4 HN;dsimp only;generalize fd.length=FL at *;generalize s2.file.length=FO at *;go_wp2_with fail
       go_meet
       case rel=>exact HQ.out
     case rest =>
      obtain ⟨file2,fo,fl,hN⟩:=hcut;have HN:=hid hN;obtain ⟨lab3,C3,OD3,OI3,hx3,hl3,hp3,hb3,hcb3,hf23,hfl3,hfi3⟩:=hN;have hq40:=hp3.cell (k:=0) rfl;have hq41:=hp3.cell (k:=1) rfl;have hqb1:=hx3.data.ub.blk.cell hx3.err;clear HX HL4 HP4 HB4 HF hx3 hl3 hp3 hb3 hcb3 hf23 hfl3 hfi3;go_upto_if 83 with fail
      go_cut [] (fun wx=>∃ data3,data3=(if s2.filt.isSome then s2.data.append fkey (hdl fo fl) else s2.data)∧∃ lab C OD OI,WX base wx b bb lab C OD OI file2 data3 s2.index∧Below base w wx)
      case first=>as_aux_lemma =>
       obtain ⟨lab3,C3,OD3,OI3,hx3,hl3,hp3,hb3,hcb3,hf23,hfl3,hfi3⟩:=HN.out;rcases hfi3 with ⟨h0,hs⟩ | ⟨h0,hs,h3⟩
       ·subst h0;have HQ:Hid (∃ data3,data3=(if s2.filt.isSome then s2.data.append fkey (hdl fo 0) else s2.data)∧∃ lab C OD OI,WX base wc b bb lab C OD OI file2 data3 s2.index∧Below base w wc):=hid ⟨s2.data,by rw [hs];rfl,lab3,C3,OD3,OI3,hx3,hb3⟩;clear hx3 hl3 hp3 hb3 hcb3;go_wp2_with fail
        go_meet
        case rel=>exact HQ.out
       ·have hqb3:=hx3.data.ub.blk.cell h3;clear hx3 hl3 hp3 hb3 hcb3 h3 hs;go_wp2_with fail
        refine (name_any _ _).mono ?_;rintro e w4 ⟨rfl,hw4⟩;rw [hw4];clear hw4 w4;obtain ⟨hcv,hkS,hkA⟩:=fkey_conv wc;obtain ⟨wF,hwF⟩:∃ wF,wF=Lib.bytesWorld wc 5 ⟨#[102,105,108,116,101,114,46,108,101,118,101,108,100,98,46,66,117,105,108,116,105,110,66,108,111,111,109,70,105,108,116,101,114]⟩:=⟨_,rfl⟩;rw [← hwF] at hcv hkS hkA;clear hwF;obtain ⟨lab3,C3,OD3,OI3,hx3,hl3,hp3,hb3,hcb3,hf23,hfl3,hfi3⟩:=HN.out
        have hx4:=hx3.ext (w':=wF) (fun k hk _=>hkA.block k hk);have hp4':=(hkA.block p4 hp3.lt).trans hp3;have hbx4:Below base wc wF:=⟨hkA.os,hkA.tape,hkA.output,hkA.size,fun k hk=>hkA.block k (by have:=hx3.baseB;have:=hx3.bl;omega)⟩;have hs4:s2.filt.isSome=true:=by rcases hfi3 with ⟨h1,_⟩ | ⟨_,h2,_⟩;omega;exact h2
        have hfo:fo < 34359738368:=by
         unfold ClB at hcb3;cases hs:s2.filt with
         | none=>rw [hs] at hcb3;have:=hcb3.2.1;omega
         | some fs=>rw [hs] at hcb3;obtain ⟨_,_,h1,_⟩:=hcb3;have:=HOK.out.fl;omega
        have hfl0:fl < 34359738368:=by omega
        have hsz4:=hx4.size;obtain ⟨w5,hw5⟩:∃ w5,w5=(wF.alloc (.cells #[.int .u64 fo,.int .u64 fl] 114)).setRow b (splice C3 221 (bv (hdl fo fl))):=⟨_,rfl⟩;have henc:∀ k,Calls Tryz.prog 51 #[.slice (some ⟨b,221,none⟩) 20 50,.agg #[.int .u64 fo,.int .u64 fl]] (wF.drewN k) fun e w'=>e=.returned (.int .i64 (hdl fo fl).length)∧∃ j,w'=w5.drewN j:=fun k =>
         (encodeBH_any b 221 20 50 fo fl hfo hfl0 (wF.drewN k) C3 117 (hx4.data.ub.blk.drewN k) (by omega) (by omega) (by omega)).mono (by
          rintro e w' ⟨he,j,rfl⟩;exact ⟨he,k+j,by rw [hw5];simp [go_sem]⟩)
        obtain ⟨hx5,hbx5,hk5,hsl5⟩:=hx4.encTo fo fl hfo hfl0;rw [← hw5] at hx5 hbx5 hk5 hsl5;have hl10:(hdl fo fl).length≤10:=by
         have h1:=uvarint_len5 hfo;have h2:=uvarint_len5 hfl0;unfold hdl;rw [List.length_append];omega
        have hok:=HOK.out;have hkS5:Sl w5 (some ⟨wc.heap.size,0,none⟩) 33 (grownCap wc 33 0 5) fkey:=hkS.fr' fun g p ha j hj=>by
         simp only [Option.some.injEq,Addr.mk.injEq] at ha;obtain ⟨rfl,rfl,_⟩:=ha;have hlt:wc.heap.size < wF.heap.size:=hkS.lt (by omega);exact World.cell?_of_block (hk5 wc.heap.size hlt (by have:=hx3.bl;omega))
        have happ:∀ k,Calls Tryz.prog 44 #[.pointer (some ⟨b,6,none⟩),.slice (some ⟨wc.heap.size,0,none⟩) 33 (grownCap wc 33 0 5),.slice (some ⟨b,221,none⟩) (hdl fo fl).length 50] (w5.drewN k) fun e w'=>e=.returned (.tuple #[]) ∧
          BWTo b (splice C3 221 (bv (hdl fo fl))) 117 6 241 OD3 (s2.data.append fkey (hdl fo fl)) (w5.drewN k) w':=fun k =>
         append_any (w5.drewN k) b _ 117 6 241 OD3 s2.data (hx5.ext (w':=w5.drewN k) (fun _ _ _=>rfl)).data _ 33 _ fkey (hkS5.drewN k) (fun g p ha _=>by
          simp only [Option.some.injEq,Addr.mk.injEq] at ha;obtain ⟨rfl,rfl,_⟩:=ha;exact ⟨fun hO=>by have:=hx3.data.lt hO;omega,fun e=>by have:=hx3.bl;omega⟩) _ _ 50 (hdl fo fl) (hsl5.drewN k) (fun g p ha _=>by
          simp only [Option.some.injEq,Addr.mk.injEq] at ha;obtain ⟨rfl,rfl,_⟩:=ha;exact ⟨fun hO=>by have h1:=hx3.labD b hO;have h2:=hx3.labB;omega,fun _=>by omega⟩) (by have:=hok.db;omega) (by have:=hok.dn;omega) (by have:=hok.dr;omega) (by have:=hok.dp;omega) hok.dri (by have:=hok.dri2;omega)
        have hfin:∀ k w',BWTo b (splice C3 221 (bv (hdl fo fl))) 117 6 241 OD3 (s2.data.append fkey (hdl fo fl)) (w5.drewN k) w'→∃ data3,data3=(if s2.filt.isSome then s2.data.append fkey (hdl fo fl) else s2.data)∧∃ lab C OD OI,WX base w' b bb lab C OD OI file2 data3 s2.index∧Below base w w':=by
         intro k w' hto;obtain ⟨lab',C',OD',OI',q1,q2,q3,q4,q5⟩:=(hx5.ext (w':=w5.drewN k) (fun _ _ _=>rfl)).dataTo hto;exact ⟨_,by rw [hs4];rfl,lab',C',OD',OI',q1,(((hb3.trans hbx4).trans hbx5).trans (Below.drewN' _ _ _)).trans q3⟩
        have HFIN:=hid hfin;have HL10:=hid hl10;have hq40:=(show Blk wF p4 #[.int .u64 fo,.int .u64 fl] 114 from hp4').cell (k:=0) rfl;have hq41:=(show Blk wF p4 #[.int .u64 fo,.int .u64 fl] 114 from hp4').cell (k:=1) rfl;clear hfin hkS5 hx5 hbx5 hk5 hsl5 hw5 hx4 hp4' hbx4 hs4 hfo hfl0 hsz4 hx3 hl3 hp3 hb3 hcb3 hf23 hfl3 hfi3 hkS hkA hok hl10 hqb3 hqb1;dsimp only;go_wp2_with fail
        refine wp_tail 5 (by kernel_rfl) ?_;simp only [List.take_succ_cons,List.take_zero,List.drop_succ_cons,List.drop_zero];repeat still_step
        refine wpStill_nil ?_;go_wp2_with fail
        refine (henc _).mono ?_;rintro e w7 ⟨rfl,j7,rfl⟩;have hl10:=HL10.out;generalize (hdl fo fl).length=LH at *;have hsl115:=fun w'=>run_s115 b 221 LH (by omega) w'
        clear henc hcv;dsimp only;go_wp2_with fail
        refine wp_tail 9 (by kernel_rfl) ?_;simp only [List.take_succ_cons,List.take_zero,List.drop_succ_cons,List.drop_zero];repeat still_step
        refine wpStill_nil ?_;go_wp2_with fail
        refine (happ _).mono ?_;rintro e w8 ⟨rfl,hto⟩;have HQ:=hid (HFIN.out _ _ hto);clear happ hto;dsimp only;go_wp2_with fail
        go_meet
        case rel=>exact HQ.out
      case rest =>
       obtain ⟨data3,hd3,lab0,C0,OD0,OI0,hx0,hb0⟩:=hcut;have hbd3:=clD_bounds HOK.out hd3 HN.out;have hfi:=bwfinish_any wc b C0 117 6 241 OD0 data3 hx0.data (by omega) (by omega) hbd3.2.2.1 (by omega);have HX0:=hid hx0;have HB0:=hid hb0;have HBD:=hid hbd3;have HD3:=hid hd3;clear hx0 hb0 hq40 hq41 hqb1 hbd3 hd3;go_wp2_with fail
       refine hfi.mono ?_;rintro e w1 ⟨rfl,hto⟩;obtain ⟨lab1,C1,OD1,OI1,hx1,_,hb1,_,_⟩:=HX0.out.dataTo hto;have HB1:=hid (HB0.out.trans hb1);have hbd3:=HBD.out;clear hfi hto hb1 HX0 HB0;dsimp only;generalize hdF:data3.finish=DF at *;go_upto_region 21 with fail
       obtain ⟨v6,hB6,hp6,hl6⟩:=hx1.bf;have hsz1:=hx1.size;have hub1:=hx1.data.ub;have hFb:OD1.f≠some bb:=fun e=>by have h1:=hx1.labD bb (.inl e);have h2:=hx1.labF;omega
       have hvb:v6.ownBlock≠some b:=fun e=>by have h1:=hl6 b e;have h2:=hx1.labB;omega
       have hFv:∀ k,OD1.f=some k→v6.ownBlock≠some k:=fun k hk e=>by have h1:=hl6 k e;have h2:=hx1.labD k (.inl hk);omega
       have hbbb:bb≠b:=fun e=>by have h1:=hx1.labB;have h2:=hx1.labF;rw [e] at h2;omega
       have hwbA:=writeBlock_any (w1.drewN 1) b bb 7 file2.length C1 OD1.f DF.buf file2 v6 (hub1.drewN 1) (by omega) (by omega) (by omega) hx1.wr hx1.off (hB6.keep rfl (fun _ _=>rfl)) hp6 hbbb hFb hvb hFv (by omega) (by omega) (by omega);have hx1A:=hx1.alloc0;have hwbB:=writeBlock_any ((w1.alloc (.cells #[.int .u64 0,.int .u64 0] 114)).drewN 1) b bb 7 file2.length C1 OD1.f DF.buf file2 v6 (hx1A.data.ub.drewN 1) (by omega) (by omega) (by omega) hx1.wr hx1.off (hB6.keep (Below.heap_alloc w1 _ bb hx1.bbl) (fun k hk=>Below.heap_alloc w1 _ k (own_lt hB6.own hk))) hp6 hbbb hFb hvb hFv (by omega) (by omega) (by omega)
       have hl6A:∀ k,v6.ownBlock=some k→(fun k=>if k=w1.heap.size then 0 else lab1 k) k=6:=fun k hk=>(if_neg (by have:=own_lt hB6.own hk;omega)).trans (hl6 k hk)
       have HNA:Hid (∀ w2,WRes b bb 7 file2.length C1 OD1.f DF.buf v6 file2 (w1.drewN 1) w2→SRel base (w1.drewN 1) b bb lab1 (file2++sealB DF.buf) { DF with buf:=sealB DF.buf } s2.index file2.length DF.buf.length (w2.alloc (.cells #[.int .u64 file2.length,.int .u64 DF.buf.length] 114)) w2.heap.size∧w2.cell? ⟨b,4,none⟩=some (.int .u64 1)∧(w2.alloc (.cells #[.int .u64 file2.length,.int .u64 DF.buf.length] 114)).cell? ⟨b,4,none⟩=some (.int .u64 1)∧(w2.alloc (.cells #[.int .u64 0,.int .u64 0] 114)).cell? ⟨b,4,none⟩=some (.int .u64 1)):=hid fun w2 h =>
        WXTo.callFirst (hx1.ext (w':=w1.drewN 1) (fun _ _ _=>rfl)) ((hx1.ext (w':=w1.drewN 1) (fun _ _ _=>rfl)).sealD hl6 h) _ _
       have HNB:Hid (∀ w2,WRes b bb 7 file2.length C1 OD1.f DF.buf v6 file2 ((w1.alloc (.cells #[.int .u64 0,.int .u64 0] 114)).drewN 1) w2→Blk w2 w1.heap.size #[.int .u64 0,.int .u64 0] 114∧SRel base (w1.drewN 1) b bb lab1 (file2++sealB DF.buf) { DF with buf:=sealB DF.buf } s2.index file2.length DF.buf.length ((w2.setCell ⟨w1.heap.size,0,none⟩ (.int .u64 file2.length)).setCell ⟨w1.heap.size,1,none⟩ (.int .u64 DF.buf.length)) w1.heap.size∧w2.cell? ⟨b,4,none⟩=some (.int .u64 1) ∧
         ((w2.setCell ⟨w1.heap.size,0,none⟩ (.int .u64 file2.length)).setCell ⟨w1.heap.size,1,none⟩ (.int .u64 DF.buf.length)).cell? ⟨b,4,none⟩=some (.int .u64 1)):=hid fun w2 h =>
        WX.allocFirst (hx1.ext (w':=w1.drewN 1) (fun _ _ _=>rfl)) ((hx1A.ext (w':=(w1.alloc (.cells #[.int .u64 0,.int .u64 0] 114)).drewN 1) (fun _ _ _=>rfl)).sealD hl6A h) _ _
       have hq4:=hx1.data.ub.blk.cell hx1.comp;have hq4A:=hx1A.data.ub.blk.cell hx1A.comp;clear hub1 hFb hvb hFv hx1A hl6A hB6 hp6 hl6;have HX1:=hid hx1;clear hx1;go_cut [8,9] (fun t8 t9 wx=>t9=.nilIface∧∃ p8,t8=.pointer (some ⟨p8,0,none⟩)∧SRel base (w1.drewN 1) b bb lab1 (file2++sealB DF.buf) { DF with buf:=sealB DF.buf } s2.index file2.length DF.buf.length wx p8)
       case first=>as_aux_lemma =>
        generalize hFO:file2.length=FO at *;generalize hLB:DF.buf.length=LB at *;have HFO:=hid hFO;have HLB:=hid hLB;clear hFO hLB;refine Pos.start (fun W:World=>W.cell? ⟨b,4,none⟩=some (.int .u64 1)) 15 (by kernel_rfl) ?_;have hS:(fun W:World=>W.cell? ⟨b,4,none⟩=some (.int .u64 1)) (w1.drewN 1):=hq4;iterate 9
         refine' Pos.takeK hS rfl (by kernel_rfl) (fun _ _ _ h=>h) (by rfl) ?_ ?_;rotate_left
         ·intro W hW;obtain s1:=hW;go_simp;try with_reducible rfl
         intro K hK;go_simp;refine hK _ ?_;clear hK K
        refine Pos.toG 7 #[true,true,true,true,true,true,true,true,true,false,false,false,false,false,false,false] rfl (by kernel_rfl) ?_;refine PosG.split (i:=9) (j:=13) rfl rfl (by kernel_rfl) ?_ ?_
        ·go_wp2_with fail
         refine hwbA.mono ?_;rintro e w2 ⟨rfl,hw2⟩;obtain ⟨hrel,hSa,hSb,hSc⟩:=HNA.out w2 hw2;have HR:=hid hrel;clear hwbA hwbB hw2 hS hrel HNA HNB hq4A;dsimp only;go_wp2_with fail
         have hS:(fun W:World=>W.cell? ⟨b,4,none⟩=some (.int .u64 1)) w2:=hSa;refine ⟨hS,?_⟩;refine' PosG.takeK (k:=10) hS rfl (by kernel_rfl) (fun _ _ _ h=>h) (by rfl) ?_ ?_;rotate_left
         ·intro W hW;obtain s1:=hW;go_simp;try with_reducible rfl
         intro K hK;go_simp;refine hK _ ?_;clear hK K;refine' PosG.takeK (k:=11) hS rfl (by kernel_rfl) (fun _ _ _ h=>h) (by rfl) ?_ ?_;rotate_left
         ·intro W hW;obtain s1:=hW;go_simp;try with_reducible rfl
         intro K hK;go_simp;refine hK _ ?_;clear hK K;refine' PosG.takeK (k:=12) hS rfl (by kernel_rfl) (fun _ _ _ h=>h) (by rfl) ?_ ?_;rotate_left
         ·intro W hW;obtain s1:=hW;go_simp;try with_reducible rfl
         intro K hK;go_simp;refine hK _ ?_;clear hK K;refine PosG.eff (k:=13) rfl (by kernel_rfl) ?_;go_wp2
         have hpn:=Blk.new w2 #[.int .u64 0,.int .u64 0] 114;have hp0:=hpn.cell (k:=0) rfl;have hp1:=hpn.cell (k:=1) rfl;have hpf0:=hpn.free 0;have hpf1:=hpn.free 1;refine ⟨hSc,?_⟩;refine PosG.eff (k:=14) rfl (by kernel_rfl) ?_;go_wp2
         refine ⟨hSb,?_⟩;clear hp0 hp1 hpf0 hpf1 hpn hSa hSb hSc hS;refine PosG.tail rfl (by kernel_rfl) (by kernel_rfl) (by decide) ?_;simp only [List.drop_succ_cons,List.drop_zero];go_wp2_with fail
         go_meet
         case rel=>exact ⟨rfl,_,rfl,HR.out⟩
        ·go_wp2
         clear hS;have hS:(fun W:World=>W.cell? ⟨b,4,none⟩=some (.int .u64 1)) ((w1.alloc (.cells #[.int .u64 0,.int .u64 0] 114)).drewN 1):=hq4A;refine ⟨hS,?_⟩;refine PosG.eff (k:=9) rfl (by kernel_rfl) ?_;go_wp2_with fail
         refine hwbB.mono ?_;rintro e w2 ⟨rfl,hw2⟩;obtain ⟨hpw,hrel,hSa,hSb⟩:=HNB.out w2 hw2;have HR:=hid hrel;have HPW:=hid hpw;clear hwbA hwbB hw2 hS hrel HNA HNB hq4A hpw;dsimp only;go_wp2_with fail
         have hS:(fun W:World=>W.cell? ⟨b,4,none⟩=some (.int .u64 1)) w2:=hSa;refine ⟨hS,?_⟩;refine' PosG.takeK (k:=10) hS rfl (by kernel_rfl) (fun _ _ _ h=>h) (by rfl) ?_ ?_;rotate_left
         ·intro W hW;obtain s1:=hW;go_simp;try with_reducible rfl
         intro K hK;go_simp;refine hK _ ?_;clear hK K;refine' PosG.takeK (k:=11) hS rfl (by kernel_rfl) (fun _ _ _ h=>h) (by rfl) ?_ ?_;rotate_left
         ·intro W hW;obtain s1:=hW;go_simp;try with_reducible rfl
         intro K hK;go_simp;refine hK _ ?_;clear hK K;refine' PosG.takeK (k:=12) hS rfl (by kernel_rfl) (fun _ _ _ h=>h) (by rfl) ?_ ?_;rotate_left
         ·intro W hW;obtain s1:=hW;go_simp;try with_reducible rfl
         intro K hK;go_simp;refine hK _ ?_;clear hK K;have hpw:=HPW.out;have hp0:=hpw.cell (k:=0) rfl;have hp1:=hpw.cell (k:=1) rfl;have hpf0:=hpw.free 0;have hpf1:=hpw.free 1;refine PosG.eff (k:=14) rfl (by kernel_rfl) ?_;go_wp2
         refine ⟨hSb,?_⟩;clear hp0 hp1 hpf0 hpf1 hpw hSa hSb hS;refine PosG.tail rfl (by kernel_rfl) (by kernel_rfl) (by decide) ?_;simp only [List.drop_succ_cons,List.drop_zero];go_wp2_with fail
         go_meet
         case rel=>exact ⟨rfl,_,rfl,HR.out⟩
       case rest =>
        obtain ⟨rfl,p8,rfl,hrel⟩:=hcut;obtain ⟨lab2,C2,OD2,OI2,hx2,hl8,hp8,hb8,hbp8,hp8b,hz8⟩:=hrel;have hB12:=HB1.out.trans ((Below.drewN' base w1 1).trans hb8);have hix:=bwfinish_any wc b C2 117 77 241 OI2 s2.index hx2.index (by have:=HOK.out.ib;omega) (by have:=HOK.out.ir;omega) HOK.out.irv (by have:=HOK.out.in';omega);have HX2:=hid hx2;have HB2:=hid hB12;have HP8:=hid hp8;have HL8:=hid hl8;clear HX1 HNA HNB hwbA hwbB hq4 hq4A hx2 hb8 hz8 hB12 hp8 hl8 HB1
        go_wp2_with fail
        refine hix.mono ?_;rintro e w3 ⟨rfl,hto⟩;obtain ⟨lab3,C3,OD3,OI3,hx3,hlab3,hb3,hz3,_⟩:=HX2.out.indexTo hto;have HB3:=hid (HB2.out.trans hb3);have HP83:Hid (Blk w3 p8 #[.int .u64 file2.length,.int .u64 DF.buf.length] 114):=hid ((hz3 p8 HP8.out.lt HL8.out).trans HP8.out);have HL83:Hid (lab3 p8=0):=hid ((hlab3 p8 HP8.out.lt).trans HL8.out);have hIXl:s2.index.finish.buf.length≤134217728:=by
         have h1:=finish_len s2.index;have h2:=HOK.out.ib;have h3:=HOK.out.ir;omega
        have hF3l:(file2++sealB DF.buf).length≤301989888:=by
         rw [List.length_append,sealB_length];omega
        clear hix hto hb3 HX2 HB2 hz3 hlab3 HP8 HL8;dsimp only;generalize hIX:s2.index.finish=IX at *;generalize hF3:file2++sealB DF.buf=F3 at *;obtain ⟨lab1,hlb⟩:∃ lab1,lab1=lab3:=⟨_,rfl⟩;obtain ⟨C1,hC1⟩:∃ C1,C1=C3:=⟨_,rfl⟩;obtain ⟨OD1,hOD1⟩:∃ O,O=OD3:=⟨_,rfl⟩;obtain ⟨OI1,hOI1⟩:∃ O,O=OI3:=⟨_,rfl⟩;obtain ⟨w1,hw1⟩:∃ w1,w1=w3:=⟨_,rfl⟩;rw [← hlb] at hx3 HL83;rw [← hC1,← hOD1,← hOI1,← hw1] at hx3;rw [← hw1] at HB3 HP83 ⊢
        clear hlb hC1 hOD1 hOI1 hw1;have hx1:=hx3;clear hx3;go_upto_region 26 with fail
        obtain ⟨v6,hB6,hp6,hl6⟩:=hx1.bf;have hsz1:=hx1.size;have hub1:=hx1.index.ub;have hFb:OI1.f≠some bb:=fun e=>by have h1:=hx1.labI bb (.inl e);have h2:=hx1.labF;omega
        have hvb:v6.ownBlock≠some b:=fun e=>by have h1:=hl6 b e;have h2:=hx1.labB;omega
        have hFv:∀ k,OI1.f=some k→v6.ownBlock≠some k:=fun k hk e=>by have h1:=hl6 k e;have h2:=hx1.labI k (.inl hk);omega
        have hbbb:bb≠b:=fun e=>by have h1:=hx1.labB;have h2:=hx1.labF;rw [e] at h2;omega
        have hwbA:=writeBlock_any (w1.drewN 1) b bb 78 F3.length C1 OI1.f IX.buf F3 v6 (hub1.drewN 1) (by omega) (by omega) (by omega) hx1.wr hx1.off (hB6.keep rfl (fun _ _=>rfl)) hp6 hbbb hFb hvb hFv (by omega) (by omega) (by omega);have hx1A:=hx1.alloc0;have hwbB:=writeBlock_any ((w1.alloc (.cells #[.int .u64 0,.int .u64 0] 114)).drewN 1) b bb 78 F3.length C1 OI1.f IX.buf F3 v6 (hx1A.index.ub.drewN 1) (by omega) (by omega) (by omega) hx1.wr hx1.off (hB6.keep (Below.heap_alloc w1 _ bb hx1.bbl) (fun k hk=>Below.heap_alloc w1 _ k (own_lt hB6.own hk))) hp6 hbbb hFb hvb hFv (by omega) (by omega) (by omega)
        have hl6A:∀ k,v6.ownBlock=some k→(fun k=>if k=w1.heap.size then 0 else lab1 k) k=6:=fun k hk=>(if_neg (by have:=own_lt hB6.own hk;omega)).trans (hl6 k hk)
        have HNA:Hid (∀ w2,WRes b bb 78 F3.length C1 OI1.f IX.buf v6 F3 (w1.drewN 1) w2→SRel base (w1.drewN 1) b bb lab1 (F3++sealB IX.buf) { DF with buf:=sealB DF.buf } { IX with buf:=sealB IX.buf } F3.length IX.buf.length (w2.alloc (.cells #[.int .u64 F3.length,.int .u64 IX.buf.length] 114)) w2.heap.size∧w2.cell? ⟨b,4,none⟩=some (.int .u64 1)∧(w2.alloc (.cells #[.int .u64 F3.length,.int .u64 IX.buf.length] 114)).cell? ⟨b,4,none⟩=some (.int .u64 1)∧(w2.alloc (.cells #[.int .u64 0,.int .u64 0] 114)).cell? ⟨b,4,none⟩=some (.int .u64 1)):=hid fun w2 h =>
         WXTo.callFirst (hx1.ext (w':=w1.drewN 1) (fun _ _ _=>rfl)) ((hx1.ext (w':=w1.drewN 1) (fun _ _ _=>rfl)).sealI hl6 h) _ _
        have HNB:Hid (∀ w2,WRes b bb 78 F3.length C1 OI1.f IX.buf v6 F3 ((w1.alloc (.cells #[.int .u64 0,.int .u64 0] 114)).drewN 1) w2→Blk w2 w1.heap.size #[.int .u64 0,.int .u64 0] 114∧SRel base (w1.drewN 1) b bb lab1 (F3++sealB IX.buf) { DF with buf:=sealB DF.buf } { IX with buf:=sealB IX.buf } F3.length IX.buf.length ((w2.setCell ⟨w1.heap.size,0,none⟩ (.int .u64 F3.length)).setCell ⟨w1.heap.size,1,none⟩ (.int .u64 IX.buf.length)) w1.heap.size∧w2.cell? ⟨b,4,none⟩=some (.int .u64 1) ∧
          ((w2.setCell ⟨w1.heap.size,0,none⟩ (.int .u64 F3.length)).setCell ⟨w1.heap.size,1,none⟩ (.int .u64 IX.buf.length)).cell? ⟨b,4,none⟩=some (.int .u64 1)):=hid fun w2 h =>
         WX.allocFirst (hx1.ext (w':=w1.drewN 1) (fun _ _ _=>rfl)) ((hx1A.ext (w':=(w1.alloc (.cells #[.int .u64 0,.int .u64 0] 114)).drewN 1) (fun _ _ _=>rfl)).sealI hl6A h) _ _
        have hq4:=hx1.data.ub.blk.cell hx1.comp;have hq4A:=hx1A.data.ub.blk.cell hx1A.comp;clear hub1 hFb hvb hFv hx1A hl6A hB6 hp6 hl6;have HX1:=hid hx1;clear hx1;go_cut [10,9] (fun t8 t9 wx=>t9=.nilIface∧∃ p8,t8=.pointer (some ⟨p8,0,none⟩)∧SRel base (w1.drewN 1) b bb lab1 (F3++sealB IX.buf) { DF with buf:=sealB DF.buf } { IX with buf:=sealB IX.buf } F3.length IX.buf.length wx p8)
        case first=>as_aux_lemma =>
         generalize hFO:F3.length=FO at *;generalize hLB:IX.buf.length=LB at *;have HFO:=hid hFO;have HLB:=hid hLB;clear hFO hLB;refine Pos.start (fun W:World=>W.cell? ⟨b,4,none⟩=some (.int .u64 1)) 15 (by kernel_rfl) ?_;have hS:(fun W:World=>W.cell? ⟨b,4,none⟩=some (.int .u64 1)) (w1.drewN 1):=hq4;iterate 9
          refine' Pos.takeK hS rfl (by kernel_rfl) (fun _ _ _ h=>h) (by rfl) ?_ ?_;rotate_left
          ·intro W hW;obtain s1:=hW;go_simp;try with_reducible rfl
          intro K hK;go_simp;refine hK _ ?_;clear hK K
         refine Pos.toG 7 #[true,true,true,true,true,true,true,true,true,false,false,false,false,false,false,false] rfl (by kernel_rfl) ?_;refine PosG.split (i:=9) (j:=13) rfl rfl (by kernel_rfl) ?_ ?_
         ·go_wp2_with fail
          refine hwbA.mono ?_;rintro e w2 ⟨rfl,hw2⟩;obtain ⟨hrel,hSa,hSb,hSc⟩:=HNA.out w2 hw2;have HR:=hid hrel;clear hwbA hwbB hw2 hS hrel HNA HNB hq4A;dsimp only;go_wp2_with fail
          have hS:(fun W:World=>W.cell? ⟨b,4,none⟩=some (.int .u64 1)) w2:=hSa;refine ⟨hS,?_⟩;refine' PosG.takeK (k:=10) hS rfl (by kernel_rfl) (fun _ _ _ h=>h) (by rfl) ?_ ?_;rotate_left
          ·intro W hW;obtain s1:=hW;go_simp;try with_reducible rfl
          intro K hK;go_simp;refine hK _ ?_;clear hK K;refine' PosG.takeK (k:=11) hS rfl (by kernel_rfl) (fun _ _ _ h=>h) (by rfl) ?_ ?_;rotate_left
          ·intro W hW;obtain s1:=hW;go_simp;try with_reducible rfl
          intro K hK;go_simp;refine hK _ ?_;clear hK K;refine' PosG.takeK (k:=12) hS rfl (by kernel_rfl) (fun _ _ _ h=>h) (by rfl) ?_ ?_;rotate_left
          ·intro W hW;obtain s1:=hW;go_simp;try with_reducible rfl
          intro K hK;go_simp;refine hK _ ?_;clear hK K;refine PosG.eff (k:=13) rfl (by kernel_rfl) ?_;go_wp2
          have hpn:=Blk.new w2 #[.int .u64 0,.int .u64 0] 114;have hp0:=hpn.cell (k:=0) rfl;have hp1:=hpn.cell (k:=1) rfl;have hpf0:=hpn.free 0;have hpf1:=hpn.free 1;refine ⟨hSc,?_⟩;refine PosG.eff (k:=14) rfl (by kernel_rfl) ?_;go_wp2
          refine ⟨hSb,?_⟩;clear hp0 hp1 hpf0 hpf1 hpn hSa hSb hSc hS;refine PosG.tail rfl (by kernel_rfl) (by kernel_rfl) (by decide) ?_;simp only [List.drop_succ_cons,List.drop_zero];go_wp2_with fail
          go_meet
          case rel=>exact ⟨rfl,_,rfl,HR.out⟩
         ·go_wp2
          clear hS;have hS:(fun W:World=>W.cell? ⟨b,4,none⟩=some (.int .u64 1)) ((w1.alloc (.cells #[.int .u64 0,.int .u64 0] 114)).drewN 1):=hq4A;refine ⟨hS,?_⟩;refine PosG.eff (k:=9) rfl (by kernel_rfl) ?_;go_wp2_with fail
          refine hwbB.mono ?_;rintro e w2 ⟨rfl,hw2⟩;obtain ⟨hpw,hrel,hSa,hSb⟩:=HNB.out w2 hw2;have HR:=hid hrel;have HPW:=hid hpw;clear hwbA hwbB hw2 hS hrel HNA HNB hq4A hpw;dsimp only;go_wp2_with fail
          have hS:(fun W:World=>W.cell? ⟨b,4,none⟩=some (.int .u64 1)) w2:=hSa;refine ⟨hS,?_⟩;refine' PosG.takeK (k:=10) hS rfl (by kernel_rfl) (fun _ _ _ h=>h) (by rfl) ?_ ?_;rotate_left
          ·intro W hW;obtain s1:=hW;go_simp;try with_reducible rfl
          intro K hK;go_simp;refine hK _ ?_;clear hK K;refine' PosG.takeK (k:=11) hS rfl (by kernel_rfl) (fun _ _ _ h=>h) (by rfl) ?_ ?_;rotate_left
          ·intro W hW;obtain s1:=hW;go_simp;try with_reducible rfl
          intro K hK;go_simp;refine hK _ ?_;clear hK K;refine' PosG.takeK (k:=12) hS rfl (by kernel_rfl) (fun _ _ _ h=>h) (by rfl) ?_ ?_;rotate_left
          ·intro W hW;obtain s1:=hW;go_simp;try with_reducible rfl
          intro K hK;go_simp;refine hK _ ?_;clear hK K;have hpw:=HPW.out;have hp0:=hpw.cell (k:=0) rfl;have hp1:=hpw.cell (k:=1) rfl;have hpf0:=hpw.free 0;have hpf1:=hpw.free 1;refine PosG.eff (k:=14) rfl (by kernel_rfl) ?_;go_wp2
          refine ⟨hSb,?_⟩;clear hp0 hp1 hpf0 hpf1 hpw hSa hSb hS;refine PosG.tail rfl (by kernel_rfl) (by kernel_rfl) (by decide) ?_;simp only [List.drop_succ_cons,List.drop_zero];go_wp2_with fail
          go_meet
          case rel=>exact ⟨rfl,_,rfl,HR.out⟩
        case rest =>
         obtain ⟨rfl,p10,rfl,hrel⟩:=hcut;obtain ⟨lab2,C2,OD2,OI2,hx2,hl10,hp10,hb10,hbp10,hp10b,hz10⟩:=hrel;have hB12:=HB3.out.trans ((Below.drewN' base w1 1).trans hb10);have hp8:Blk wc p8 #[.int .u64 file2.length,.int .u64 DF.buf.length] 114:=((hz10 p8 HP83.out.lt HL83.out).1).trans HP83.out;clear HX1 HNA HNB hwbA hwbB hq4 hq4A hb10 hz10 HB3 HP83 HL83;have hmo:file2.length < 34359738368:=by omega
         have hml:DF.buf.length < 34359738368:=by omega
         have hio:F3.length < 34359738368:=by omega
         have hil:IX.buf.length < 34359738368:=by omega
         have hF4:(F3++sealB IX.buf).length≤436207700:=by rw [List.length_append,sealB_length];omega
         have hsz2:=hx2.size;have hp8b':p8≠b:=hp8b;have HX2:=hid hx2;have HB2:=hid hB12;have HP8:=hid hp8;have HP10:=hid hp10;have hC2:wc=wc.setRow b (splice C2 221 (bv (List.replicate 0 0))):=by
          have:splice C2 221 (bv (List.replicate 0 (0:UInt8)))=C2:=by simp [splice,bv,Lib.byteCells]
          rw [this,setRow_self wc b C2 117 (0,0) hx2.data.ub.blk]
         have HC2:=hid hC2;clear hC2 hx2 hB12 hp8 hp10 hl10;generalize hMO:file2.length=MO at *;generalize hML:DF.buf.length=ML at *;generalize hIO:F3.length=IO at *;generalize hIL:IX.buf.length=IL at *;go_wp2_with fail
         go_loopw [167] (fun i wr=>∃ j:Nat,j≤48∧i=.int .i64 j∧wr=wc.setRow b (splice C2 221 (bv (List.replicate j 0)))) (fun i _=>48 - (intOf i).toNat)
         case atStart=>exact ⟨0,by omega,rfl,HC2.out⟩
         case round =>
          obtain ⟨j,hj,rfl,hwr⟩:=hrel;by_cases hlt:j < 48
          ·have hbB:Blk wr b (splice C2 221 (bv (List.replicate j 0))) 117:=by rw [hwr];exact HX2.out.data.ub.blk.setRow _
           have hfit:221+(bv (List.replicate j (0:UInt8))).length≤C2.size:=by rw [bv_length];simp;omega
           obtain ⟨xv,hxv⟩:∃ xv,(splice C2 221 (bv (List.replicate j 0)))[221+j]?=some xv:=⟨_,Array.getElem?_eq_getElem (by rw [splice_size hfit];omega)⟩;have hcx:=hbB.cell hxv;have hfx:=hbB.free (221+j);have HN:Hid (wr.setCell ⟨b,221+j,none⟩ (.int .u8 0)=wc.setRow b (splice C2 221 (bv (List.replicate (j+1) 0)))):=hid (by
            have hz:=zset (o:=221) HX2.out.data.ub.blk (List.replicate j 0) 0 (by simp;omega);rw [hwr,List.replicate_succ'];simpa using hz)
           clear hwr hbB hxv hfit;go_wp2_with fail
           go_roundw
           case rel=>exact ⟨j+1,by omega,by go_num,HN.out⟩
           case measure =>
            simp only [intOf];omega
          ·have hj48:j=48:=by omega
           subst hj48;have hx5:=(HX2.out.rowTo (C2:=splice C2 221 (bv (List.replicate 48 0))) (splice_size (by rw [bv_length];simp;omega)) (fun k hk=>splice_out (by rw [bv_length];simp;omega) (by omega)));rw [← hwr] at hx5;obtain ⟨hx5,hb5,hz5⟩:=hx5;have l1:(hdl MO ML).length≤10:=by
            have h1:=uvarint_len5 hmo;have h2:=uvarint_len5 hml;unfold hdl;rw [List.length_append];omega
           have l2:(hdl IO IL).length≤10:=by
            have h1:=uvarint_len5 hio;have h2:=uvarint_len5 hil;unfold hdl;rw [List.length_append];omega
           have hsz5:=hx5.size;have he1:=encodeBH_any b 221 48 50 MO ML hmo hml wr _ 117 hx5.data.ub.blk (by omega) (by omega) (by omega);have hp85:Blk wr p8 #[.int .u64 MO,.int .u64 ML] 114:=by rw [hwr];exact (setRow_other wc b p8 _ hp8b).trans HP8.out
           have hp105:Blk wr p10 #[.int .u64 IO,.int .u64 IL] 114:=by rw [hwr];exact (setRow_other wc b p10 _ hp10b).trans HP10.out
           have hq80:=hp85.cell (k:=0) rfl;have hq81:=hp85.cell (k:=1) rfl;have HP105:=hid hp105;have HX5:=hid hx5;have HB5:=hid (HB2.out.trans hb5);have HL1:=hid l1;have HL2:=hid l2;clear hwr hx5 hb5 hz5 hp85 hp105 HX2 HB2 HP8 HP10 HC2;go_wp2_with fail
           refine he1.mono ?_;rintro e w6 ⟨rfl,k6,hw6⟩;obtain ⟨hx6,hb6,hk6⟩:=HX5.out.encAt MO ML 221 (by omega) (by omega) k6;rw [hw6] at hx6 hb6 hk6;have hsz6:=hx6.size;have HB6:=hid (HB5.out.trans hb6);have hp106:Blk w6 p10 #[.int .u64 IO,.int .u64 IL] 114:=(hk6 p10 HP105.out.lt hp10b).trans HP105.out;have hq0:=hp106.cell (k:=0) rfl;have hq1:=hp106.cell (k:=1) rfl;have he2:=fun k=>encodeBH_any b (221+(hdl MO ML).length) (48 - (hdl MO ML).length) (50 - (hdl MO ML).length) IO IL hio hil (w6.drewN k) _ 117 (hx6.data.ub.blk.drewN k) (by omega) (by omega) (by omega)
           have hsl6:∀ w',(Instr.slice 29 (.slice (some ⟨b,221,none⟩) 48 50) (some (.int .i64 ((hdl MO ML).length:Int))) none none).run Tryz.prog w'=.ok (.slice (some ⟨b,221+(hdl MO ML).length,none⟩) (48 - (hdl MO ML).length) (50 - (hdl MO ML).length)) w':=fun w'=>by
            rw [run_slice_lo (P:=Tryz.prog) 29 5 un29 sz5 .i64 _ _ _ (hdl MO ML).length (by omega) w'];unfold cutA;rw [if_neg (by omega)];by_cases e0:(hdl MO ML).length=0
            ·rw [e0];simp [Addr.add]
            ·simp [Addr.add,e0]
           have HX6:=hid hx6;have HE2:=hid he2;clear he1 hw6 hx6 hb6 hk6 hp106 HX5 HB5 HP105 hq80 hq81 he2;have he2:=HE2.out;generalize hn1:(hdl MO ML).length=n1 at *;clear HE2;dsimp only;go_wp2_with fail
           refine wp_tail 4 (by kernel_rfl) ?_;simp only [List.take_succ_cons,List.take_zero,List.drop_succ_cons,List.drop_zero];repeat still_step
           refine wpStill_nil ?_;go_wp2_with fail
           refine (he2 _).mono ?_;rintro e w7 ⟨rfl,k7,hw7⟩;have l1:=HL1.out;have l2:=HL2.out;obtain ⟨hx7,hb7,hk7⟩:=(HX6.out.ext (w':=w6.drewN 1) (fun _ _ _=>rfl)).encAt IO IL (221+n1) (by omega) (by omega) k7;rw [hw7] at hx7 hb7 hk7;have hsz7:=hx7.size;have HB7:=hid ((HB6.out.trans (Below.drewN' base w6 1)).trans hb7);have hcp:=copy_magic w7 b _ hx7.data.ub.blk hsz7;have hsl7:∀ w',(Instr.slice 29 (.slice (some ⟨b,221,none⟩) 48 50) (some (.int .i64 40)) none none).run Tryz.prog w'=.ok (.slice (some ⟨b,261,none⟩) 8 10) w':=fun w'=>by
            rw [show (40:Int)=((40:Nat):Int) from rfl,run_slice_lo (P:=Tryz.prog) 29 5 un29 sz5 .i64 _ _ _ 40 (by omega) w'];rfl
           have hbm:(bv magic).length=8:=rfl;obtain ⟨hx8,hb8,_⟩:=hx7.rowTo (C2:=splice (splice (splice (splice C2 221 (bv (List.replicate 48 0))) 221 (bv (hdl MO ML))) (221+n1) (bv (hdl IO IL))) 261 (bv magic)) (splice_size (by omega)) (fun k hk=>splice_out (by omega) (by omega));obtain ⟨w8,hw8⟩:∃ w8,w8=w7.setRow b (splice (splice (splice (splice C2 221 (bv (List.replicate 48 0))) 221 (bv (hdl MO ML))) (221+n1) (bv (hdl IO IL))) 261 (bv magic)):=⟨_,rfl⟩
           rw [← hw8] at hcp hx8 hb8;have hrep:(List.replicate 48 (0:UInt8)).length=48:=by simp
           have hfoot:splice (splice (splice (splice C2 221 (bv (List.replicate 48 0))) 221 (bv (hdl MO ML))) (221+n1) (bv (hdl IO IL))) 261 (bv magic)=splice C2 221 (bv (footer MO ML IO IL)):=by
            have e1:=splice_ov (C:=C2) (o:=221) (f:=List.replicate 48 0) (g:=hdl MO ML) (i:=0) (by omega) (by omega);rw [Nat.add_zero] at e1;have s1:=ov_length (f:=List.replicate 48 0) (i:=0) (g:=hdl MO ML) (by omega);rw [e1,← hn1,splice_ov (by rw [s1];omega) (by rw [s1];omega)];have s2:=ov_length (f:=ov (List.replicate 48 0) 0 (hdl MO ML)) (i:=(hdl MO ML).length) (g:=hdl IO IL) (by rw [s1];omega)
            rw [show 261=221+40 from rfl,splice_ov (by rw [s2,s1];omega) (by rw [s2,s1];show 40+8≤_;omega),footer_ov (by omega) l2]
           rw [hfoot] at hx8;have hflen:(footer MO ML IO IL).length=48:=by
            have hm:magic.length=8:=rfl;unfold footer;simp only [List.length_append,List.length_replicate,hm];omega
           have hslf:Sl w8 (some ⟨b,221,none⟩) 48 50 (footer MO ML IO IL):=⟨hflen,by omega,by decide,fun h=>by simp at h,fun j hj=>⟨b,221,rfl,by
            rw [hx8.data.ub.blk.cell',splice_in (by rw [bv_length];omega) (by rw [bv_length];exact hj)];simp [bv,Lib.byteCells,hj]⟩⟩
           obtain ⟨v8,hBB8,hpos8,hl8v⟩:=hx8.bf;have hwr:=bwrite_any w8 bb (F3++sealB IX.buf) v8 hBB8 hpos8 (some ⟨b,221,none⟩) 48 50 (footer MO ML IO IL) hslf (fun q hq=>by
            rw [Option.some.injEq] at hq;rw [← hq];exact fun e=>hbbb (by rw [← e])) (by omega) (by omega)
           have hq0:w8.cell? ⟨b,0,none⟩=some (.iface 53 (.pointer (some ⟨bb,0,none⟩))):=hx8.data.ub.blk.cell hx8.wr;have HX8:=hid hx8;have HB8:=hid (HB7.out.trans hb8);clear he2 hw7 hx7 hb7 hk7 hw8 hfoot hslf hx8 hb8 hBB8 hpos8 HX6 HB6 l1 l2 hq1;dsimp only;go_wp2_with fail
           refine hwr.mono ?_;rintro e w9 ⟨rfl,v9,hB9,hf9,hv9⟩;have hblk9:w9.heap[b]?=w8.heap[b]?:=hf9.block b HX8.out.bl (by
            rintro (h | h)
            ·exact hbbb h.symm
            ·have h1:=hl8v _ h;have h2:=HX8.out.labB;omega)
           have hBb9:Blk w9 b (splice C2 221 (bv (footer MO ML IO IL))) 117:=hblk9.trans HX8.out.data.ub.blk;have hz219:w9.cell? ⟨b,219,none⟩=some (.int .u64 ((F3++sealB IX.buf).length:Nat)):=hBb9.cell HX8.out.off;have hz1':w9.cell? ⟨b,1,none⟩=some .nilIface:=hBb9.cell HX8.out.err;have hf219:=hBb9.free 219;have hf1:=hBb9.free 1;have hbB:base≤b:=HX8.out.baseB;have hb9l:b < w9.heap.size:=hBb9.lt;have hB89:Below base w8 w9:=⟨hf9.os,hf9.tape,hf9.output,hf9.size,fun k hk=>hf9.block k (by have:=HX8.out.bl;omega) (by
            rintro (h | h)
            ·have h1:=HX8.out.low bb (by rw [HX8.out.labF];decide);omega
            ·have h1:=HX8.out.low k (by rw [hl8v k h];decide);omega)⟩
           have hvb9:v9.ownBlock≠some b:=fun e=>by
            rcases hv9 _ e with h | h
            ·have h1:=hl8v _ h;have h2:=HX8.out.labB;omega
            ·have:=HX8.out.bl;have h':w8.heap.size≤b:=h;omega
           have hend:∀ wz,(∀ k,k≠b→k < w9.heap.size→wz.heap[k]?=w9.heap[k]?)→wz.os=w9.os→wz.tape=w9.tape→wz.output=w9.output→w9.heap.size≤wz.heap.size→∃ v,BB wz bb (F3++sealB IX.buf++footer MO ML IO IL) v∧Below base w wz:=fun wz hk h1 h2 h3 h4 =>
            ⟨v9,hB9.keep (hk bb hbbb (by obtain ⟨lr,hx⟩:=hB9.blk;exact hx.lt)) (fun k e=>hk k (fun e2=>hvb9 (e2 ▸ e)) (own_lt hB9.own e)),(HB8.out.trans hB89).trans ⟨h1,h2,h3,h4,fun k hk'=>hk k (by omega) (by omega)⟩⟩
           have HEND:=hid hend;have hw48:IntKind.u64.wrap (((F3++sealB IX.buf).length:Int)+48)=((F3++sealB IX.buf).length:Int)+48:=IntWalk.u64_in _ (by omega);clear hwr hB9 hf9 hv9 hblk9 hBb9 hB89 hvb9 hend hbB;generalize hFL:(F3++sealB IX.buf).length=FL at *;dsimp only;go_wp2_with fail
           refine (newErr_any _ _).mono ?_;rintro e w10 ⟨rfl,hw10⟩;rw [hw10];clear hw10;dsimp only;go_wp2_with fail
           go_ret
           obtain ⟨vz,hBz,hbz⟩:=HEND.out _ (fun k hk hlt=>(Below.heap_alloc _ _ k (by simpa using hlt)).trans ((Below.heap_setCell _ ⟨b,_,none⟩ _ k hk).trans (Below.heap_setCell _ ⟨b,_,none⟩ _ k hk))) rfl rfl rfl (by simp);obtain ⟨_,_,_,_,_,_,_,_,hcb,_⟩:=HN.out;refine ⟨rfl,_,vz,⟨s2,file2,fo,fl,data3,HA.out,hcb,HD3.out,?_⟩,hBz,hbz⟩;rw [hdF,hF3,hIX,hMO,hML,hIO,hIL]
end
end Go.Proofs.YtmkdpjicgjhhjaaGreatDoor
