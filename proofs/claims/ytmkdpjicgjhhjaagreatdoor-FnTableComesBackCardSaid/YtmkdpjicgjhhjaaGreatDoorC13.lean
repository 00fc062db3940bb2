/- Part 13 of the proof of FnTableComesBack: contracts and lemmas, each under the conditions that it states. Texts: Sep2, BBuf, BWr. -/
import Derived.Test.YtmkdpjicgjhhjaaGreatDoorC12
import Derived.Test.YtmkdpjicgjhhjaaGreatDoorC09
namespace Go.Proofs.YtmkdpjicgjhhjaaGreatDoor
open Go.Lib (hid)
set_option maxRecDepth 100000
set_option linter.all false
section
open Go Go.RowKit Go.Shelf
open Go.Lib (compareBytes)
def IsSep (l r s:List UInt8):Prop:=compareBytes l s=-1∧compareBytes s r=-1∧s.length≤l.length
set_option maxHeartbeats 4000000 in
theorem sep_ge (w:World) (da:Option Addr) (dc:Nat) (hd:w.ownsRow 0 5 1 (.slice da 0 dc) 0 []) (b1 o1 b2 o2 n1 c1 n2 c2:Nat) (l1 l2:List UInt8) (h1:Sl w (some ⟨b1,o1,none⟩) n1 c1 l1) (h2:Sl w (some ⟨b2,o2,none⟩) n2 c2 l2) (hb:n1≤4294967295) (hle:n1≤n2) :
  Calls Tryz.prog 179 #[.agg #[],.slice da 0 dc,.slice (some ⟨b1,o1,none⟩) n1 c1,.slice (some ⟨b2,o2,none⟩) n2 c2] w fun e w'=>SRes (.slice da 0 dc) (IsSep l1 l2) w e w':=by
 have hl1:=h1.len;have hl2:=h2.len;have hd0:decide ((n2:Int) < n1)=false:=by simp;omega
 have hf0:Fr (fun _=>False) w (w.alloc (.cells #[] 192)):=(Fr.refl (fun _=>False) w).alloc _;have h1':=h1.fr hf0 (fun _ _ h=>h);have h2':=h2.fr hf0 (fun _ _ h=>h);have HD:=hid (own_fr hd hf0 (fun _ _ h=>h));have HF:=hid hf0;have hC1:=fun i (hi:i < n1)=>h1'.get (j:=i) (by omega)
 have hC2:=fun i (hi:i < n1)=>h2'.get (j:=i) (by omega)
 have hcap:=h1.cap;have HS1:=hid h1';have HC1:=hid hC1;have HC2:=hid hC2;have HL1:=hid hl1;clear hC1 hC2 h1 h2 hl1 hl2 h1' h2' hd hf0;go_enter Tryz.func179,Tryz.ntmps179
 go_wp2
 go_loopw [9] (fun v wr=>∃ i:Nat,i≤n1∧v=.int .i64 i∧Hid (∀ j,j < i→l1[j]?=l2[j]?)∧∃ k,wr=(w.alloc (.cells #[] 192)).drewN k) (fun v _=>n1 - (intOf v).toNat)
 case atStart=>exact ⟨0,Nat.zero_le _,rfl,hid (fun j hj=>by omega),0,rfl⟩
 case round =>
  obtain ⟨i,hi,rfl,hp,k,rfl⟩:=hrel;by_cases hlt:i < n1
  ·obtain ⟨x,hx1',hc1⟩:=HC1.out i hlt;obtain ⟨y,hx2',hc2⟩:=HC2.out i hlt;have hx1:=hid hx1';have hx2:=hid hx2';clear hx1' hx2';have hi1:(i:Int) < (n1:Int):=by omega
   have hi2:(i:Int) < (n2:Int):=by omega
   have hi0:(0:Int)≤(i:Int):=by omega
   by_cases hxy:x=y
   ·have hbe:((x.toNat:Int) == (y.toNat:Int))=true:=by rw [byte_eq_iff];simp [hxy]
    have hpn:Hid (∀ j,j < i+1→l1[j]?=l2[j]?):=hid fun j hj=>by
     by_cases e:j=i
     ·subst e;rw [hx1.out,hx2.out,hxy]
     ·exact hp.out j (by omega)
    clear hxy;go_wp2
    go_quiet (fail)
    go_wp2
    go_roundw
    case rel=>exact ⟨i+1,by omega,by go_num,hpn,_,rfl⟩
    case measure=>simp [intOf];omega
   ·have hbe:((x.toNat:Int) == (y.toNat:Int))=false:=by rw [byte_eq_iff];simp [hxy]
    have hge:decide ((n1:Int)≤(i:Int))=false:=by simp;omega
    have hx8:=x.toNat_lt;have hy8:=y.toNat_lt;by_cases hff:x=255
    ·have hlt255:decide ((x.toNat:Int) < 255)=false:=by rw [hff];rfl
     clear hff;go_wp2
     go_quiet (fail)
     go_wp2
     go_ret
     exact .inl ⟨rfl,HF.out.drewN _⟩
    ·have hxn:x.toNat≠255:=fun e=>hff (UInt8.toNat_inj.1 (by rw [e];rfl))
     have hlt255:decide ((x.toNat:Int) < 255)=true:=by simp;omega
     have hbm:=u8_bump hff;by_cases hxy2:x.toNat+1 < y.toNat
     ·have hlt2:decide ((x.toNat:Int)+1 < (y.toNat:Int))=true:=by simp;omega
      have hsl:∀ w',(Instr.slice 29 (.slice (some ⟨b1,o1,none⟩) n1 c1) none (some (.int .i64 ((i:Int)+1))) none).run Tryz.prog w'=.ok (.slice (some ⟨b1,o1,none⟩) (i+1) c1) w':=fun w'=>run_slice_hi (P:=Tryz.prog) 29 5 un29 sz5 .i64 (some ⟨b1,o1,none⟩) n1 c1 (i+1) (by omega) w'
      have hP:IsSep l1 l2 (l1.take i++[x+1]):=⟨cmp_bump l1 i x hx1.out hff,cmp_bump2 l1 l2 i x y hp.out (by rw [HL1.out];omega) hx2.out (by rw [UInt8.lt_iff_toNat_lt,hbm];exact hxy2),by have:=HL1.out;simp;omega⟩;have HP:=hid hP;have HT:∀ j,Hid (Sl ((w.alloc (.cells #[] 192)).drewN j) (some ⟨b1,o1,none⟩) (i+1) c1 (l1.take (i+1))):=fun j=>hid ((HS1.out.take (by omega)).fr (S:=fun _=>False) ((Fr.refl _ _).drewN j) (fun _ _ h=>h))
      have HDD:∀ j,Hid (((w.alloc (.cells #[] 192)).drewN j).ownsRow 0 5 1 (.slice da 0 dc) 0 []):=fun j=>HD
      have HBT:Hid (((x+1).toNat:Int)=(x.toNat:Int)+1):=hid (by rw [hbm];rfl);clear hbm hP hff hxy hxy2;go_wp2
      go_quiet (fail)
      go_wp2_with (at_builtin;go_must (refine wpList_app rfl _ _ 29 rfl 5 (.int .u8 0) 1 1 un29 info5 rfl (by omega) (.slice da 0 dc) 0 [] rfl (HDD _).out (some ⟨b1,o1,none⟩) (i+1) c1 (bv (l1.take (i+1))) rfl (by rw [bv_length,(HT 0).out.len];omega) (fun e=>by cases e) (HT _).out.news (bv_one _) (by unfold maxLen;omega) (by omega) ?_);go_must (intro v8 w8 hown8 hgrow8 hlies8);go_must (obtain ⟨a8,c8,rfl,hc8⟩:=own_form hown8);go_must (obtain ⟨g,rfl,hcg,hfg,hres⟩:=bump_res (HF.out.drewN _) hown8 hgrow8 hlies8 hx1.out);go_must (have HR:=hid (hres (IsSep l1 l2) HP.out));clear hown8 hgrow8 hlies8 hres)
      go_ret
      have hR:=HR.out;rw [HBT.out] at hR;exact hR
     ·have hlt2:decide ((x.toNat:Int)+1 < (y.toNat:Int))=false:=by simp;omega
      clear hbm hff hxy hxy2;go_wp2
      go_quiet (fail)
      go_wp2
      go_ret
      exact .inl ⟨rfl,HF.out.drewN _⟩
  ·have hin:i=n1:=by omega
   have hle2:decide ((i:Int) < (n1:Int))=false:=by simp;omega
   have hge:decide ((n1:Int)≤(i:Int))=true:=by simp;omega
   go_wp2
   go_quiet (fail)
   go_wp2
   go_ret
   exact .inl ⟨rfl,HF.out.drewN _⟩
set_option maxHeartbeats 4000000 in
theorem sep_lt (w:World) (da:Option Addr) (dc:Nat) (hd:w.ownsRow 0 5 1 (.slice da 0 dc) 0 []) (b1 o1 b2 o2 n1 c1 n2 c2:Nat) (l1 l2:List UInt8) (h1:Sl w (some ⟨b1,o1,none⟩) n1 c1 l1) (h2:Sl w (some ⟨b2,o2,none⟩) n2 c2 l2) (hb:n2≤4294967295) (hle:n2 < n1) :
  Calls Tryz.prog 179 #[.agg #[],.slice da 0 dc,.slice (some ⟨b1,o1,none⟩) n1 c1,.slice (some ⟨b2,o2,none⟩) n2 c2] w fun e w'=>SRes (.slice da 0 dc) (IsSep l1 l2) w e w':=by
 have hl1:=h1.len;have hl2:=h2.len;have hd0:decide ((n2:Int) < n1)=true:=by simp;omega
 have hf0:Fr (fun _=>False) w (w.alloc (.cells #[] 192)):=(Fr.refl (fun _=>False) w).alloc _;have h1':=h1.fr hf0 (fun _ _ h=>h);have h2':=h2.fr hf0 (fun _ _ h=>h);have HD:=hid (own_fr hd hf0 (fun _ _ h=>h));have HF:=hid hf0;have hC1:=fun i (hi:i < n2)=>h1'.get (j:=i) (by omega)
 have hC2:=fun i (hi:i < n2)=>h2'.get (j:=i) (by omega)
 have hcap:=h1.cap;have HS1:=hid h1';have HC1:=hid hC1;have HC2:=hid hC2;have HL1:=hid hl1;clear hC1 hC2 h1 h2 hl1 hl2 h1' h2' hd hf0;go_enter Tryz.func179,Tryz.ntmps179
 go_wp2
 go_loopw [9] (fun v wr=>∃ i:Nat,i≤n2∧v=.int .i64 i∧Hid (∀ j,j < i→l1[j]?=l2[j]?)∧∃ k,wr=(w.alloc (.cells #[] 192)).drewN k) (fun v _=>n2 - (intOf v).toNat)
 case atStart=>exact ⟨0,Nat.zero_le _,rfl,hid (fun j hj=>by omega),0,rfl⟩
 case round =>
  obtain ⟨i,hi,rfl,hp,k,rfl⟩:=hrel;by_cases hlt:i < n2
  ·obtain ⟨x,hx1',hc1⟩:=HC1.out i hlt;obtain ⟨y,hx2',hc2⟩:=HC2.out i hlt;have hx1:=hid hx1';have hx2:=hid hx2';clear hx1' hx2';have hi1:(i:Int) < (n1:Int):=by omega
   have hi2:(i:Int) < (n2:Int):=by omega
   have hi0:(0:Int)≤(i:Int):=by omega
   by_cases hxy:x=y
   ·have hbe:((x.toNat:Int) == (y.toNat:Int))=true:=by rw [byte_eq_iff];simp [hxy]
    have hpn:Hid (∀ j,j < i+1→l1[j]?=l2[j]?):=hid fun j hj=>by
     by_cases e:j=i
     ·subst e;rw [hx1.out,hx2.out,hxy]
     ·exact hp.out j (by omega)
    clear hxy;go_wp2
    go_quiet (fail)
    go_wp2
    go_roundw
    case rel=>exact ⟨i+1,by omega,by go_num,hpn,_,rfl⟩
    case measure=>simp [intOf];omega
   ·have hbe:((x.toNat:Int) == (y.toNat:Int))=false:=by rw [byte_eq_iff];simp [hxy]
    have hge:decide ((n2:Int)≤(i:Int))=false:=by simp;omega
    have hx8:=x.toNat_lt;have hy8:=y.toNat_lt;by_cases hff:x=255
    ·have hlt255:decide ((x.toNat:Int) < 255)=false:=by rw [hff];rfl
     clear hff;go_wp2
     go_quiet (fail)
     go_wp2
     go_ret
     exact .inl ⟨rfl,HF.out.drewN _⟩
    ·have hxn:x.toNat≠255:=fun e=>hff (UInt8.toNat_inj.1 (by rw [e];rfl))
     have hlt255:decide ((x.toNat:Int) < 255)=true:=by simp;omega
     have hbm:=u8_bump hff;by_cases hxy2:x.toNat+1 < y.toNat
     ·have hlt2:decide ((x.toNat:Int)+1 < (y.toNat:Int))=true:=by simp;omega
      have hsl:∀ w',(Instr.slice 29 (.slice (some ⟨b1,o1,none⟩) n1 c1) none (some (.int .i64 ((i:Int)+1))) none).run Tryz.prog w'=.ok (.slice (some ⟨b1,o1,none⟩) (i+1) c1) w':=fun w'=>run_slice_hi (P:=Tryz.prog) 29 5 un29 sz5 .i64 (some ⟨b1,o1,none⟩) n1 c1 (i+1) (by omega) w'
      have hP:IsSep l1 l2 (l1.take i++[x+1]):=⟨cmp_bump l1 i x hx1.out hff,cmp_bump2 l1 l2 i x y hp.out (by rw [HL1.out];omega) hx2.out (by rw [UInt8.lt_iff_toNat_lt,hbm];exact hxy2),by have:=HL1.out;simp;omega⟩;have HP:=hid hP;have HT:∀ j,Hid (Sl ((w.alloc (.cells #[] 192)).drewN j) (some ⟨b1,o1,none⟩) (i+1) c1 (l1.take (i+1))):=fun j=>hid ((HS1.out.take (by omega)).fr (S:=fun _=>False) ((Fr.refl _ _).drewN j) (fun _ _ h=>h))
      have HDD:∀ j,Hid (((w.alloc (.cells #[] 192)).drewN j).ownsRow 0 5 1 (.slice da 0 dc) 0 []):=fun j=>HD
      have HBT:Hid (((x+1).toNat:Int)=(x.toNat:Int)+1):=hid (by rw [hbm];rfl);clear hbm hP hff hxy hxy2;go_wp2
      go_quiet (fail)
      go_wp2_with (at_builtin;go_must (refine wpList_app rfl _ _ 29 rfl 5 (.int .u8 0) 1 1 un29 info5 rfl (by omega) (.slice da 0 dc) 0 [] rfl (HDD _).out (some ⟨b1,o1,none⟩) (i+1) c1 (bv (l1.take (i+1))) rfl (by rw [bv_length,(HT 0).out.len];omega) (fun e=>by cases e) (HT _).out.news (bv_one _) (by unfold maxLen;omega) (by omega) ?_);go_must (intro v8 w8 hown8 hgrow8 hlies8);go_must (obtain ⟨a8,c8,rfl,hc8⟩:=own_form hown8);go_must (obtain ⟨g,rfl,hcg,hfg,hres⟩:=bump_res (HF.out.drewN _) hown8 hgrow8 hlies8 hx1.out);go_must (have HR:=hid (hres (IsSep l1 l2) HP.out));clear hown8 hgrow8 hlies8 hres)
      go_ret
      have hR:=HR.out;rw [HBT.out] at hR;exact hR
     ·have hlt2:decide ((x.toNat:Int)+1 < (y.toNat:Int))=false:=by simp;omega
      clear hbm hff hxy hxy2;go_wp2
      go_quiet (fail)
      go_wp2
      go_ret
      exact .inl ⟨rfl,HF.out.drewN _⟩
  ·have hin:i=n2:=by omega
   have hle2:decide ((i:Int) < (n2:Int))=false:=by simp;omega
   have hge:decide ((n2:Int)≤(i:Int))=true:=by simp;omega
   go_wp2
   go_quiet (fail)
   go_wp2
   go_ret
   exact .inl ⟨rfl,HF.out.drewN _⟩
set_option maxHeartbeats 1000000 in
theorem sep_e1 (w:World) (da a1 a2:Option Addr) (dc m c1 c2:Nat) (P:List UInt8→Prop) :
  Calls Tryz.prog 179 #[.agg #[],.slice da 0 dc,.slice a1 0 c1,.slice a2 m c2] w fun e w'=>SRes (.slice da 0 dc) P w e w':=by
 have hd:decide ((m:Int) < 0)=false:=by simp
 have HF:=hid ((Fr.refl (fun _=>False) w).alloc (.cells #[] 192));go_enter Tryz.func179,Tryz.ntmps179
 go_wp2
 go_loopw [9] (fun v wr=>v=.int .i64 0∧wr=w.alloc (.cells #[] 192)) (fun v _=>0)
 case atStart=>exact ⟨rfl,rfl⟩
 case round =>
  obtain ⟨rfl,rfl⟩:=hrel;go_wp2
  go_quiet (fail)
  go_wp2
  go_ret
  exact .inl ⟨rfl,HF.out.drewN _⟩
theorem sep_any (w:World) (da:Option Addr) (dc:Nat) (hd:w.ownsRow 0 5 1 (.slice da 0 dc) 0 []) (a1 a2:Option Addr) (n1 c1 n2 c2:Nat) (l1 l2:List UInt8) (h1:Sl w a1 n1 c1 l1) (h2:Sl w a2 n2 c2 l2) (hb1:n1≤4294967295) (hb2:n2≤4294967295) (h0:0 < n2) :
  Calls Tryz.prog 179 #[.agg #[],.slice da 0 dc,.slice a1 n1 c1,.slice a2 n2 c2] w fun e w'=>SRes (.slice da 0 dc) (IsSep l1 l2) w e w':=by
 rcases Nat.eq_zero_or_pos n1 with e1 | e1
 ·subst e1;exact sep_e1 w da a1 a2 dc n2 c1 c2 _
 ·obtain ⟨b1,o1,rfl⟩:=h1.form e1;obtain ⟨b2,o2,rfl⟩:=h2.form h0;by_cases h:n2 < n1
  ·exact sep_lt w da dc hd b1 o1 b2 o2 n1 c1 n2 c2 l1 l2 h1 h2 hb2 h
  ·exact sep_ge w da dc hd b1 o1 b2 o2 n1 c1 n2 c2 l1 l2 h1 h2 hb1 (by omega)
end
section
open Go Go.RowKit Go.Shelf
theorem bb_len (b m c:Nat) (a:Option Addr) (w:World) (hm:m≤1099511627776) (h0:w.cell? ⟨b,0,none⟩=some (.slice a m c)) (h1:w.cell? ⟨b,1,none⟩=some (.int .i64 0)) :
  Calls Tryz.prog 155 #[.pointer (some ⟨b,0,none⟩)] w fun e w'=>e=.returned (.int .i64 m)∧∃ k,w'=w.drewN k:=by
 go_enter Tryz.func155,Tryz.ntmps155
 go_wp2
 go_quiet (fail)
 go_wp2
 go_ret
 exact ⟨by first | rfl | (simp;omega),_,rfl⟩
theorem tg_no (b m n c:Nat) (a:Option Addr) (w:World) (h0:w.cell? ⟨b,0,none⟩=some (.slice a m c)) (hmc:m≤c) (hn:n≤1099511627776) (hno:c < m+n) :
  Calls Tryz.prog 156 #[.pointer (some ⟨b,0,none⟩),.int .i64 n] w fun e w'=>e=.returned (.tuple #[.int .i64 0,.bool false])∧w=w':=by
 have hd:decide ((n:Int)≤(c:Int) - (m:Int))=false:=by simp;omega
 go_enter Tryz.func156,Tryz.ntmps156
 go_wp2
 go_ret2
 exact ⟨rfl,rfl⟩
theorem tg_yes (b m n c:Nat) (a:Option Addr) (w:World) (h0:w.cell? ⟨b,0,none⟩=some (.slice a m c)) (hf:w.frozen? ⟨b,0,none⟩=false) (hm:m≤1099511627776) (hn:n≤1099511627776) (hyes:m+n≤c) (hc:c≤9223372036854775807) :
  Calls Tryz.prog 156 #[.pointer (some ⟨b,0,none⟩),.int .i64 n] w fun e w'=>e=.returned (.tuple #[.int .i64 m,.bool true])∧w.setCell ⟨b,0,none⟩ (.slice a (m+n) c)=w':=by
 have hd:decide ((n:Int)≤(c:Int) - (m:Int))=true:=by simp;omega
 have hsl:∀ w',(Instr.slice 29 (.slice a m c) none (some (.int .i64 (m+n))) none).run Tryz.prog w'=.ok (.slice a (m+n) c) w':=fun w'=>run_slice_hi (P:=Tryz.prog) 29 5 un29 sz5 .i64 a m c (m+n) (by omega) w'
 go_enter Tryz.func156,Tryz.ntmps156
 go_wp2
 go_ret2
 exact ⟨rfl,rfl⟩
structure BB (w:World) (bb:Nat) (l:List UInt8) (v:Value):Prop where
 blk:∃ lr:Int,Blk w bb #[v,.int .i64 0,.int .i8 lr] 50
 own:w.ownsRow 0 5 1 v l.length (bv l)
 ne:v.ownBlock≠some bb
theorem BB.cells {w:World} {bb:Nat} {l:List UInt8} {v:Value} (h:BB w bb l v):w.cell? ⟨bb,0,none⟩=some v∧w.cell? ⟨bb,1,none⟩=some (.int .i64 0)∧∃ lr:Int,w.cell? ⟨bb,2,none⟩=some (.int .i8 lr):=by
 obtain ⟨lr,hb⟩:=h.blk;exact ⟨hb.cell rfl,hb.cell rfl,lr,hb.cell rfl⟩
theorem bbytes_any (w:World) (bb:Nat) (a:Option Addr) (m c:Nat) (h0:w.cell? ⟨bb,0,none⟩=some (.slice a m c)) (h1:w.cell? ⟨bb,1,none⟩=some (.int .i64 0)) :
  Calls Tryz.prog 22 #[.pointer (some ⟨bb,0,none⟩)] w fun e w'=>e=.returned (.slice a m c)∧∃ k,w'=w.drewN k:=by
 have hsz:∀ w',(Instr.slice 29 (.slice a m c) (some (.int .i64 0)) none none).run Tryz.prog w'=.ok (.slice a m c) w':=fun w'=>run_slice_z (P:=Tryz.prog) 29 5 un29 sz5 .i64 a _ c w'
 go_enter Tryz.func22,Tryz.ntmps22
 go_wp2
 go_quiet (fail)
 go_wp2
 go_ret
 exact ⟨rfl,_,rfl⟩
theorem bgrow_small (b n:Nat) (w:World) (hB:∃ lr:Int,Blk w b #[.slice none 0 0,.int .i64 0,.int .i8 lr] 50) (hn:n≤64) (h1n:1≤n) :
  Calls Tryz.prog 157 #[.pointer (some ⟨b,0,none⟩),.int .i64 n] w fun e w'=>e=.returned (.int .i64 0)∧∃ k,((w.setCell ⟨b,0,none⟩ (.slice (some ⟨w.heap.size,0,none⟩) n 64)).alloc (.cells (madeCells #[.int .u8 0] 64) 5)).drewN k=w':=by
 obtain ⟨lr,hB⟩:=hB;have h0:=hB.cell (k:=0) rfl;have h1:=hB.cell (k:=1) rfl;have hf:=hB.free 0;have hlt:=hB.lt;have hl:=bb_len b 0 0 none w (by omega) h0 h1;have ht:=fun k=>tg_no b 0 n 0 none (w.drewN k) (by exact h0) (by omega) (by omega) (by omega)
 obtain ⟨i,hi,hzz⟩:=Option.map_eq_some_iff.1 info5;simp only [Prod.mk.injEq] at hzz;obtain ⟨hz,hs,hb⟩:=hzz;have hmk:∀ w:World,(Instr.makeSlice 29 (.int .i64 n) (.int .i64 64)).run Tryz.prog w=.ok (.slice (some ⟨w.heap.size,0,none⟩) n 64) (w.alloc (.cells (madeCells #[.int .u8 0] 64) 5)):=fun w=>by
  have:=run_make (P:=Tryz.prog) w 29 5 i (.int .u8 0) un29 hi hz .i64 .i64 n 64 (by omega) (by omega) (by rw [hb];omega) (by omega);rw [hs] at this;exact this
 have hle:decide ((n:Int)≤64)=true:=by simp;omega
 have hnil:=fun w=>Lib.run_eql_slice_nil (P:=Tryz.prog) w 29 5 none 0 0 0 0 un29
 clear hi hz hs hb hB;go_enter Tryz.func157,Tryz.ntmps157
 go_wp2_with (first | (go_at_call 155;refine hl.mono ?_;rintro e w1 ⟨rfl,k,rfl⟩) | (go_at_call 156;refine (ht _).mono ?_;rintro e w1 ⟨rfl,rfl⟩))
 go_ret
 exact ⟨rfl,_,rfl⟩
set_option maxHeartbeats 1000000 in
theorem bgrow_nil (b n:Nat) (w:World) (hB:∃ lr:Int,Blk w b #[.slice none 0 0,.int .i64 0,.int .i8 lr] 50) (hn:64 < n) (hlim:n≤1099511627776) :
  Calls Tryz.prog 157 #[.pointer (some ⟨b,0,none⟩),.int .i64 n] w fun e w'=>e=.returned (.int .i64 0)∧∃ cap cells w1,w1.heap[w.heap.size]?=some (.cells cells 5 (0,0))∧cells.size=cap∧n≤cap∧cap≤maxLen∧Below w.heap.size w w1 ∧
   (((w1.setCell ⟨b,0,none⟩ (.slice (some ⟨w.heap.size,0,none⟩) 0 cap)).setCell ⟨b,1,none⟩ (.int .i64 0)).setCell ⟨b,0,none⟩ (.slice (some ⟨w.heap.size,0,none⟩) n cap))=w':=by
 obtain ⟨lr,hB⟩:=hB;have h0:=hB.cell (k:=0) rfl;have h1:=hB.cell (k:=1) rfl;have hf:=hB.free 0;have hlt:=hB.lt;have hl:=bb_len b 0 0 none w (by omega) h0 h1;have ht:=fun k=>tg_no b 0 n 0 none (w.drewN k) (by exact h0) (by omega) (by omega) (by omega)
 have hgs:=fun W=>Tryz.bytes_growSlice_nil n W (by omega) (by omega)
 have hle:decide ((n:Int)≤64)=false:=by simp;omega
 have hle2:decide ((n:Int)≤0)=false:=by simp;omega
 have hnil:=fun w=>Lib.run_eql_slice_nil (P:=Tryz.prog) w 29 5 none 0 0 0 0 un29
 have hw:IntKind.i64.wrap (n:Int)=n:=IntWalk.i64_in _ (by omega);have hsl0:∀ w',(Instr.slice 29 (.slice none 0 0) (some (.int .i64 0)) none none).run Tryz.prog w'=.ok (.slice none 0 0) w':=fun w'=>run_slice_z (P:=Tryz.prog) 29 5 un29 sz5 .i64 none 0 0 w'
 have HB:=hid hB;clear hB;go_enter Tryz.func157,Tryz.ntmps157
 go_wp2_with (first | (go_at_call 155;refine hl.mono ?_;rintro e w1 ⟨rfl,k,rfl⟩) | (go_at_call 156;refine (ht _).mono ?_;rintro e w1 ⟨rfl,rfl⟩))
 refine Pos.start (fun W=>W.cell? ⟨b,0,none⟩=some (.slice none 0 0)∧W.cell? ⟨b,1,none⟩=some (.int .i64 0)) 17 (by kernel_rfl) ?_;have hS:(fun W:World=>W.cell? ⟨b,0,none⟩=some (.slice none 0 0)∧W.cell? ⟨b,1,none⟩=some (.int .i64 0)) ((w.drewN k).drewN 1):=⟨h0,h1⟩;iterate 16
  refine' Pos.takeK hS rfl (by kernel_rfl) (fun _ _ _ h=>h) (by rfl) ?_ ?_;rotate_left
  ·intro W hW;obtain ⟨s1,s2⟩:=hW;go_simp;try with_reducible rfl
  intro K hK;go_simp;refine hK _ ?_;clear hK K
 refine Pos.eff rfl (by kernel_rfl) ?_;go_wp2_with (go_at_call 158;refine (hgs _).mono ?_;rintro e w2 ⟨cap,cells,rfl,hc1,hc2,hc3,hc4,hc5⟩)
 have hz0:w2.cell? ⟨b,0,none⟩=some (.slice none 0 0):=(hc5.cell (p:=⟨b,0,none⟩) (by exact hlt)).trans h0;have hz1:w2.cell? ⟨b,1,none⟩=some (.int .i64 0):=(hc5.cell (p:=⟨b,1,none⟩) (by exact hlt)).trans h1;have hf0:w2.frozen? ⟨b,0,none⟩=false:=(hc5.frozen (p:=⟨b,0,none⟩) (by exact hlt)).trans (HB.out.free 0);have hf1:w2.frozen? ⟨b,1,none⟩=false:=(hc5.frozen (p:=⟨b,1,none⟩) (by exact hlt)).trans (HB.out.free 1)
 have hsl2:∀ w',(Instr.slice 29 (.slice (some ⟨w.heap.size,0,none⟩) 0 cap) none (some (.int .i64 n)) none).run Tryz.prog w'=.ok (.slice (some ⟨w.heap.size,0,none⟩) n cap) w':=fun w'=>run_slice_hi (P:=Tryz.prog) 29 5 un29 sz5 .i64 _ 0 cap n (by omega) w'
 refine ⟨⟨hz0,hz1⟩,?_⟩;have HC1:=hid hc1;have HC2:=hid hc2;have HC5:=hid hc5;clear hc1 hc2 hc5 hS hgs;refine Pos.tail (by kernel_rfl) (by decide) ?_;simp only [List.drop_succ_cons,List.drop_zero];go_wp2
 go_ret
 exact ⟨rfl,cap,cells,w2,HC1.out,HC2.out,hc3,hc4,⟨HC5.out.os,HC5.out.tape,HC5.out.output,HC5.out.size,HC5.out.block⟩,rfl⟩
set_option maxHeartbeats 1000000 in
theorem bgrow_row (b n m c g:Nat) (cur:Array Value) (w:World) (hB:∃ lr:Int,Blk w b #[.slice (some ⟨g,0,none⟩) m c,.int .i64 0,.int .i8 lr] 50) (hg:Blk w g cur 5) (hcs:cur.size=c) (hmc:m≤c) (hm0:0 < m) (h1n:1≤n) (hlim:m+n≤1099511627776) (hc2:c≤140737488355328) (hbig:c < m+n)
  (hone:∀ v∈cur.toList.take m,v.oneCell'=true) :
  Calls Tryz.prog 157 #[.pointer (some ⟨b,0,none⟩),.int .i64 n] w fun e w'=>e=.returned (.int .i64 m)∧∃ cap cells w1,w1.heap[w.heap.size]?=some (.cells cells 5 (0,0))∧cells.size=cap∧cells.toList.take m=cur.toList.take m∧m+n≤cap∧cap≤maxLen∧Below w.heap.size w w1 ∧
   (((w1.setCell ⟨b,0,none⟩ (.slice (some ⟨w.heap.size,0,none⟩) m cap)).setCell ⟨b,1,none⟩ (.int .i64 0)).setCell ⟨b,0,none⟩ (.slice (some ⟨w.heap.size,0,none⟩) (m+n) cap))=w':=by
 obtain ⟨lr,hB⟩:=hB;have h0:=hB.cell (k:=0) rfl;have h1:=hB.cell (k:=1) rfl;have hf:=hB.free 0;have hlt:=hB.lt;have hl:=bb_len b m c (some ⟨g,0,none⟩) w (by omega) h0 h1;have ht:=fun k=>tg_no b m n c (some ⟨g,0,none⟩) (w.drewN k) (by exact h0) (by omega) (by omega) (by omega)
 have hgs:=fun k=>Tryz.bytes_growSlice_row g m c n cur (w.drewN k) hg hcs hmc (by omega) (by omega) (by omega) hone
 have hmz:((m:Int) == 0)=false:=by rw [beq_eq_false_iff_ne];omega
 have hle2:decide ((n:Int)≤(c:Int) / 2 - (m:Int))=false:=by simp;omega
 have hnil:=fun w=>Lib.run_eql_slice_nil (P:=Tryz.prog) w 29 5 (some ⟨g,0,none⟩) m c 0 0 un29
 have hw:IntKind.i64.wrap (n:Int)=n:=IntWalk.i64_in _ (by omega);have hsl0:∀ w',(Instr.slice 29 (.slice (some ⟨g,0,none⟩) m c) (some (.int .i64 0)) none none).run Tryz.prog w'=.ok (.slice (some ⟨g,0,none⟩) m c) w':=fun w'=>run_slice_z (P:=Tryz.prog) 29 5 un29 sz5 .i64 _ m c w'
 have HB:=hid hB;clear hB hg hcs;go_enter Tryz.func157,Tryz.ntmps157
 go_wp2_with (first | (go_at_call 155;refine hl.mono ?_;rintro e w1 ⟨rfl,k,rfl⟩) | (go_at_call 156;refine (ht _).mono ?_;rintro e w1 ⟨rfl,rfl⟩))
 refine Pos.start (fun W=>W.cell? ⟨b,0,none⟩=some (.slice (some ⟨g,0,none⟩) m c)∧W.cell? ⟨b,1,none⟩=some (.int .i64 0)) 17 (by kernel_rfl) ?_;have hS:(fun W:World=>W.cell? ⟨b,0,none⟩=some (.slice (some ⟨g,0,none⟩) m c)∧W.cell? ⟨b,1,none⟩=some (.int .i64 0)) ((w.drewN k).drewN 1):=⟨h0,h1⟩;iterate 16
  refine' Pos.takeK hS rfl (by kernel_rfl) (fun _ _ _ h=>h) (by rfl) ?_ ?_;rotate_left
  ·intro W hW;obtain ⟨s1,s2⟩:=hW;go_simp;try with_reducible rfl
  intro K hK;go_simp;refine hK _ ?_;clear hK K
 refine Pos.eff rfl (by kernel_rfl) ?_;go_wp2_with (go_at_call 158;refine (hgs _).mono ?_;rintro e w2 ⟨cap,cells,rfl,hc1,hc2',hcq,hc3,hc4,hc5⟩)
 have hz0:w2.cell? ⟨b,0,none⟩=some (.slice (some ⟨g,0,none⟩) m c):=(hc5.cell (p:=⟨b,0,none⟩) (by exact hlt)).trans h0;have hz1:w2.cell? ⟨b,1,none⟩=some (.int .i64 0):=(hc5.cell (p:=⟨b,1,none⟩) (by exact hlt)).trans h1;have hf0:w2.frozen? ⟨b,0,none⟩=false:=(hc5.frozen (p:=⟨b,0,none⟩) (by exact hlt)).trans (HB.out.free 0);have hf1:w2.frozen? ⟨b,1,none⟩=false:=(hc5.frozen (p:=⟨b,1,none⟩) (by exact hlt)).trans (HB.out.free 1)
 have hsl2:∀ w',(Instr.slice 29 (.slice (some ⟨w.heap.size,0,none⟩) m cap) none (some (.int .i64 (m+n))) none).run Tryz.prog w'=.ok (.slice (some ⟨w.heap.size,0,none⟩) (m+n) cap) w':=fun w'=>run_slice_hi (P:=Tryz.prog) 29 5 un29 sz5 .i64 _ m cap (m+n) (by omega) w'
 refine ⟨⟨hz0,hz1⟩,?_⟩;have HC1:=hid hc1;have HC2:=hid hc2';have HCQ:=hid hcq;have HC5:=hid hc5;clear hc1 hc2' hcq hc5 hS hgs;refine Pos.tail (by kernel_rfl) (by decide) ?_;simp only [List.drop_succ_cons,List.drop_zero];go_wp2
 go_ret
 exact ⟨rfl,cap,cells,w2,HC1.out,HC2.out,HCQ.out,hc3,hc4,⟨HC5.out.os,HC5.out.tape,HC5.out.output,HC5.out.size,HC5.out.block⟩,rfl⟩
end
section
open Go Go.RowKit Go.Shelf
def BRoom (bb m n:Nat) (l:List UInt8) (v:Value) (w w':World):Prop :=
 ∃ g cap cur,∃ lr:Int,Blk w' bb #[.slice (some ⟨g,0,none⟩) (m+n) cap,.int .i64 0,.int .i8 lr] 50∧Blk w' g cur 5∧g≠bb∧cur.size=cap∧m+n≤cap∧cap≤maxLen∧cur.toList.take m=bv l∧Fr (fun k=>k=bb) w w'∧(v.ownBlock=some g∨w.heap.size≤g)
theorem BB.case {w:World} {bb:Nat} {l:List UInt8} {v:Value} (h:BB w bb l v) :
  (v=.slice none 0 0∧l=[])∨∃ g cap cur,v=.slice (some ⟨g,0,none⟩) l.length cap∧Blk w g cur 5∧g≠bb∧cur.size=cap∧l.length≤cap∧cap≤maxLen∧cur.toList.take l.length=bv l:=by
 obtain ⟨_,⟨rfl,h0⟩ | ⟨g,cap,cur,rfl,_,hg,hn,hm,hs,ht⟩⟩:=h.own
 ·exact .inl ⟨rfl,List.length_eq_zero_iff.1 h0⟩
 ·exact .inr ⟨g,cap,cur,rfl,hg,fun e=>h.ne (by simp [Value.ownBlock,e]),by omega,hn,hm,by simpa using ht⟩
theorem blk3 {w:World} {b T:Nat} {x y z:Value} {u:Value} (h:Blk w b #[x,y,z] T):Blk (w.setCell ⟨b,0,none⟩ u) b #[u,y,z] T:=by
 have:=h.set 0 u;simpa using this
theorem blk3b {w:World} {b T:Nat} {x y z:Value} {u:Value} (h:Blk w b #[x,y,z] T):Blk (w.setCell ⟨b,1,none⟩ u) b #[x,u,z] T:=by
 have:=h.set 1 u;simpa using this
theorem blk3c {w:World} {b T:Nat} {x y z:Value} {u:Value} (h:Blk w b #[x,y,z] T):Blk (w.setCell ⟨b,2,none⟩ u) b #[x,y,u] T:=by
 have:=h.set 2 u;simpa using this
theorem bgrow_any (w:World) (bb n:Nat) (l:List UInt8) (v:Value) (h:BB w bb l v) (hpos:l=[]→v=.slice none 0 0) (h1n:1≤n) (hlim:l.length+n≤1099511627776)
  (hno:∀ a m c,v=.slice a m c→c < l.length+n) :
  Calls Tryz.prog 157 #[.pointer (some ⟨bb,0,none⟩),.int .i64 n] w fun e w'=>e=.returned (.int .i64 l.length)∧BRoom bb l.length n l v w w':=by
 obtain ⟨lr,hB⟩:=h.blk;have hbl:=hB.lt;rcases h.case with ⟨rfl,rfl⟩ | ⟨g,cap,cur,rfl,hg,hgb,hs,hn,hm,ht⟩
 ·by_cases h64:n≤64
  ·refine (bgrow_small bb n w ⟨lr,hB⟩ h64 h1n).mono ?_;rintro e w' ⟨rfl,k,rfl⟩;refine ⟨rfl,w.heap.size,64,madeCells #[.int .u8 0] 64,lr,?_,?_,by omega,by simp [madeCells],by simp;omega,by unfold maxLen;omega,by simp [bv,Lib.byteCells],?_,.inr (Nat.le_refl _)⟩
   ·have:=((blk3 (u:=.slice (some ⟨w.heap.size,0,none⟩) n 64) hB).alloc (.cells (madeCells #[.int .u8 0] 64) 5)).drewN k;simpa using this
   ·have:=(Blk.new (w.setCell ⟨bb,0,none⟩ (.slice (some ⟨w.heap.size,0,none⟩) n 64)) (madeCells #[.int .u8 0] 64) 5).drewN k;simpa using this
   ·exact (((Fr.refl (fun k=>k=bb) w).setC bb 0 _ rfl).alloc _).drewN k
  ·refine (bgrow_nil bb n w ⟨lr,hB⟩ (by omega) (by simp at hlim;omega)).mono ?_;rintro e w' ⟨rfl,cap,cells,w1,hc,hcs,hnc,hcm,hbe,rfl⟩;have hB1:Blk w1 bb _ 50:=(hbe.block bb hbl).trans hB;refine ⟨rfl,w.heap.size,cap,cells,lr,?_,?_,by omega,hcs,by simp;omega,hcm,by simp [bv,Lib.byteCells],?_,.inr (Nat.le_refl _)⟩
   ·have:=blk3 (u:=.slice (some ⟨w.heap.size,0,none⟩) n cap) (blk3b (u:=.int .i64 0) (blk3 (u:=.slice (some ⟨w.heap.size,0,none⟩) 0 cap) hB1));simpa using this
   ·exact ((Blk.other (C:=cells) (T:=5) hc _ (by simp;omega)).other _ (by simp;omega)).other _ (by simp;omega)
   ·exact (((Fr.of_below (S:=fun k=>k=bb) hbe).setC bb 0 _ rfl).setC bb 1 _ rfl).setC bb 0 _ rfl
 ·have hl0:0 < l.length:=by
   rcases l with _ | ⟨x,r⟩
   ·have:=hpos rfl;simp at this
   ·simp
  have hno':=hno _ _ _ rfl;refine (bgrow_row bb n l.length cap g cur w ⟨lr,hB⟩ hg hs hn hl0 h1n hlim (by omega) hno' (by rw [ht];exact bv_one l)).mono ?_;rintro e w' ⟨rfl,cap2,cells,w1,hc,hcs,htk,hnc,hcm,hbe,rfl⟩;have hB1:Blk w1 bb _ 50:=(hbe.block bb hbl).trans hB;refine ⟨rfl,w.heap.size,cap2,cells,lr,?_,?_,by omega,hcs,hnc,hcm,htk.trans ht,?_,.inr (Nat.le_refl _)⟩
  ·exact blk3 (u:=.slice (some ⟨w.heap.size,0,none⟩) (l.length+n) cap2) (blk3b (u:=.int .i64 0) (blk3 (u:=.slice (some ⟨w.heap.size,0,none⟩) l.length cap2) hB1))
  ·exact ((Blk.other (C:=cells) (T:=5) hc _ (by simp;omega)).other _ (by simp;omega)).other _ (by simp;omega)
  ·exact (((Fr.of_below (S:=fun k=>k=bb) hbe).setC bb 0 _ rfl).setC bb 1 _ rfl).setC bb 0 _ rfl
def BBTo (bb:Nat) (l':List UInt8) (v:Value) (w w':World):Prop :=
 ∃ v',BB w' bb l' v'∧Fr (fun k=>k=bb∨v.ownBlock=some k) w w'∧(∀ g,v'.ownBlock=some g→v.ownBlock=some g∨w.heap.size≤g)
theorem BRoom.fill {bb n c:Nat} {l p:List UInt8} {v:Value} {w w1:World} (h:BRoom bb l.length n l v w w1) {a:Option Addr} (hp:Sl w a n c p) (haw:∀ q,a=some q→q.block≠bb) (h0:0 < n) :
  ∃ g cap,∃ cs:Array Value,w1.cell? ⟨bb,0,none⟩=some (.slice (some ⟨g,0,none⟩) (l.length+n) cap)∧l.length+n≤cap ∧
   (∀ k dc,(Builtin.copy_ #[29,29] 3 #[.slice (some ⟨g,l.length,none⟩) n dc,.slice a n c]).run Tryz.prog (w1.drewN k)=.ok (.int .i64 n) ((w1.setRow g cs).drewN k))∧(∀ k,BBTo bb (l++p) v w ((w1.setRow g cs).drewN k)):=by
 obtain ⟨g,cap,cur,lr,hB,hg,hgb,hcs,hn,hm,ht,hf,hv⟩:=h;have hpw:Sl w1 a n c p:=hp.fr hf haw;have hpl:=hp.len;have hfit:l.length+(bv p).length≤cur.size:=by rw [bv_length];omega
 refine ⟨g,cap,splice cur l.length (bv p),hB.cell rfl,hn,fun k dc=>run_copy_sl 29 29 3 5 un29 sz5 (hg.drewN k) (hpw.fr (S:=fun _=>False) ((Fr.refl _ w1).drewN k) (fun _ _ h=>h)) (Nat.le_refl _) (by omega),fun k=>⟨.slice (some ⟨g,0,none⟩) (l.length+n) cap,⟨⟨lr,?_⟩,?_,?_⟩,?_,?_⟩⟩
 ·exact Blk.drewN ((setRow_other w1 g bb _ (Ne.symm hgb)).trans hB) k
 ·refine ⟨by simp [bv_length],.inr ⟨g,cap,splice cur l.length (bv p),by simp [hpl],Nat.zero_le _,(hg.setRow _).drewN k,by simp [hpl];omega,hm,by rw [splice_size hfit];omega,?_⟩⟩;have:(bv (l++p))=bv l++bv p:=by simp [bv,Lib.byteCells]
  rw [this,← ht,splice];have hl2:(cur.toList.take l.length).length=l.length:=by simp;omega
  have hl3:(l++p).length*1=(cur.toList.take l.length++bv p).length:=by simp [bv_length,hl2]
  show List.take ((l++p).length*1) (cur.toList.take l.length++bv p++_)=_
  rw [hl3,List.take_left'];rfl
 ·simp [Value.ownBlock,hgb]
 ·refine Fr.drewN ?_ k;refine (hf.mono (S':=fun k=>k=bb∨v.ownBlock=some k) fun k _ hk=>.inl hk).setRow (fun hlt=>?_) _;rcases hv with h | h
  ·exact .inr h
  ·omega
 ·intro g' hg';simp only [Value.ownBlock,Option.some.injEq] at hg';subst hg';exact hv
theorem bwrite_any (w:World) (bb:Nat) (l:List UInt8) (v:Value) (h:BB w bb l v) (hpos:l=[]→v=.slice none 0 0) (a:Option Addr) (n c:Nat) (p:List UInt8) (hp:Sl w a n c p)
  (haw:∀ q,a=some q→q.block≠bb) (h0:0 < n) (hlim:l.length+n≤1099511627776) :
  Calls Tryz.prog 154 #[.pointer (some ⟨bb,0,none⟩),.slice a n c] w fun e w'=>e=.returned (.tuple #[.int .i64 n,.nilIface])∧BBTo bb (l++p) v w w':=by
 obtain ⟨lr,hB⟩:=h.blk;have hB1:=blk3c (u:=.int .i8 0) hB;have hfr0:Fr (fun k=>k=bb) w (w.setCell ⟨bb,2,none⟩ (.int .i8 0)):=(Fr.refl _ w).setC bb 2 _ rfl;have h1:BB (w.setCell ⟨bb,2,none⟩ (.int .i8 0)) bb l v:=⟨⟨0,hB1⟩,own_fr h.own hfr0 (fun k hk e=>h.ne (by rw [hk,e])),h.ne⟩;have hp1:Sl (w.setCell ⟨bb,2,none⟩ (.int .i8 0)) a n c p:=hp.fr hfr0 haw;have hf2:=hB.free 2;have hc2:=hB.cell (k:=2) rfl;have hsame:(w.setCell ⟨bb,2,none⟩ (.int .i8 0)).heap.size=w.heap.size:=by simp
 obtain ⟨av,cv,rfl,hlc,hcm,hnil⟩:=own_form h.own;have hc1:=hB1.cell (k:=0) rfl;have hfin:∀ w1,BRoom bb l.length n l (.slice av l.length cv) (w.setCell ⟨bb,2,none⟩ (.int .i8 0)) w1→∃ g cap,∃ cs:Array Value,w1.cell? ⟨bb,0,none⟩=some (.slice (some ⟨g,0,none⟩) (l.length+n) cap)∧l.length+n≤cap ∧
   (∀ k dc,(Builtin.copy_ #[29,29] 3 #[.slice (some ⟨g,l.length,none⟩) n dc,.slice a n c]).run Tryz.prog (w1.drewN k)=.ok (.int .i64 n) ((w1.setRow g cs).drewN k))∧(∀ k,BBTo bb (l++p) (.slice av l.length cv) w ((w1.setRow g cs).drewN k)):=fun w1 hr=>by
  obtain ⟨g,cap,cs,x1,x2,x3,x4⟩:=hr.fill hp1 haw h0;refine ⟨g,cap,cs,x1,x2,x3,fun k=>?_⟩;obtain ⟨v',y1,y2,y3⟩:=x4 k;exact ⟨v',y1,(hfr0.mono (S':=fun k=>k=bb∨(Value.slice av l.length cv).ownBlock=some k) (fun _ _ hk=>.inl hk)).trans y2 (fun _ _ hk=>hk),fun g' hg'=>by rw [← hsame];exact y3 g' hg'⟩
 by_cases hroom:l.length+n≤cv
 ·have ht:=tg_yes bb l.length n cv av _ hc1 (hB1.free 0) (by omega) (by omega) hroom (by unfold maxLen at hcm;omega);have hR:BRoom bb l.length n l (.slice av l.length cv) (w.setCell ⟨bb,2,none⟩ (.int .i8 0)) ((w.setCell ⟨bb,2,none⟩ (.int .i8 0)).setCell ⟨bb,0,none⟩ (.slice av (l.length+n) cv)):=by
   rcases h1.case with ⟨hv,rfl⟩ | ⟨g,cap,cur,hv,hg,hgb,hs,hn,hm,hx⟩
   ·simp at hv;omega
   ·simp at hv;obtain ⟨rfl,rfl⟩:=hv;exact ⟨g,cv,cur,0,blk3 hB1,hg.other _ hgb,hgb,hs,hroom,hm,hx,(Fr.refl _ _).setC bb 0 _ rfl,.inl rfl⟩
  obtain ⟨g,cap,cs,hz0,hcap,hcopy,hend⟩:=hfin _ hR;have hsl:∀ w',(Instr.slice 29 (.slice (some ⟨g,0,none⟩) (l.length+n) cap) (some (.int .i64 l.length)) none none).run Tryz.prog w'=.ok (.slice (some ⟨g,l.length,none⟩) n (cap - l.length)) w':=fun w'=>by
   have:=run_slice_lo (P:=Tryz.prog) 29 5 un29 sz5 .i64 (some ⟨g,0,none⟩) (l.length+n) cap l.length (by omega) w';rwa [show l.length+n - l.length=n by omega,cutA_some (by omega),Nat.zero_add] at this
  have hcopy0:=fun dc=>hcopy 0 dc
  simp only [World.drewN_zero] at hcopy0;clear hR hfin h1 h hp1 hp hB1 hB hpos hnil;generalize l.length=m at *;go_enter Tryz.func154,Tryz.ntmps154
  go_wp2_with (go_at_call 156;refine ht.mono ?_;rintro e w1 ⟨rfl,rfl⟩)
  go_ret2
  exact ⟨rfl,hend 0⟩
 ·have ht:=tg_no bb l.length n cv av _ hc1 (by omega) (by omega) (by omega);have hg:=bgrow_any _ bb n l _ h1 hpos (by omega) hlim (fun a' m' c' e=>by simp at e;omega);have hsl:∀ g cap w',l.length+n≤cap→(Instr.slice 29 (.slice (some ⟨g,0,none⟩) (l.length+n) cap) (some (.int .i64 l.length)) none none).run Tryz.prog w'=.ok (.slice (some ⟨g,l.length,none⟩) n (cap - l.length)) w':=fun g cap w' _=>by
   have:=run_slice_lo (P:=Tryz.prog) 29 5 un29 sz5 .i64 (some ⟨g,0,none⟩) (l.length+n) cap l.length (by omega) w';rwa [show l.length+n - l.length=n by omega,cutA_some (by omega),Nat.zero_add] at this
  clear h1 h hp1 hp hB1 hB hpos hnil;generalize l.length=m at *;go_enter Tryz.func154,Tryz.ntmps154
  go_wp2_with (first | (go_at_call 156;refine ht.mono ?_;rintro e w1 ⟨rfl,rfl⟩) | (go_at_call 157;refine hg.mono ?_;rintro e w1 ⟨rfl,hR⟩;obtain ⟨g,cap,cs,hz0,hcap,hcopy,hend⟩:=hfin _ hR;replace hsl:=fun w'=>hsl g cap w' hcap;have hcopy0:=fun dc=>hcopy 0 dc;simp only [World.drewN_zero] at hcopy0))
  go_ret2
  exact ⟨rfl,hend 0⟩
end
end Go.Proofs.YtmkdpjicgjhhjaaGreatDoor
