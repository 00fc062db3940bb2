/- Part 18 of the proof of FnTableComesBack: contracts and lemmas, each under the conditions that it states. Texts: Ord3, WX. -/
import Derived.Test.YtmkdpjicgjhhjaaGreatDoorC15
import Derived.Test.YtmkdpjicgjhhjaaGreatDoorC17
namespace Go.Proofs.YtmkdpjicgjhhjaaGreatDoor
open Go.Lib (hid)
set_option maxRecDepth 100000
set_option linter.all false
section
open Go
section
variable {P:Program} {ops:Array Oper} {Q:Exit→Act→World→Prop} {S:World→Prop} {stop:Nat}
def GivesIf (P:Program) (ops:Array Oper) (S:World→Prop) (o:Oper) (v:Value) (a:Act):Prop :=
 Region.wanted o (yielded ops a.tmps)=true∧∃ f args,(∀ w,S w→(execOp a.eval o).run P w=.ok (.enter f args) w)∧∀ w,S w→Calls P f args w fun e w'=>e=.returned v∧w'=w
theorem GivesIf.step {i:Nat} {o:Oper} {v:Value} {a:Act} (hi:ops[i]?=some o) (hy:GivesIf P ops S o v a) {K:Act→World→Prop} {w:World} (hS:S w) (h:K (a.put o.dst v) w):wpOp P ops Q i K a w:=by
 obtain ⟨hw,f,args,hr,hc⟩:=hy;unfold wpOp;simp only [hi,hw,if_true,Oper.wp,hr w hS,Oper.upon];refine .inl ((hc w hS).mono fun e w' he=>?_);obtain ⟨rfl,rfl⟩:=he;exact h
theorem GivesIf.same {o:Oper} {v:Value} {a a':Act} (hy:GivesIf P ops S o v a) (he:execOp a'.eval o=execOp a.eval o) (hw:Region.wanted o (yielded ops a'.tmps)=Region.wanted o (yielded ops a.tmps)):GivesIf P ops S o v a':=by
 unfold GivesIf at *;rw [he,hw];exact hy
theorem GivesIf.past {j:Nat} {oi oj:Oper} {v:Value} (hj:ops[j]?=some oj) (hap:oi.apart ops oj=true) (hsi:∀ cs b,oi.op≠.select cs b) (hsj:∀ cs b,oj.op≠.select cs b)
  (hQ:∀ c a w,Q (.panic c) (a.put oi.dst v) w→Q (.panic c) a w) {K:Act→World→Prop} {a:Act} {w:World} (hy:GivesIf P ops S oi v a) (h:wpOp P ops Q j K (a.put oi.dst v) w) :
  wpOp P ops Q j (fun a' w'=>GivesIf P ops S oi v a'∧K (a'.put oi.dst v) w') a w:=by
 obtain ⟨h1,h2,h3⟩:=Oper.apart_spec hap;have kp:∀ (b:Act) (u:Value),GivesIf P ops S oi v b→GivesIf P ops S oi v (b.put oj.dst u):=fun b u hb=>hb.same (execOp_put oi hsi b oj.dst u h3) (wanted_put oi b oj.dst u h3)
 have hcomm:∀ (b:Act) (u:Value),K ((b.put oi.dst v).put oj.dst u) w→K ((b.put oj.dst u).put oi.dst v) w:=fun b u hb=>by rw [← Act.put_comm b v u h2];exact hb
 unfold wpOp at *;simp only [hj] at *;rw [wanted_put oj a oi.dst v h1] at h;by_cases hw:Region.wanted oj (yielded ops a.tmps)=true
 ·rw [if_pos hw] at h ⊢;rcases h with h | ⟨ha,hl⟩
  ·refine .inl ?_;unfold Oper.wp at *;rw [execOp_put oj hsj a oi.dst v h1] at h;cases hr:(execOp a.eval oj).run P w with
   | ok n w' =>
    rw [hr] at h;cases n <;> simp only [Oper.upon] at h ⊢
    case value u=>exact ⟨kp a u hy,by rw [← Act.put_comm a v u h2];exact h⟩
    case skip=>exact ⟨kp a undef hy,by rw [← Act.put_comm a v undef h2];exact h⟩
    case defer d =>
     refine ⟨kp _ undef (hy.same rfl rfl),?_⟩;rw [← Act.put_comm _ v undef h2,← Act.put_defers];exact h
    case enter f args =>
     refine Calls.mono h fun e w'' he=>?_
     cases e with
     | returned u=>exact ⟨kp a u hy,by rw [← Act.put_comm a v u h2];exact he⟩
     | panicked c=>exact hQ _ _ _ he
     | outgrown=>exact he
    case row r args=>exact Rows.mono h fun u w'' he=>⟨kp a u hy,by rw [← Act.put_comm a v u h2];exact he⟩
   | halt x w' =>
    rw [hr] at h;cases x <;> simp only [Oper.upon] at h ⊢
    case panic u=>exact hQ _ _ _ h
  ·refine .inr ⟨?_,hl⟩;unfold Oper.asks at *;rw [execOp_put oj hsj a oi.dst v h1] at ha;exact ha
 ·rw [if_neg hw] at h ⊢;exact ⟨kp a undef hy,by rw [← Act.put_comm a v undef h2];exact h⟩
theorem wpAnyT_call {i:Nat} {oi:Oper} {v:Value} (hi:ops[i]?=some oi) (hsel:∀ (j:Nat) (o:Oper) cs b,ops[j]?=some o→o.op≠.select cs b)
  (hQ:∀ c a w,Q (.panic c) (a.put oi.dst v) w→Q (.panic c) a w) (his:i≠stop) (hst:Region.waitsFor .any ops stop i=true) :
  ∀ (fuel:Nat) (listed:Array Bool) (a:Act) (w:World),
   (∀ j oj,ops[j]?=some oj→j≠i→listed.getD j true=false→(∀ e∈oj.after,Region.binds .any e=true→e.on≠i)→oi.apart ops oj=true) →
   i∈Region.ready .any ops listed→GivesIf P ops S oi v a→S w →
   wpAnyT P ops Q S stop fuel (listed.setIfInBounds i true) (a.put oi.dst v) w→wpAnyT P ops Q S stop (fuel+1) listed a w
 | 0,listed,a,w,_,hr,hy,hS,H=>by
  refine ⟨fun h=>(by rw [h] at hr;cases hr),fun j hj=>?_⟩;by_cases hji:j=i
  ·subst hji;exact hy.step hi hS (by rw [if_neg his];exact ⟨hS,H⟩)
  ·have:=ready_mono hj hji;rw [H.1] at this;cases this
 | fuel+1,listed,a,w,hfree,hr,hy,hS,H=>by
  refine ⟨fun h=>(by rw [h] at hr;cases hr),fun j hj=>?_⟩;by_cases hji:j=i
  ·subst hji;exact hy.step hi hS (by rw [if_neg his];exact ⟨hS,H⟩)
  ·have h1:=H.2 j (ready_mono hj hji);obtain ⟨hjun,oj,hoj,hall⟩:=mem_ready.1 hj;have hnot:∀ e∈oj.after,Region.binds .any e=true→e.on≠i:=fun e he hb heq=>by
    have h1:=hall e he hb;have h0:=(mem_ready.1 hr).1;rw [heq] at h1;rcases Nat.lt_or_ge i listed.size with h' | h'
    ·simp [h'] at h0 h1;rw [h0] at h1;cases h1
    ·simp [Array.getElem?_eq_none h'] at h1
   have hjs:j≠stop:=fun e=>by
    subst e;obtain ⟨os,hos,e,he,hb,hon⟩:=Region.waitsFor_spec hst;obtain rfl:=Option.some.inj (hos.symm.trans hoj);exact hnot e he hb hon
   simp only [if_neg hjs] at h1 ⊢;have h2:=hy.past hoj (hfree j oj hoj hji hjun hnot) (fun cs b=>hsel i oi cs b hi) (fun cs b=>hsel j oj cs b hoj) hQ h1;have hfree':∀ k ok,ops[k]?=some ok→k≠i→(listed.setIfInBounds j true).getD k true=false →
     (∀ e∈ok.after,Region.binds .any e=true→e.on≠i)→oi.apart ops ok=true:=fun k ok hk hki hun hno=>by
    refine hfree k ok hk hki ?_ hno;by_cases hjk:j=k
    ·subst hjk;exact hjun
    ·rw [getD_set_ne true hjk] at hun;exact hun
   refine wpOp_mono (fun a' w' h3=>⟨h3.2.1,wpAnyT_call hi hsel hQ his hst fuel (listed.setIfInBounds j true) a' w' hfree' (ready_mono hr (Ne.symm hji)) h3.1 h3.2.1 ?_⟩) h2;rw [Array.setIfInBounds_comm _ _ hji];exact h3.2.2
theorem PosG.call {l:List Oper} {k fuel:Nat} {listed:Array Bool} {a:Act} {w:World} {o:Oper} {v:Value} (f:Nat) (args:Array Value) (hS:S w) (ho:l[k]?=some o) (hc:takeOkG l stop listed k=true)
  (hQ:∀ c a w,Q (.panic c) (a.put o.dst v) w→Q (.panic c) a w) (hg:Region.wanted o (yielded l.toArray a.tmps)=true)
  (hy:∀ W,S W→(execOp a.eval o).run P W=.ok (.enter f args) W) (hcl:∀ W,S W→Calls P f args W fun e w'=>e=.returned v∧w'=W)
  (h:∀ K:Act→Prop,(∀ a',PosG P l Q S stop fuel (listed.setIfInBounds k true) a' w→K a')→K (a.put o.dst v)):PosG P l Q S stop (fuel+1) listed a w:=by
 simp only [takeOkG,Bool.and_eq_true,decide_eq_true_eq] at hc;obtain ⟨⟨⟨⟨c1,c2⟩,c3⟩,c4⟩,c5⟩:=hc;have ho':l.toArray[k]?=some o:=by simpa using ho
 exact wpAnyT_call ho' (Region.noSelect_spec c1) hQ c4 c5 _ _ a w (Region.free_spec ho' c2) (by simpa using c3) ⟨hg,f,args,hy,hcl⟩ hS (h _ fun _ h=>h)
end
end
section
open Go Go.RowKit Go.Shelf
structure WX (base:Nat) (w:World) (b bb:Nat) (lab:Nat→Nat) (C:Array Value) (OD OI:Own) (file:List UInt8) (data index:BWS):Prop where
 data:BW w b C 117 6 241 OD data
 index:BW w b C 117 77 241 OI index
 size:C.size=273
 wr:C[0]?=some (.iface 53 (.pointer (some ⟨bb,0,none⟩)))
 err:C[1]?=some .nilIface
 comp:C[4]?=some (.int .u64 1)
 off:C[219]?=some (.int .u64 file.length)
 bf:∃ v,BB w bb file v∧(file=[]→v=.slice none 0 0)∧∀ k,v.ownBlock=some k→lab k=6
 labB:lab b=7
 labF:lab bb=5
 labD:∀ k,OD.has k→lab k=1
 labI:∀ k,OI.has k→lab k=2
 low:∀ k,lab k≠0→base≤k
def WXTo (base:Nat) (w:World) (b bb:Nat) (lab:Nat→Nat) (C:Array Value) (file:List UInt8) (data index:BWS) (w':World):Prop :=
 ∃ lab' C' OD OI,WX base w' b bb lab' C' OD OI file data index∧(∀ k,k < w.heap.size→lab' k=lab k)∧Below base w w'∧(∀ k,k < w.heap.size→lab k=0→w'.heap[k]?=w.heap[k]?)∧C'[3]?=C[3]?
theorem WW.wx {base:Nat} {w:World} {b bb bs n:Nat} {lab:Nat→Nat} {C:Array Value} {OD OI:Own} {OF:FOwn} {s:WS} (h:WW base w b bb bs n lab C OD OI OF s):WX base w b bb lab C OD OI s.file s.data s.index :=
 ⟨h.data,h.index,h.size,h.wr,h.err,h.comp,h.off,h.bf,h.labB,h.labF,h.labD,h.labI,h.low⟩
section
variable {base:Nat} {w w':World} {b bb:Nat} {lab:Nat→Nat} {C:Array Value} {OD OI:Own} {file:List UInt8} {data index:BWS}
theorem WX.bbl (h:WX base w b bb lab C OD OI file data index):bb < w.heap.size:=by
 obtain ⟨v,hB,_,_⟩:=h.bf;obtain ⟨lr,hx⟩:=hB.blk;exact hx.lt
theorem WX.bl (h:WX base w b bb lab C OD OI file data index):b < w.heap.size:=h.data.ub.blk.lt
theorem WX.baseB (h:WX base w b bb lab C OD OI file data index):base≤b:=h.low b (by rw [h.labB];decide)
theorem WX.ext (h:WX base w b bb lab C OD OI file data index) (hk:∀ k,k < w.heap.size→lab k≠0→w'.heap[k]?=w.heap[k]?):WX base w' b bb lab C OD OI file data index:=by
 obtain ⟨v6,hB6,hp6,hl6⟩:=h.bf;have hB:Blk w' b C 117:=(hk b h.bl (by rw [h.labB];decide)).trans h.data.ub.blk;exact ⟨h.data.keep hB rfl (fun _ _ _=>rfl) (fun k hk'=>hk k (h.data.lt hk') (by rw [h.labD k hk'];decide)),h.index.keep hB rfl (fun _ _ _=>rfl) (fun k hk'=>hk k (h.index.lt hk') (by rw [h.labI k hk'];decide)),
  h.size,h.wr,h.err,h.comp,h.off,⟨v6,hB6.keep (hk bb h.bbl (by rw [h.labF];decide)) (fun k hk'=>hk k (own_lt hB6.own hk') (by rw [hl6 k hk'];decide)),hp6,hl6⟩,h.labB,h.labF,h.labD,h.labI,h.low⟩
theorem WX.zero (h:WX base w b bb lab C OD OI file data index) (p:Nat) (hp:w.heap.size≤p):WX base w b bb (fun k=>if k=p then 0 else lab k) C OD OI file data index:=by
 obtain ⟨v6,hB6,hp6,hl6⟩:=h.bf;have ho:∀ k,k < w.heap.size→(if k=p then 0 else lab k)=lab k:=fun k hk=>if_neg (by omega)
 refine ⟨h.data,h.index,h.size,h.wr,h.err,h.comp,h.off,⟨v6,hB6,hp6,fun k hk=>(ho k (own_lt hB6.own hk)).trans (hl6 k hk)⟩,(ho b h.bl).trans h.labB,(ho bb h.bbl).trans h.labF,fun k hk=>(ho k (h.data.lt hk)).trans (h.labD k hk),fun k hk=>(ho k (h.index.lt hk)).trans (h.labI k hk),fun k hk=>?_⟩;by_cases e:k=p
 ·rw [if_pos e] at hk;exact absurd rfl hk
 ·rw [if_neg e] at hk;exact h.low k hk
theorem WX.dataTo (h:WX base w b bb lab C OD OI file data index) {d':BWS} (hd:BWTo b C 117 6 241 OD d' w w'):WXTo base w b bb lab C file d' index w':=by
 obtain ⟨C',O',hb,hsz,hC,hf,hO⟩:=hd;obtain ⟨v6,hB6,hp6,hl6⟩:=h.bf;have hk:∀ k,k < w.heap.size→lab k≠7→lab k≠1→w'.heap[k]?=w.heap[k]?:=fun k h1 h2 h3=>hf.block k h1 (by
  rintro (e | e)
  ·exact h2 (e ▸ h.labB)
  ·exact h3 (h.labD k e))
 have hbase:=h.baseB;refine ⟨relab w lab 1,C',O',OI,⟨hb,h.index.keep hb.ub.blk hsz (fun k h1 h2=>hC k (by omega) (by omega)) (fun k hk'=>hk k (h.index.lt hk') (by rw [h.labI k hk'];decide) (by rw [h.labI k hk'];decide)),hsz.trans h.size,(hC _ (by omega) (by omega)).trans h.wr,(hC _ (by omega) (by omega)).trans h.err,(hC _ (by omega) (by omega)).trans h.comp,(hC _ (by omega) (by omega)).trans h.off,
  ⟨v6,hB6.keep (hk bb h.bbl (by rw [h.labF];decide) (by rw [h.labF];decide)) (fun k hk'=>hk k (own_lt hB6.own hk') (by rw [hl6 k hk'];decide) (by rw [hl6 k hk'];decide)),hp6,fun k hk'=>(relab_old (own_lt hB6.own hk')).trans (hl6 k hk')⟩,
  (relab_old h.bl).trans h.labB,(relab_old h.bbl).trans h.labF,fun k hk'=>?_,fun k hk'=>(relab_old (h.index.lt hk')).trans (h.labI k hk'),fun k hk'=>?_⟩,fun _ h=>relab_old h,?_,fun k h1 h2=>hk k h1 (by rw [h2];decide) (by rw [h2];decide),hC _ (by omega) (by omega)⟩
 ·by_cases e:k < w.heap.size
  ·rw [relab_old e];exact h.labD k ((hO k hk').elim id (fun h'=>absurd h' (by omega)))
  ·exact relab_new (by omega)
 ·by_cases e:k < w.heap.size
  ·rw [relab_old e] at hk';exact h.low k hk'
  ·have:=h.bl;omega
 ·exact ⟨hf.os,hf.tape,hf.output,hf.size,fun k hk'=>hf.block k (by have:=h.bl;omega) (by
   rintro (e | e)
   ·omega
   ·have:=h.low k (by rw [h.labD k e];decide);omega)⟩
theorem WX.indexTo (h:WX base w b bb lab C OD OI file data index) {d':BWS} (hd:BWTo b C 117 77 241 OI d' w w'):WXTo base w b bb lab C file data d' w':=by
 obtain ⟨C',O',hb,hsz,hC,hf,hO⟩:=hd;obtain ⟨v6,hB6,hp6,hl6⟩:=h.bf;have hk:∀ k,k < w.heap.size→lab k≠7→lab k≠2→w'.heap[k]?=w.heap[k]?:=fun k h1 h2 h3=>hf.block k h1 (by
  rintro (e | e)
  ·exact h2 (e ▸ h.labB)
  ·exact h3 (h.labI k e))
 have hbase:=h.baseB;refine ⟨relab w lab 2,C',OD,O',⟨h.data.keep hb.ub.blk hsz (fun k h1 h2=>hC k (by omega) (by omega)) (fun k hk'=>hk k (h.data.lt hk') (by rw [h.labD k hk'];decide) (by rw [h.labD k hk'];decide)),hb,hsz.trans h.size,(hC _ (by omega) (by omega)).trans h.wr,(hC _ (by omega) (by omega)).trans h.err,(hC _ (by omega) (by omega)).trans h.comp,(hC _ (by omega) (by omega)).trans h.off,
  ⟨v6,hB6.keep (hk bb h.bbl (by rw [h.labF];decide) (by rw [h.labF];decide)) (fun k hk'=>hk k (own_lt hB6.own hk') (by rw [hl6 k hk'];decide) (by rw [hl6 k hk'];decide)),hp6,fun k hk'=>(relab_old (own_lt hB6.own hk')).trans (hl6 k hk')⟩,
  (relab_old h.bl).trans h.labB,(relab_old h.bbl).trans h.labF,fun k hk'=>(relab_old (h.data.lt hk')).trans (h.labD k hk'),fun k hk'=>?_,fun k hk'=>?_⟩,fun _ h=>relab_old h,?_,fun k h1 h2=>hk k h1 (by rw [h2];decide) (by rw [h2];decide),hC _ (by omega) (by omega)⟩
 ·by_cases e:k < w.heap.size
  ·rw [relab_old e];exact h.labI k ((hO k hk').elim id (fun h'=>absurd h' (by omega)))
  ·exact relab_new (by omega)
 ·by_cases e:k < w.heap.size
  ·rw [relab_old e] at hk';exact h.low k hk'
  ·have:=h.bl;omega
 ·exact ⟨hf.os,hf.tape,hf.output,hf.size,fun k hk'=>hf.block k (by have:=h.bl;omega) (by
   rintro (e | e)
   ·omega
   ·have:=h.low k (by rw [h.labI k e];decide);omega)⟩
theorem WX.filtTo (h:WX base w b bb lab C OD OI file data index) {n:Nat} {OF:FOwn} {r:FR} (hF3:∀ k,OF.has k→lab k=3) (hd:FBTo b C 117 148 n OF r w w') :
  ∃ lab' C' F,WX base w' b bb lab' C' OD OI file data index∧(∀ k,k < w.heap.size→lab' k=lab k)∧Below base w w'∧(∀ k,k < w.heap.size→lab k=0→w'.heap[k]?=w.heap[k]?)∧C'[3]?=C[3]?∧UB w' b C' 117 149 F r.buf∧∀ k,F=some k→lab' k=3:=by
 obtain ⟨C',O',hb,hsz,hC,hf,hO⟩:=hd;obtain ⟨v6,hB6,hp6,hl6⟩:=h.bf;have hk:∀ k,k < w.heap.size→lab k≠7→lab k≠3→w'.heap[k]?=w.heap[k]?:=fun k h1 h2 h3=>hf.block k h1 (by
  rintro (e | e)
  ·exact h2 (e ▸ h.labB)
  ·exact h3 (hF3 k e))
 have hbase:=h.baseB;refine ⟨relab w lab 3,C',O'.f,⟨h.data.keep hb.ub.blk hsz (fun k h1 h2=>hC k (by omega)) (fun k hk'=>hk k (h.data.lt hk') (by rw [h.labD k hk'];decide) (by rw [h.labD k hk'];decide)),h.index.keep hb.ub.blk hsz (fun k h1 h2=>hC k (by omega)) (fun k hk'=>hk k (h.index.lt hk') (by rw [h.labI k hk'];decide) (by rw [h.labI k hk'];decide)),hsz.trans h.size,(hC _ (by omega)).trans h.wr,(hC _ (by omega)).trans h.err,(hC _ (by omega)).trans h.comp,(hC _ (by omega)).trans h.off,
  ⟨v6,hB6.keep (hk bb h.bbl (by rw [h.labF];decide) (by rw [h.labF];decide)) (fun k hk'=>hk k (own_lt hB6.own hk') (by rw [hl6 k hk'];decide) (by rw [hl6 k hk'];decide)),hp6,fun k hk'=>(relab_old (own_lt hB6.own hk')).trans (hl6 k hk')⟩,
  (relab_old h.bl).trans h.labB,(relab_old h.bbl).trans h.labF,fun k hk'=>(relab_old (h.data.lt hk')).trans (h.labD k hk'),fun k hk'=>(relab_old (h.index.lt hk')).trans (h.labI k hk'),fun k hk'=>?_⟩,fun _ h=>relab_old h,?_,fun k h1 h2=>hk k h1 (by rw [h2];decide) (by rw [h2];decide),hC _ (by omega),hb.ub,fun k hk'=>?_⟩
 ·by_cases e:k < w.heap.size
  ·rw [relab_old e] at hk';exact h.low k hk'
  ·have:=h.bl;omega
 ·exact ⟨hf.os,hf.tape,hf.output,hf.size,fun k hk'=>hf.block k (by have:=h.bl;omega) (by
   rintro (e | e)
   ·omega
   ·have:=h.low k (by rw [hF3 k e];decide);omega)⟩
 ·by_cases e:k < w.heap.size
  ·rw [relab_old e];exact (hO k (.inl hk')).elim (hF3 k) (fun h'=>absurd h' (by omega))
  ·exact relab_new (by omega)
theorem WX.sealD (h:WX base w b bb lab C OD OI file data index) {v:Value} (hvl:∀ k,v.ownBlock=some k→lab k=6) (hd:WRes b bb 7 file.length C OD.f data.buf v file w w'):WXTo base w b bb lab C (file++sealB data.buf) { data with buf:=sealB data.buf } index w':=by
 obtain ⟨C',F',v',hu,hsz,hC,h219,hbv,hf,hF,hv',hFv,hv'b⟩:=hd;have hbl:=h.bl;have hbbl:=h.bbl;have hk:∀ k,k < w.heap.size→lab k≠7→OD.f≠some k→lab k≠5→lab k≠6→w'.heap[k]?=w.heap[k]?:=fun k h1 h2 h3 h4 h5=>hf.block k h1 (by
  rintro (e | e | e | e)
  ·exact h2 (e ▸ h.labB)
  ·exact h3 e
  ·exact h4 (e ▸ h.labF)
  ·exact h5 (hvl k e))
 have hnF:∀ k,lab k≠1→OD.f≠some k:=fun k h1 e=>h1 (h.labD k (.inl e))
 have hbase:=h.baseB;have hpr:∀ k,OD.p=some k∨OD.r=some k→w'.heap[k]?=w.heap[k]?:=fun k hk'=>by
  have hh:OD.has k:=hk'.elim (fun e=>.inr (.inl e)) (fun e=>.inr (.inr e));have hl:=h.labD k hh;refine hk k (h.data.lt hh) (by rw [hl];decide) (fun e=>?_) (by rw [hl];decide) (by rw [hl];decide);rcases hk' with h1 | h1
  ·exact h.data.dis.fp k e h1
  ·exact h.data.dis.fr k e h1
 have hne:file++sealB data.buf≠[]:=by
  intro e;have:=congrArg List.length e;rw [List.length_append,sealB_length] at this;simp at this
 refine ⟨fun k=>if k < w.heap.size then lab k else if v'.ownBlock=some k then 6 else 1,C',{ OD with f:=F' },OI,⟨h.data.bufKeep hu hsz (fun k h1 h2 h3=>hC k (by omega) (by omega)) hpr hF,
  h.index.keep hu.blk hsz (fun k h1 h2=>hC k (by omega) (by omega)) (fun k hk'=>hk k (h.index.lt hk') (by rw [h.labI k hk'];decide) (hnF k (by rw [h.labI k hk'];decide)) (by rw [h.labI k hk'];decide) (by rw [h.labI k hk'];decide)),hsz.trans h.size,(hC _ (by omega) (by omega)).trans h.wr,(hC _ (by omega) (by omega)).trans h.err,(hC _ (by omega) (by omega)).trans h.comp,by rw [h219];simp [sealB_length],
  ⟨v',hbv,fun e=>absurd e hne,fun k hk'=>?_⟩,(if_pos hbl).trans h.labB,(if_pos hbbl).trans h.labF,fun k hk'=>?_,fun k hk'=>(if_pos (h.index.lt hk')).trans (h.labI k hk'),fun k hk'=>?_⟩,fun _ h=>if_pos h,?_,fun k h1 h2=>hk k h1 (by rw [h2];decide) (hnF k (by rw [h2];decide)) (by rw [h2];decide) (by rw [h2];decide),hC _ (by omega) (by omega)⟩
 ·by_cases e:k < w.heap.size
  ·rw [if_pos e];exact (hv' k hk').elim (hvl k) (fun h'=>absurd h' (by omega))
  ·rw [if_neg e,if_pos hk']
 ·by_cases e:k < w.heap.size
  ·rw [if_pos e];rcases hk' with h1 | h1
   ·exact h.labD k (.inl ((hF k h1).elim id (fun h'=>absurd h' (by omega))))
   ·exact h.labD k (.inr h1)
  ·rw [if_neg e];rcases hk' with h1 | h1
   ·exact if_neg (hFv k h1)
   ·exact absurd (h.data.lt (.inr h1)) e
 ·by_cases e:k < w.heap.size
  ·rw [if_pos e] at hk';exact h.low k hk'
  ·omega
 ·exact ⟨hf.os,hf.tape,hf.output,hf.size,fun k hk'=>hf.block k (by omega) (by
   rintro (e | e | e | e)
   ·omega
   ·have:=h.low k (by rw [h.labD k (.inl e)];decide);omega
   ·have:=h.low bb (by rw [h.labF];decide);omega
   ·have:=h.low k (by rw [hvl k e];decide);omega)⟩
theorem WX.sealI (h:WX base w b bb lab C OD OI file data index) {v:Value} (hvl:∀ k,v.ownBlock=some k→lab k=6) (hd:WRes b bb 78 file.length C OI.f index.buf v file w w'):WXTo base w b bb lab C (file++sealB index.buf) data { index with buf:=sealB index.buf } w':=by
 obtain ⟨C',F',v',hu,hsz,hC,h219,hbv,hf,hF,hv',hFv,hv'b⟩:=hd;have hbl:=h.bl;have hbbl:=h.bbl;have hk:∀ k,k < w.heap.size→lab k≠7→OI.f≠some k→lab k≠5→lab k≠6→w'.heap[k]?=w.heap[k]?:=fun k h1 h2 h3 h4 h5=>hf.block k h1 (by
  rintro (e | e | e | e)
  ·exact h2 (e ▸ h.labB)
  ·exact h3 e
  ·exact h4 (e ▸ h.labF)
  ·exact h5 (hvl k e))
 have hnF:∀ k,lab k≠2→OI.f≠some k:=fun k h1 e=>h1 (h.labI k (.inl e))
 have hbase:=h.baseB;have hpr:∀ k,OI.p=some k∨OI.r=some k→w'.heap[k]?=w.heap[k]?:=fun k hk'=>by
  have hh:OI.has k:=hk'.elim (fun e=>.inr (.inl e)) (fun e=>.inr (.inr e));have hl:=h.labI k hh;refine hk k (h.index.lt hh) (by rw [hl];decide) (fun e=>?_) (by rw [hl];decide) (by rw [hl];decide);rcases hk' with h1 | h1
  ·exact h.index.dis.fp k e h1
  ·exact h.index.dis.fr k e h1
 have hne:file++sealB index.buf≠[]:=by
  intro e;have:=congrArg List.length e;rw [List.length_append,sealB_length] at this;simp at this
 refine ⟨fun k=>if k < w.heap.size then lab k else if v'.ownBlock=some k then 6 else 2,C',OD,{ OI with f:=F' },⟨h.data.keep hu.blk hsz (fun k h1 h2=>hC k (by omega) (by omega)) (fun k hk'=>hk k (h.data.lt hk') (by rw [h.labD k hk'];decide) (hnF k (by rw [h.labD k hk'];decide)) (by rw [h.labD k hk'];decide) (by rw [h.labD k hk'];decide)),
  h.index.bufKeep hu hsz (fun k h1 h2 h3=>hC k (by omega) (by omega)) hpr hF,hsz.trans h.size,(hC _ (by omega) (by omega)).trans h.wr,(hC _ (by omega) (by omega)).trans h.err,(hC _ (by omega) (by omega)).trans h.comp,by rw [h219];simp [sealB_length],
  ⟨v',hbv,fun e=>absurd e hne,fun k hk'=>?_⟩,(if_pos hbl).trans h.labB,(if_pos hbbl).trans h.labF,fun k hk'=>(if_pos (h.data.lt hk')).trans (h.labD k hk'),fun k hk'=>?_,fun k hk'=>?_⟩,fun _ h=>if_pos h,?_,fun k h1 h2=>hk k h1 (by rw [h2];decide) (hnF k (by rw [h2];decide)) (by rw [h2];decide) (by rw [h2];decide),hC _ (by omega) (by omega)⟩
 ·by_cases e:k < w.heap.size
  ·rw [if_pos e];exact (hv' k hk').elim (hvl k) (fun h'=>absurd h' (by omega))
  ·rw [if_neg e,if_pos hk']
 ·by_cases e:k < w.heap.size
  ·rw [if_pos e];rcases hk' with h1 | h1
   ·exact h.labI k (.inl ((hF k h1).elim id (fun h'=>absurd h' (by omega))))
   ·exact h.labI k (.inr h1)
  ·rw [if_neg e];rcases hk' with h1 | h1
   ·exact if_neg (hFv k h1)
   ·exact absurd (h.index.lt (.inr h1)) e
 ·by_cases e:k < w.heap.size
  ·rw [if_pos e] at hk';exact h.low k hk'
  ·omega
 ·exact ⟨hf.os,hf.tape,hf.output,hf.size,fun k hk'=>hf.block k (by omega) (by
   rintro (e | e | e | e)
   ·omega
   ·have:=h.low k (by rw [h.labI k (.inl e)];decide);omega
   ·have:=h.low bb (by rw [h.labF];decide);omega
   ·have:=h.low k (by rw [hvl k e];decide);omega)⟩
theorem WX.sealF (h:WX base w b bb lab C OD OI file data index) {F:Option Nat} {l:List UInt8} (hF3:∀ k,F=some k→lab k=3) {v:Value} (hvl:∀ k,v.ownBlock=some k→lab k=6) (hd:WRes b bb 149 file.length C F l v file w w'):WXTo base w b bb lab C (file++sealB l) data index w':=by
 obtain ⟨C',F',v',hu,hsz,hC,h219,hbv,hf,hF,hv',hFv,hv'b⟩:=hd;have hbl:=h.bl;have hbbl:=h.bbl;have hk:∀ k,k < w.heap.size→lab k≠7→F≠some k→lab k≠5→lab k≠6→w'.heap[k]?=w.heap[k]?:=fun k h1 h2 h3 h4 h5=>hf.block k h1 (by
  rintro (e | e | e | e)
  ·exact h2 (e ▸ h.labB)
  ·exact h3 e
  ·exact h4 (e ▸ h.labF)
  ·exact h5 (hvl k e))
 have hnF:∀ k,lab k≠3→F≠some k:=fun k h1 e=>h1 (hF3 k e)
 have hbase:=h.baseB;have hne:file++sealB l≠[]:=by
  intro e;have:=congrArg List.length e;rw [List.length_append,sealB_length] at this;simp at this
 refine ⟨fun k=>if k < w.heap.size then lab k else if v'.ownBlock=some k then 6 else 3,C',OD,OI,⟨h.data.keep hu.blk hsz (fun k h1 h2=>hC k (by omega) (by omega)) (fun k hk'=>hk k (h.data.lt hk') (by rw [h.labD k hk'];decide) (hnF k (by rw [h.labD k hk'];decide)) (by rw [h.labD k hk'];decide) (by rw [h.labD k hk'];decide)),
  h.index.keep hu.blk hsz (fun k h1 h2=>hC k (by omega) (by omega)) (fun k hk'=>hk k (h.index.lt hk') (by rw [h.labI k hk'];decide) (hnF k (by rw [h.labI k hk'];decide)) (by rw [h.labI k hk'];decide) (by rw [h.labI k hk'];decide)),hsz.trans h.size,(hC _ (by omega) (by omega)).trans h.wr,(hC _ (by omega) (by omega)).trans h.err,(hC _ (by omega) (by omega)).trans h.comp,by rw [h219];simp [sealB_length],
  ⟨v',hbv,fun e=>absurd e hne,fun k hk'=>?_⟩,(if_pos hbl).trans h.labB,(if_pos hbbl).trans h.labF,fun k hk'=>(if_pos (h.data.lt hk')).trans (h.labD k hk'),fun k hk'=>(if_pos (h.index.lt hk')).trans (h.labI k hk'),fun k hk'=>?_⟩,fun _ h=>if_pos h,?_,fun k h1 h2=>hk k h1 (by rw [h2];decide) (hnF k (by rw [h2];decide)) (by rw [h2];decide) (by rw [h2];decide),hC _ (by omega) (by omega)⟩
 ·by_cases e:k < w.heap.size
  ·rw [if_pos e];exact (hv' k hk').elim (hvl k) (fun h'=>absurd h' (by omega))
  ·rw [if_neg e,if_pos hk']
 ·by_cases e:k < w.heap.size
  ·rw [if_pos e] at hk';exact h.low k hk'
  ·omega
 ·exact ⟨hf.os,hf.tape,hf.output,hf.size,fun k hk'=>hf.block k (by omega) (by
   rintro (e | e | e | e)
   ·omega
   ·have:=h.low k (by rw [hF3 k e];decide);omega
   ·have:=h.low bb (by rw [h.labF];decide);omega
   ·have:=h.low k (by rw [hvl k e];decide);omega)⟩
theorem WX.rowTo (h:WX base w b bb lab C OD OI file data index) {C2:Array Value} (hs:C2.size=C.size) (hC:∀ k,k < 221→C2[k]?=C[k]?):WX base (w.setRow b C2) b bb lab C2 OD OI file data index∧Below base w (w.setRow b C2)∧∀ k,lab k=0→(w.setRow b C2).heap[k]?=w.heap[k]?:=by
 have hB:=h.data.ub.blk.setRow C2;have hk:∀ k,lab k≠7→(w.setRow b C2).heap[k]?=w.heap[k]?:=fun k hk=>setRow_other w b k C2 (fun e=>hk (e ▸ h.labB))
 obtain ⟨v6,hB6,hp6,hl6⟩:=h.bf;have hbase:=h.baseB;refine ⟨⟨h.data.keep hB hs (fun k h1 h2=>hC k (by omega)) (fun k hk'=>hk k (by rw [h.labD k hk'];decide)),h.index.keep hB hs (fun k h1 h2=>hC k (by omega)) (fun k hk'=>hk k (by rw [h.labI k hk'];decide)),
  hs.trans h.size,(hC _ (by omega)).trans h.wr,(hC _ (by omega)).trans h.err,(hC _ (by omega)).trans h.comp,(hC _ (by omega)).trans h.off,
  ⟨v6,hB6.keep (hk bb (by rw [h.labF];decide)) (fun k hk'=>hk k (by rw [hl6 k hk'];decide)),hp6,hl6⟩,h.labB,h.labF,h.labD,h.labI,h.low⟩,⟨rfl,rfl,rfl,by simp,fun k hk'=>setRow_other w b k C2 (by omega)⟩,fun k h0=>hk k (by rw [h0];decide)⟩
theorem WX.encTo (h:WX base w b bb lab C OD OI file data index) (x y:Nat) (hx:x < 34359738368) (hy:y < 34359738368) :
  WX base ((w.alloc (.cells #[.int .u64 x,.int .u64 y] 114)).setRow b (splice C 221 (bv (hdl x y)))) b bb lab (splice C 221 (bv (hdl x y))) OD OI file data index∧Below base w ((w.alloc (.cells #[.int .u64 x,.int .u64 y] 114)).setRow b (splice C 221 (bv (hdl x y)))) ∧
   (∀ k,k < w.heap.size→k≠b→((w.alloc (.cells #[.int .u64 x,.int .u64 y] 114)).setRow b (splice C 221 (bv (hdl x y)))).heap[k]?=w.heap[k]?) ∧
   Sl ((w.alloc (.cells #[.int .u64 x,.int .u64 y] 114)).setRow b (splice C 221 (bv (hdl x y)))) (some ⟨b,221,none⟩) (hdl x y).length 50 (hdl x y):=by
 have hlen:(hdl x y).length≤20:=by
  have h1:=uvarint_len5 hx;have h2:=uvarint_len5 hy;unfold hdl;rw [List.length_append];omega
 have hsz:=h.size;have hbl:=h.bl;have hbase:=h.baseB;have hfit:221+(bv (hdl x y)).length≤C.size:=by rw [bv_length];omega
 have g1:=h.ext (w':=w.alloc (.cells #[.int .u64 x,.int .u64 y] 114)) (fun k hk _=>Below.heap_alloc w _ k hk);obtain ⟨g2,hb2,_⟩:=g1.rowTo (C2:=splice C 221 (bv (hdl x y))) (splice_size hfit) (fun k hk=>splice_out hfit (by omega));have hb1:Below base w (w.alloc (.cells #[.int .u64 x,.int .u64 y] 114)):=⟨rfl,rfl,rfl,by simp,fun k hk=>Below.heap_alloc w _ k (by omega)⟩;refine ⟨g2,hb1.trans hb2,fun k hk hkb=>(setRow_other _ b k _ hkb).trans (Below.heap_alloc w _ k hk),rfl,by omega,by decide,fun h=>by simp at h,fun j hj=>⟨b,221,rfl,?_⟩⟩
 rw [g2.data.ub.blk.cell',splice_in hfit (by rw [bv_length];omega)];simp [bv,Lib.byteCells,hj]
theorem WX.putH (h:WX base w b bb lab C OD OI file data index) {p:Nat} (hl:lab p=0) {x0 x1:Value} (hp:Blk w p #[x0,x1] 114) (hpb:base≤p) (v0 v1:Value) :
  WX base ((w.setCell ⟨p,0,none⟩ v0).setCell ⟨p,1,none⟩ v1) b bb lab C OD OI file data index∧Blk ((w.setCell ⟨p,0,none⟩ v0).setCell ⟨p,1,none⟩ v1) p #[v0,v1] 114∧Below base w ((w.setCell ⟨p,0,none⟩ v0).setCell ⟨p,1,none⟩ v1)∧∀ k,k≠p→((w.setCell ⟨p,0,none⟩ v0).setCell ⟨p,1,none⟩ v1).heap[k]?=w.heap[k]?:=by
 have hk:∀ k,k≠p→((w.setCell ⟨p,0,none⟩ v0).setCell ⟨p,1,none⟩ v1).heap[k]?=w.heap[k]?:=fun k hk=>(Below.heap_setCell _ _ _ k (by simpa using hk)).trans (Below.heap_setCell _ _ _ k (by simpa using hk))
 refine ⟨h.ext (fun k _ h1=>hk k (fun e=>h1 (e ▸ hl))),by simpa using (hp.set 0 v0).set 1 v1,⟨rfl,rfl,rfl,by simp,fun k h1=>hk k (by omega)⟩,hk⟩
theorem WX.nilErr (h:WX base w b bb lab C OD OI file data index):∃ C2,WX base (w.setCell ⟨b,1,none⟩ .nilIface) b bb lab C2 OD OI file data index∧Below base w (w.setCell ⟨b,1,none⟩ .nilIface)∧(∀ k,k≠b→(w.setCell ⟨b,1,none⟩ .nilIface).heap[k]?=w.heap[k]?)∧C2[3]?=C[3]?:=by
 have e:=setCell_eq_setRow w b 1 C 117 (0,0) .nilIface h.data.ub.blk;have hsz:=h.size;have hC:∀ k,(C.setIfInBounds 1 .nilIface)[k]?=C[k]?:=fun k=>by
  by_cases hk:k=1
  ·subst hk;rw [Array.getElem?_setIfInBounds_self_of_lt (by omega),h.err]
  ·exact Array.getElem?_setIfInBounds_ne (by omega)
 have hr:=h.rowTo (C2:=C.setIfInBounds 1 .nilIface) (by simp) (fun k _=>hC k);rw [e];exact ⟨_,hr.1,hr.2.1,fun k hk=>setRow_other w b k _ hk,hC 3⟩
def SRel (base:Nat) (w1:World) (b bb:Nat) (lab:Nat→Nat) (file:List UInt8) (data index:BWS) (fo fl:Nat) (wx:World) (p:Nat):Prop :=
 ∃ lab' C' OD' OI',WX base wx b bb lab' C' OD' OI' file data index∧lab' p=0∧Blk wx p #[.int .u64 fo,.int .u64 fl] 114∧Below base w1 wx∧base≤p∧p≠b∧(∀ k,k < w1.heap.size→lab k=0→wx.heap[k]?=w1.heap[k]?∧lab' k=0)
theorem WXTo.callFirst {w2:World} (_h0:WX base w b bb lab C OD OI file data index) {file':List UInt8} {data' index':BWS} (h:WXTo base w b bb lab C file' data' index' w2) (fo fl:Nat) :
  SRel base w b bb lab file' data' index' fo fl (w2.alloc (.cells #[.int .u64 fo,.int .u64 fl] 114)) w2.heap.size∧w2.cell? ⟨b,4,none⟩=some (.int .u64 1)∧(w2.alloc (.cells #[.int .u64 fo,.int .u64 fl] 114)).cell? ⟨b,4,none⟩=some (.int .u64 1)∧(w2.alloc (.cells #[.int .u64 0,.int .u64 0] 114)).cell? ⟨b,4,none⟩=some (.int .u64 1):=by
 obtain ⟨lab',C',OD',OI',g1,g2,g3,g4,g5⟩:=h;have hbl:=g1.bl;have hbase:=g1.baseB;have hsz:=g3.size;have q1:=(g1.zero w2.heap.size (Nat.le_refl _)).ext (w':=w2.alloc (.cells #[.int .u64 fo,.int .u64 fl] 114)) (fun k hk _=>Below.heap_alloc w2 _ k hk);have hb:Below base w2 (w2.alloc (.cells #[.int .u64 fo,.int .u64 fl] 114)):=⟨rfl,rfl,rfl,by simp,fun k hk=>Below.heap_alloc w2 _ k (by omega)⟩;refine ⟨⟨_,C',OD',OI',q1,if_pos rfl,Blk.new w2 _ _,g3.trans hb,by omega,by omega,fun k hk hl=>⟨(Below.heap_alloc w2 _ k (by omega)).trans (g4 k hk hl),(if_neg (by omega)).trans ((g2 k hk).trans hl)⟩⟩,g1.data.ub.blk.cell g1.comp,q1.data.ub.blk.cell g1.comp,?_⟩
 exact (g1.data.ub.blk.alloc _).cell g1.comp
theorem WX.allocFirst {w2:World} (h0:WX base w b bb lab C OD OI file data index) {file':List UInt8} {data' index':BWS}
  (h:WXTo base (w.alloc (.cells #[.int .u64 0,.int .u64 0] 114)) b bb (fun k=>if k=w.heap.size then 0 else lab k) C file' data' index' w2) (fo fl:Nat) :
  Blk w2 w.heap.size #[.int .u64 0,.int .u64 0] 114∧SRel base w b bb lab file' data' index' fo fl ((w2.setCell ⟨w.heap.size,0,none⟩ (.int .u64 fo)).setCell ⟨w.heap.size,1,none⟩ (.int .u64 fl)) w.heap.size∧w2.cell? ⟨b,4,none⟩=some (.int .u64 1) ∧
   ((w2.setCell ⟨w.heap.size,0,none⟩ (.int .u64 fo)).setCell ⟨w.heap.size,1,none⟩ (.int .u64 fl)).cell? ⟨b,4,none⟩=some (.int .u64 1):=by
 have hbl:=h0.bl;have hbase:=h0.baseB;obtain ⟨lab',C',OD',OI',g1,g2,g3,g4,g5⟩:=h;have hp:Blk w2 w.heap.size #[.int .u64 0,.int .u64 0] 114:=(g4 _ (by simp) (if_pos rfl)).trans (Blk.new w _ _);have hl:lab' w.heap.size=0:=(g2 _ (by simp)).trans (if_pos rfl);obtain ⟨q1,q2,q3,q4⟩:=g1.putH hl hp (by omega) (.int .u64 fo) (.int .u64 fl);have hb:Below base w (w.alloc (.cells #[.int .u64 0,.int .u64 0] 114)):=⟨rfl,rfl,rfl,by simp,fun k hk=>Below.heap_alloc w _ k (by omega)⟩
 refine ⟨hp,⟨lab',C',OD',OI',q1,hl,q2,(hb.trans g3).trans q3,by omega,by omega,fun k hk hz=>⟨(q4 k (by omega)).trans ((g4 k (by simp;omega) ((if_neg (by omega)).trans hz)).trans (Below.heap_alloc w _ k hk)),(g2 k (by simp;omega)).trans ((if_neg (by omega)).trans hz)⟩⟩,g1.data.ub.blk.cell g1.comp,q1.data.ub.blk.cell g1.comp⟩
theorem WX.alloc0 (h0:WX base w b bb lab C OD OI file data index):WX base (w.alloc (.cells #[.int .u64 0,.int .u64 0] 114)) b bb (fun k=>if k=w.heap.size then 0 else lab k) C OD OI file data index :=
 (h0.zero w.heap.size (Nat.le_refl _)).ext (fun k hk _=>Below.heap_alloc w _ k hk)
end
end
end Go.Proofs.YtmkdpjicgjhhjaaGreatDoor
