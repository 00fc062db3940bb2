/- Part 5 of the proof of FnTableComesBack: contracts and lemmas, each under the conditions that it states. Texts: App, Ord. -/
import Derived.Test.YtmkdpjicgjhhjaaGreatDoorC04
import Derived.Test.YtmkdpjicgjhhjaaGreatDoorC01
namespace Go.Proofs.YtmkdpjicgjhhjaaGreatDoor
open Go.Lib (hid)
set_option maxRecDepth 100000
set_option linter.all false
section
open Go Go.RowKit Go.Shelf
def Lies (w:World) (v v':Value):Prop:=v'.ownBlock=v.ownBlock∨v'.ownBlock=some w.heap.size
theorem run_app {P:Program} {w:World} (t ty:TypeId) (e:TypeId) (z:Value) (size bytes:Nat) (ht:P.underlying t=some (.slice e)) (hinfo:(P.info? e).map (fun i=>(i.zero,i.size,i.bytes))=some (some z,size,bytes))
  (hzs:z.cells.size=size) (hsz:0 < size) (v:Value) (n:Nat) (xs:List Value) (hown:w.ownsRow 0 e size v n xs)
  (ao:Option Addr) (m c:Nat) (news:List Value) (hl:news.length=m*size) (hnil:ao=none→m=0∧c=0) (hnews:∀ ad,ao=some ad→∀ j u,news[j]?=some u→w.cell? (ad.add j)=some u) (h1:∀ u∈news,u.oneCell'=true)
  (h63:n+m≤maxLen) (hbytes:(n+m)*bytes≤140737488355328) :
  ∃ v' w',(Builtin.append_ #[t,t] ty #[v,.slice ao m c]).run P w=.ok v' w'∧w'.ownsRow 0 e size v' (n+m) (xs++news)∧w.grownBy w' v.ownBlock∧Lies w v v':=by
 obtain ⟨i,hi,hzz⟩:=Option.map_eq_some_iff.1 hinfo;simp only [Prod.mk.injEq] at hzz;obtain ⟨hz,hs,hb⟩:=hzz;cases ao with
 | none =>
  obtain ⟨rfl,rfl⟩:=hnil rfl;have:news=[]:=List.eq_nil_of_length_eq_zero (by simpa using hl);subst this;refine ⟨v,w,run_append_owned_none (P:=P) w 0 t ty e i size ht hi v n xs hown,by simpa using hown,World.grownBy.refl _ _,.inl rfl⟩
 | some ad =>
  obtain ⟨v',w',hr,h2,h3,_,h5⟩:=run_append_own_at (P:=P) w 0 t ty e i z size bytes ht hi hz hs hb hzs hsz v n xs hown ad m c news hl (hnews ad rfl) h1 h63 hbytes (Nat.zero_le _);exact ⟨v',w',hr,h2,h3,h5⟩
theorem wp_app {P:Program} {w:World} {o:Oper} {a:Act} {K:Act→World→Prop} {Q:Exit→Act→World→Prop} (s x:Operand) (t:TypeId)
  (ho:o.op=.call { callee:=.builtin .append,args:=#[s,x],argTypes:=#[t,t] })
  (e:TypeId) (z:Value) (size bytes:Nat) (ht:P.underlying t=some (.slice e)) (hinfo:(P.info? e).map (fun i=>(i.zero,i.size,i.bytes))=some (some z,size,bytes))
  (hzs:z.cells.size=size) (hsz:0 < size) (v:Value) (n:Nat) (xs:List Value) (hs:a.eval s=v) (hown:w.ownsRow 0 e size v n xs)
  (ao:Option Addr) (m c:Nat) (news:List Value) (hx:a.eval x=.slice ao m c) (hl:news.length=m*size) (hnil:ao=none→m=0∧c=0) (hnews:∀ ad,ao=some ad→∀ j u,news[j]?=some u→w.cell? (ad.add j)=some u) (h1:∀ u∈news,u.oneCell'=true)
  (h63:n+m≤maxLen) (hbytes:(n+m)*bytes≤140737488355328)
  (h:∀ v' w',w'.ownsRow 0 e size v' (n+m) (xs++news)→w.grownBy w' v.ownBlock→Lies w v v'→K (a.put o.dst v') w'):Oper.wp P o a w K Q:=by
 obtain ⟨v',w',hrun,h2,h3,h4⟩:=run_app (P:=P) (w:=w) t o.type e z size bytes ht hinfo hzs hsz v n xs hown ao m c news hl hnil hnews h1 h63 hbytes;unfold Oper.wp;simp [execOp,ho,resolve,invoke,builtin,hs,hx,hrun,Result.andThen];exact h v' w' h2 h3 h4
theorem wpList_app {P:Program} {w:World} {ops:Array Oper} {rest:List Oper} {o:Oper} {a:Act} {Q:Exit→Act→World→Prop} (hgd:o.guard=none) (s x:Operand) (t:TypeId)
  (ho:o.op=.call { callee:=.builtin .append,args:=#[s,x],argTypes:=#[t,t] })
  (e:TypeId) (z:Value) (size bytes:Nat) (ht:P.underlying t=some (.slice e)) (hinfo:(P.info? e).map (fun i=>(i.zero,i.size,i.bytes))=some (some z,size,bytes))
  (hzs:z.cells.size=size) (hsz:0 < size) (v:Value) (n:Nat) (xs:List Value) (hs:a.eval s=v) (hown:w.ownsRow 0 e size v n xs)
  (ao:Option Addr) (m c:Nat) (news:List Value) (hx:a.eval x=.slice ao m c) (hl:news.length=m*size) (hnil:ao=none→m=0∧c=0) (hnews:∀ ad,ao=some ad→∀ j u,news[j]?=some u→w.cell? (ad.add j)=some u) (h1:∀ u∈news,u.oneCell'=true)
  (h63:n+m≤maxLen) (hbytes:(n+m)*bytes≤140737488355328)
  (h:∀ v' w',w'.ownsRow 0 e size v' (n+m) (xs++news)→w.grownBy w' v.ownBlock→Lies w v v'→wpList P ops Q rest (a.put o.dst v') w'):wpList P ops Q (o :: rest) a w :=
 wpList_plain hgd fun _ hK=>wp_app s x t ho e z size bytes ht hinfo hzs hsz v n xs hs hown ao m c news hx hl hnil hnews h1 h63 hbytes fun v' w' h2 h3 h4=>hK _ _ (h v' w' h2 h3 h4)
theorem step_app {P:Program} {w:World} {ops:Array Oper} {o:Oper} {a:Act} {K:Act→World→Prop} {Q:Exit→Act→World→Prop} {E:Prop} (hgd:o.guard=none) (s x:Operand) (t:TypeId)
  (ho:o.op=.call { callee:=.builtin .append,args:=#[s,x],argTypes:=#[t,t] })
  (e:TypeId) (z:Value) (size bytes:Nat) (ht:P.underlying t=some (.slice e)) (hinfo:(P.info? e).map (fun i=>(i.zero,i.size,i.bytes))=some (some z,size,bytes))
  (hzs:z.cells.size=size) (hsz:0 < size) (v:Value) (n:Nat) (xs:List Value) (hs:a.eval s=v) (hown:w.ownsRow 0 e size v n xs)
  (ao:Option Addr) (m c:Nat) (news:List Value) (hx:a.eval x=.slice ao m c) (hl:news.length=m*size) (hnil:ao=none→m=0∧c=0) (hnews:∀ ad,ao=some ad→∀ j u,news[j]?=some u→w.cell? (ad.add j)=some u) (h1:∀ u∈news,u.oneCell'=true)
  (h63:n+m≤maxLen) (hbytes:(n+m)*bytes≤140737488355328)
  (h:∀ v' w',w'.ownsRow 0 e size v' (n+m) (xs++news)→w.grownBy w' v.ownBlock→Lies w v v'→K (a.put o.dst v') w') :
  if Region.wanted o (yielded ops a.tmps)=true then Oper.wp P o a w K Q else E:=by
 have hw:Region.wanted o (yielded ops a.tmps)=true:=by simp [Region.wanted,hgd]
 rw [if_pos hw];exact wp_app s x t ho e z size bytes ht hinfo hzs hsz v n xs hs hown ao m c news hx hl hnil hnews h1 h63 hbytes h
theorem news_new {w:World} {t:TypeId} (cs:List Value) (w':World) (hw:Blk w' w.heap.size cs.toArray t):∀ ad,(some ⟨w.heap.size,0,none⟩:Option Addr)=some ad→∀ j u,cs[j]?=some u→w'.cell? (ad.add j)=some u:=by
 intro ad ha j u hj;obtain rfl:=Option.some.inj ha;have ea:(⟨w.heap.size,0,none⟩:Addr).add j=⟨w.heap.size,j,none⟩:=by
  by_cases e:j=0
  ·subst e;simp [Addr.add]
  ·simp [Addr.add,e]
 rw [ea];exact hw.cell (by simpa using hj)
theorem Sl.news {w:World} {a:Option Addr} {n c:Nat} {l:List UInt8} (h:Sl w a n c l):∀ ad,a=some ad→∀ j u,(bv l)[j]?=some u→w.cell? (ad.add j)=some u:=by
 intro ad ha j u hj;rw [bv_get] at hj;obtain ⟨x,hx,rfl⟩:=Option.map_eq_some_iff.1 hj;obtain ⟨hlt,rfl⟩:=List.getElem?_eq_some_iff.1 hx;obtain ⟨b,o,e,hc⟩:=h.cell j hlt;rw [ha] at e;obtain rfl:=Option.some.inj e;have ea:(⟨b,o,none⟩:Addr).add j=⟨b,o+j,none⟩:=by
  by_cases e:j=0
  ·subst e;simp [Addr.add]
  ·simp [Addr.add,e]
 rw [ea];exact hc
theorem own_cut {w:World} {e n:Nat} {v:Value} {xs:List Value} (h:w.ownsRow 0 e 1 v n xs):∃ a c,v=.slice a n c∧w.ownsRow 0 e 1 (.slice a 0 c) 0 []∧(Value.slice a 0 c).ownBlock=v.ownBlock:=by
 obtain ⟨_,h⟩:=h;rcases h with ⟨rfl,rfl⟩ | ⟨g,cap,cur,rfl,h0,hg,hn,hm,hs,_⟩
 ·exact ⟨none,0,rfl,⟨rfl,.inl ⟨rfl,rfl⟩⟩,rfl⟩
 ·exact ⟨_,cap,rfl,⟨rfl,.inr ⟨g,cap,cur,rfl,h0,hg,by omega,hm,hs,by simp⟩⟩,rfl⟩
theorem own_fr {S:Nat→Prop} {w w':World} {e size n:Nat} {v:Value} {xs:List Value} (h:w.ownsRow 0 e size v n xs) (f:Fr S w w') (hn:∀ k,v.ownBlock=some k→¬ S k):w'.ownsRow 0 e size v n xs:=by
 obtain ⟨h1,h⟩:=h;refine ⟨h1,?_⟩;rcases h with ⟨rfl,rfl⟩ | ⟨g,cap,cur,rfl,h0,hg,hn',hm,hs,ht⟩
 ·exact .inl ⟨rfl,rfl⟩
 ·exact .inr ⟨g,cap,cur,rfl,h0,(f.block g (lt_of_heap hg) (hn g rfl)).trans hg,hn',hm,hs,ht⟩
theorem own_lt {w:World} {e size n:Nat} {v:Value} {xs:List Value} (h:w.ownsRow 0 e size v n xs) {k:Nat} (hk:v.ownBlock=some k):k < w.heap.size:=by
 obtain ⟨_,h⟩:=h;rcases h with ⟨rfl,rfl⟩ | ⟨g,cap,cur,rfl,h0,hg,_⟩
 ·cases hk
 ·cases hk;exact lt_of_heap hg
theorem own_form {w:World} {e size n:Nat} {v:Value} {xs:List Value} (h:w.ownsRow 0 e size v n xs):∃ a c,v=.slice a n c∧n≤c∧c≤maxLen∧(a=none→c=0):=by
 obtain ⟨_,h⟩:=h;rcases h with ⟨rfl,rfl⟩ | ⟨g,cap,cur,rfl,h0,hg,hn,hm,_⟩
 ·exact ⟨none,0,rfl,by omega,by unfold maxLen;omega,fun _=>rfl⟩
 ·exact ⟨_,cap,rfl,hn,hm,(fun h=>by cases h)⟩
theorem own_sl {w:World} {a:Option Addr} {n c:Nat} {l:List UInt8} (h:w.ownsRow 0 5 1 (.slice a n c) n (bv l)):Sl w a n c l:=by
 obtain ⟨h1,h⟩:=h;rw [bv_length,Nat.mul_one] at h1;rcases h with ⟨hv,rfl⟩ | ⟨g,cap,cur,hv,h0,hg,hn,hm,hs,ht⟩
 ·simp at hv;obtain ⟨rfl,rfl⟩:=hv;exact ⟨h1,by omega,by unfold maxLen;omega,fun _=>rfl,fun j hj=>by omega⟩
 ·simp at hv;obtain ⟨rfl,rfl⟩:=hv;refine Sl.mk' h1 hn hm fun j hj=>?_
  have hb:Blk w g cur 5:=hg;rw [Nat.zero_add,hb.cell',← Array.getElem?_toList];have:(cur.toList.take (n*1))[j]?=(bv l)[j]?:=by rw [ht]
  rw [List.getElem?_take_of_lt (by omega),bv_get,List.getElem?_eq_getElem hj] at this;rw [this];rfl
end
section
open Go
section
variable {P:Program} {ops:Array Oper} {Q:Exit→Act→World→Prop} {S:World→Prop} {stop:Nat}
def wpAnyT (P:Program) (ops:Array Oper) (Q:Exit→Act→World→Prop) (S:World→Prop) (stop:Nat):Nat→Array Bool→Act→World→Prop
 | 0,listed,a,w=>wpAny P .any ops Q 0 listed a w
 | fuel+1,listed,a,w =>
  (Region.ready .any ops listed=[]→Q .normal a w) ∧
  ∀ i∈Region.ready .any ops listed,wpOp P ops Q i (fun a' w'=>if i=stop then wpAny P .any ops Q fuel (listed.setIfInBounds i true) a' w' else S w'∧wpAnyT P ops Q S stop fuel (listed.setIfInBounds i true) a' w') a w
theorem wpAny_of_T:∀ (fuel:Nat) (listed:Array Bool) (a:Act) (w:World),wpAnyT P ops Q S stop fuel listed a w→wpAny P .any ops Q fuel listed a w
 | 0,_,_,_,h=>h
 | fuel+1,_,_,_,h=>⟨h.1,fun i hi=>wpOp_mono (fun a' w' h'=>by
   by_cases e:i=stop
   ·rw [if_pos e] at h';exact h'
   ·rw [if_neg e] at h';exact wpAny_of_T fuel _ a' w' h'.2) (h.2 i hi)⟩
theorem wpAnyT_first {i:Nat} {oi:Oper} {v:Value} (hi:ops[i]?=some oi) (hsel:∀ (j:Nat) (o:Oper) cs b,ops[j]?=some o→o.op≠.select cs b)
  (hQ:∀ c a w,Q (.panic c) (a.put oi.dst v) w→Q (.panic c) a w) (his:i≠stop) (hst:Region.waitsFor .any ops stop i=true) :
  ∀ (fuel:Nat) (listed:Array Bool) (a:Act) (w:World),
   (∀ j oj,ops[j]?=some oj→j≠i→listed.getD j true=false→(∀ e∈oj.after,Region.binds .any e=true→e.on≠i)→oi.apart ops oj=true) →
   i∈Region.ready .any ops listed→YieldsIf P ops S oi v a→S w →
   wpAnyT P ops Q S stop fuel (listed.setIfInBounds i true) (a.put oi.dst v) w→wpAnyT P ops Q S stop (fuel+1) listed a w:=by
 intro fuel;induction fuel with
 | zero =>
  intro listed a w _ hr hy hS H;refine ⟨fun h=>(by rw [h] at hr;cases hr),fun j hj=>?_⟩;by_cases hji:j=i
  ·subst hji;exact hy.wpOp hi hS (by rw [if_neg his];exact ⟨hS,H⟩)
  ·have:=ready_mono hj hji;rw [H.1] at this;cases this
 | succ fuel ih =>
  intro listed a w hfree hr hy hS H;refine ⟨fun h=>(by rw [h] at hr;cases hr),fun j hj=>?_⟩;by_cases hji:j=i
  ·subst hji;exact hy.wpOp hi hS (by rw [if_neg his];exact ⟨hS,H⟩)
  ·have h1:=H.2 j (ready_mono hj hji);obtain ⟨hjun,oj,hoj,hall⟩:=mem_ready.1 hj;have hnot:∀ e∈oj.after,Region.binds .any e=true→e.on≠i:=fun e he hb heq=>by
    have h1:=hall e he hb;have h0:=(mem_ready.1 hr).1;rw [heq] at h1;rcases Nat.lt_or_ge i listed.size with h' | h'
    ·simp [h'] at h0 h1;rw [h0] at h1;cases h1
    ·simp [Array.getElem?_eq_none h'] at h1
   have hjs:j≠stop:=fun e=>by
    subst e;obtain ⟨os,hos,e,he,hb,hon⟩:=Region.waitsFor_spec hst;obtain rfl:=Option.some.inj (hos.symm.trans hoj);exact hnot e he hb hon
   simp only [if_neg hjs] at h1 ⊢;have h2:=wpOp_putIf hoj (hfree j oj hoj hji hjun hnot) (fun cs b=>hsel i oi cs b hi) (fun cs b=>hsel j oj cs b hoj) hQ hy h1;have hfree':∀ k ok,ops[k]?=some ok→k≠i→(listed.setIfInBounds j true).getD k true=false →
     (∀ e∈ok.after,Region.binds .any e=true→e.on≠i)→oi.apart ops ok=true:=fun k ok hk hki hun hno=>by
    refine hfree k ok hk hki ?_ hno;by_cases hjk:j=k
    ·subst hjk;exact hjun
    ·rw [getD_set_ne true hjk] at hun;exact hun
   refine wpOp_mono (fun a' w' h3=>⟨h3.2.1,ih (listed.setIfInBounds j true) a' w' hfree' (ready_mono hr (Ne.symm hji)) h3.1 h3.2.1 ?_⟩) h2;rw [Array.setIfInBounds_comm _ _ hji];exact h3.2.2
def upto (n k:Nat):Array Bool:=((List.range n).map fun i=>decide (i < k)).toArray
theorem upto_zero (n:Nat):upto n 0=Array.replicate n false:=by
 apply Array.ext_getElem?
 intro i;simp [upto,Array.getElem?_replicate];by_cases h:i < n <;> simp [h]
theorem upto_succ (n k:Nat):(upto n k).setIfInBounds k true=upto n (k+1):=by
 apply Array.ext_getElem?
 intro i;rw [Array.getElem?_setIfInBounds];by_cases h:k=i
 ·subst h;by_cases hk:k < n
  ·simp [upto,hk]
  ·simp [upto,hk]
 ·rw [if_neg h];by_cases hi:i < n
  ·simp [upto,hi];omega
  ·simp [upto,hi]
def Pos (P:Program) (l:List Oper) (Q:Exit→Act→World→Prop) (S:World→Prop) (stop k:Nat) (a:Act) (w:World):Prop :=
 wpAnyT P l.toArray Q S stop (l.length - k) (upto l.length k) a w
theorem Pos.start {id:Nat} {l:List Oper} {a:Act} {w:World} (S:World→Prop) (stop:Nat) (hm:P.follows .mixedOrders=true) (h:Pos P l Q S stop 0 a (w.drewN 1)):(Code.region id l.toArray true).wp P Q a w:=by
 refine wp_region_any hm ?_;have:=wpAny_of_T _ _ _ _ h;rw [upto_zero,Nat.sub_zero] at this;rw [List.size_toArray];exact this
def takeOk (l:List Oper) (stop k:Nat):Bool :=
 Region.noSelect l.toArray && Region.free .any l.toArray (upto l.length k) k && (Region.ready .any l.toArray (upto l.length k)).contains k && decide (k≠stop) && Region.waitsFor .any l.toArray stop k && decide (k < l.length)
theorem Pos.take {l:List Oper} {k:Nat} {a:Act} {w:World} {o:Oper} {v:Value} (ho:l[k]?=some o) (hc:takeOk l stop k=true) (hS:S w)
  (hQ:∀ c a w,Q (.panic c) (a.put o.dst v) w→Q (.panic c) a w)
  (hy:∀ W,S W→(execOp a.eval o).run P W=.ok (.value v) W) (hg:Region.wanted o (yielded l.toArray a.tmps)=true) (h:Pos P l Q S stop (k+1) (a.put o.dst v) w):Pos P l Q S stop k a w:=by
 simp only [takeOk,Bool.and_eq_true,decide_eq_true_eq] at hc;obtain ⟨⟨⟨⟨⟨c1,c2⟩,c3⟩,c4⟩,c5⟩,c6⟩:=hc;unfold Pos at *;rw [show l.length - k=(l.length - (k+1))+1 by omega];have ho':l.toArray[k]?=some o:=by simpa using ho
 refine wpAnyT_first ho' (Region.noSelect_spec c1) hQ c4 c5 _ _ a w (Region.free_spec ho' c2) (by simpa using c3) (.inl ⟨hg,hy⟩) hS ?_;rw [upto_succ];exact h
theorem Pos.skip {l:List Oper} {k:Nat} {a:Act} {w:World} {o:Oper} (ho:l[k]?=some o) (hc:takeOk l stop k=true) (hS:S w)
  (hQ:∀ c a w,Q (.panic c) (a.put o.dst undef) w→Q (.panic c) a w)
  (hg:Region.wanted o (yielded l.toArray a.tmps)=false) (h:Pos P l Q S stop (k+1) (a.put o.dst undef) w):Pos P l Q S stop k a w:=by
 simp only [takeOk,Bool.and_eq_true,decide_eq_true_eq] at hc;obtain ⟨⟨⟨⟨⟨c1,c2⟩,c3⟩,c4⟩,c5⟩,c6⟩:=hc;unfold Pos at *;rw [show l.length - k=(l.length - (k+1))+1 by omega];have ho':l.toArray[k]?=some o:=by simpa using ho
 refine wpAnyT_first ho' (Region.noSelect_spec c1) hQ c4 c5 _ _ a w (Region.free_spec ho' c2) (by simpa using c3) (.inr ⟨hg,rfl⟩) hS ?_;rw [upto_succ];exact h
theorem Pos.takeK {l:List Oper} {k:Nat} {a:Act} {w:World} {o:Oper} {v:Value} (hS:S w) (ho:l[k]?=some o) (hc:takeOk l stop k=true)
  (hQ:∀ c a w,Q (.panic c) (a.put o.dst v) w→Q (.panic c) a w) (hg:Region.wanted o (yielded l.toArray a.tmps)=true)
  (hy:∀ W,S W→(execOp a.eval o).run P W=.ok (.value v) W) (h:∀ K:Act→Prop,(∀ a',Pos P l Q S stop (k+1) a' w→K a')→K (a.put o.dst v)):Pos P l Q S stop k a w :=
 Pos.take ho hc hS hQ hy hg (h _ fun _ h=>h)
def Pos.after (P:Program) (l:List Oper) (Q:Exit→Act→World→Prop) (S:World→Prop) (stop k:Nat):Exit→Act→World→Prop
 | .normal,a,w=>S w∧Pos P l Q S stop k a w
 | e,a,w=>Q e a w
def effOk (l:List Oper) (stop k:Nat):Bool:=decide (Region.ready .any l.toArray (upto l.length k)=[k]) && decide (k≠stop) && decide (k < l.length)
theorem Pos.eff {l:List Oper} {k:Nat} {a:Act} {w:World} {o:Oper} (ho:l[k]?=some o) (hc:effOk l stop k=true)
  (h:wpList P l.toArray (Pos.after P l Q S stop (k+1)) [o] a w):Pos P l Q S stop k a w:=by
 simp only [effOk,Bool.and_eq_true,decide_eq_true_eq] at hc;obtain ⟨⟨c1,c2⟩,c3⟩:=hc;unfold Pos;rw [show l.length - k=(l.length - (k+1))+1 by omega];refine ⟨fun h=>(by rw [c1] at h;cases h),fun i hi=>?_⟩;rw [c1] at hi;have:i=k:=by simpa using hi
 subst this;simp only [if_neg c2,upto_succ];have ho':l.toArray[i]?=some o:=by simpa using ho
 unfold wpOp;simp only [ho'];have hq:∀ (a':Act) (w':World),wpList P l.toArray (Pos.after P l Q S stop (i+1)) [] a' w'→S w'∧wpAnyT P l.toArray Q S stop (l.length - (i+1)) (upto l.length (i+1)) a' w':=fun a' w' h=>h
 simp only [wpList] at h;split
 ·rename_i hw
  rw [if_pos hw] at h;rcases h with h | ⟨h1,a0,w0,h2⟩
  ·refine .inl ?_;unfold Oper.wp at *;generalize (execOp a.eval o).run P w=r at *;cases r with
   | ok n w' =>
    cases n <;> simp only [Oper.upon] at h ⊢
    case value u=>exact hq _ _ h
    case skip=>exact hq _ _ h
    case defer d=>exact hq _ _ h
    case enter f args =>
     refine Calls.mono h fun e w'' he=>?_
     cases e with
     | returned u=>exact hq _ _ he
     | panicked c=>exact he
     | outgrown=>obtain ⟨a1,w1,h1⟩:=he;exact ⟨a1,w1,h1⟩
    case row row args=>exact Rows.mono h fun u w'' he=>hq _ _ he
   | halt x w' =>
    cases x <;> simp only [Oper.upon] at h ⊢
    case panic u=>exact h
  ·exact .inr ⟨h1,a0,w0,h2⟩
 ·rename_i hw
  rw [if_neg hw] at h;exact hq _ _ h
def tailOk (l:List Oper) (k:Nat):Bool:=Region.seqB .any l.toArray (l.length - k) k (upto l.length k)
theorem wpAnyT_of_any:∀ (fuel:Nat) (listed:Array Bool) (a:Act) (w:World),wpAny P .any ops Q fuel listed a w→stop∈Region.ready .any ops listed→(∀ j∈Region.ready .any ops listed,j=stop)→wpAnyT P ops Q S stop fuel listed a w
 | 0,_,_,_,h,_,_=>h
 | fuel+1,_,_,_,h,_,hj=>⟨h.1,fun i hi=>by
   have:=h.2 i hi;have e:=hj i hi;simp only [if_pos e];exact this⟩
theorem Pos.tail {l:List Oper} {a:Act} {w:World} (hc:tailOk l stop=true) (hs:stop < l.length) (h:wpList P l.toArray Q (l.drop stop) a w):Pos P l Q S stop stop a w:=by
 unfold tailOk at hc;unfold Pos;have hany:=wpAny_of_seq (P:=P) (Q':=Q) (ops:=l.toArray) (md:=.any) (l.drop stop) stop (upto l.length stop) a w (fun j=>by simp [List.getElem?_drop]) (by simpa using hc) h;simp only [List.length_drop] at hany;have hr:Region.ready .any l.toArray (upto l.length stop)=[stop]:=by
  rw [show l.length - stop=(l.length - stop - 1)+1 by omega] at hc;simp only [Region.seqB,Bool.and_eq_true,decide_eq_true_eq] at hc;exact hc.1
 exact wpAnyT_of_any _ _ a w hany (by rw [hr];simp) (fun j hj=>by rw [hr] at hj;simpa using hj)
end
end
end Go.Proofs.YtmkdpjicgjhhjaaGreatDoor
