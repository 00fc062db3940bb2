/- Part 2 of the proof of FnTableComesBack: contracts and lemmas, each under the conditions that it states. Texts: Shelf. -/
import Derived.Shelf.LaysM
import Derived.Shelf.Bytes.GrowSliceCatch
import Derived.Shelf.Bytes.GrowSlice
import Derived.Ground.MnProg
import Derived.Shelf.Bin.LEUint32
import Derived.Shelf.Bin.LEPutUint32
import Derived.Shelf.Bin.PutUvarint
import Derived.Shelf.Bin.Uvarint
import Derived.Shelf.Bin.UvarintEmpty
import Derived.Shelf.Bin.ReadersZ
import Derived.Shelf.Strings.Prefix
import Derived.Test.YtmkdpjicgjhhjaaGreatDoorProg
set_option linter.all false
namespace Go.Proofs
open Go.Shelf
def Tryz.laysM324_ren:Go.Shelf.Ren:=⟨fun | 324=>159 | n=>n,fun | 20=>20 | 4=>4 | 75=>57 | 0=>0 | 80=>133 | 9=>9 | n=>n,fun | 14=>6 | n=>n⟩
theorem Tryz.laysM324:Go.Proofs.LaysM.n324 Tryz.prog Tryz.laysM324_ren:={
 mixed:=by kernel_rfl
 f324:=Tryz.func159.trans (congrArg some (by kernel_rfl))
 t0:=Tryz.underlying0
 a0:=Tryz.isAgg0
 z0:=Tryz.sizeOf0
 v0:=Tryz.zeroValue0
 t4:=Tryz.underlying4
 a4:=Tryz.isAgg4
 z4:=Tryz.sizeOf4
 v4:=Tryz.zeroValue4
 t20:=Tryz.underlying20
 a20:=Tryz.isAgg20
 z20:=Tryz.sizeOf20
 v20:=Tryz.zeroValue20
 t75:=Tryz.underlying57
 a75:=Tryz.isAgg57
 z75:=Tryz.sizeOf57
 v75:=Tryz.zeroValue57
 g14:=by kernel_rfl
 t9:=Tryz.underlying9
 a9:=Tryz.isAgg9
 z9:=Tryz.sizeOf9
 v9:=Tryz.zeroValue9
 t80:=Tryz.underlying133
 a80:=Tryz.isAgg133
 z80:=Tryz.sizeOf133
 v80:=Tryz.zeroValue133
 i0:=by kernel_rfl
 i4:=by kernel_rfl
 i9:=by kernel_rfl
 i20:=by kernel_rfl
 i75:=by kernel_rfl
 i80:=by kernel_rfl
 m14:=by kernel_rfl }
theorem Tryz.growSlice_catch_idle (w:World) :
  CallsD Tryz.prog 159 #[] .returning w fun e u' w'=>e=.returned (.tuple #[])∧u'=.returning∧w'=w:=Any.growSlice_catch_idle Tryz.laysM324 w
def Tryz.laysM290_ren:Go.Shelf.Ren:=⟨fun | 290=>158 | 324=>159 | n=>n,fun | 37=>29 | 3=>3 | 0=>0 | 4=>4 | 20=>20 | 75=>57 | 5=>5 | 80=>133 | 9=>9 | n=>n,fun | 14=>6 | n=>n⟩
theorem Tryz.laysM290:Go.Proofs.LaysM.n290 Tryz.prog Tryz.laysM290_ren:={
 mixed:=by kernel_rfl
 f290:=Tryz.func158.trans (congrArg some (by kernel_rfl))
 f324:=Tryz.func159.trans (congrArg some (by kernel_rfl))
 t0:=Tryz.underlying0
 a0:=Tryz.isAgg0
 z0:=Tryz.sizeOf0
 v0:=Tryz.zeroValue0
 t3:=Tryz.underlying3
 a3:=Tryz.isAgg3
 z3:=Tryz.sizeOf3
 v3:=Tryz.zeroValue3
 t4:=Tryz.underlying4
 a4:=Tryz.isAgg4
 z4:=Tryz.sizeOf4
 v4:=Tryz.zeroValue4
 t20:=Tryz.underlying20
 a20:=Tryz.isAgg20
 z20:=Tryz.sizeOf20
 v20:=Tryz.zeroValue20
 t37:=Tryz.underlying29
 a37:=Tryz.isAgg29
 z37:=Tryz.sizeOf29
 v37:=Tryz.zeroValue29
 t75:=Tryz.underlying57
 a75:=Tryz.isAgg57
 z75:=Tryz.sizeOf57
 v75:=Tryz.zeroValue57
 g14:=by kernel_rfl
 t5:=Tryz.underlying5
 a5:=Tryz.isAgg5
 z5:=Tryz.sizeOf5
 v5:=Tryz.zeroValue5
 t9:=Tryz.underlying9
 a9:=Tryz.isAgg9
 z9:=Tryz.sizeOf9
 v9:=Tryz.zeroValue9
 t80:=Tryz.underlying133
 a80:=Tryz.isAgg133
 z80:=Tryz.sizeOf133
 v80:=Tryz.zeroValue133
 i0:=by kernel_rfl
 i3:=by kernel_rfl
 i4:=by kernel_rfl
 i5:=by kernel_rfl
 i9:=by kernel_rfl
 i20:=by kernel_rfl
 i37:=by kernel_rfl
 i75:=by kernel_rfl
 i80:=by kernel_rfl
 m14:=by kernel_rfl }
open Go.RowKit in
theorem Tryz.bytes_growSlice_row (g l c n:Nat) (cur:Array Value) (w:World) (hg:w.heap[g]?=some (.cells cur 5 (0,0))) (hcs:cur.size=c) (hlc:l≤c) (hn:1≤n) (hlim:l+n≤140737488355328) (hc2:c≤140737488355328) (h1:∀ v∈cur.toList.take l,v.oneCell'=true) :
  Calls Tryz.prog 158 #[.slice (some ⟨g,0,none⟩) l c,.int .i64 n] w fun e w'=>∃ cap2 cells,e=.returned (.slice (some ⟨w.heap.size,0,none⟩) l cap2)∧w'.heap[w.heap.size]?=some (.cells cells 5 (0,0)) ∧
   cells.size=cap2∧cells.toList.take l=cur.toList.take l∧l+n≤cap2∧cap2≤maxLen∧Below w.heap.size w w':=Any.bytes_growSlice_row Tryz.laysM290 g l c n cur w hg hcs hlc hn hlim hc2 h1
open Go.RowKit in
theorem Tryz.bytes_growSlice_nil (n:Nat) (w:World) (hn:1≤n) (hlim:n≤140737488355328) :
  Calls Tryz.prog 158 #[.slice none 0 0,.int .i64 n] w fun e w'=>∃ cap2 cells,e=.returned (.slice (some ⟨w.heap.size,0,none⟩) 0 cap2)∧w'.heap[w.heap.size]?=some (.cells cells 5 (0,0)) ∧
   cells.size=cap2∧n≤cap2∧cap2≤maxLen∧Below w.heap.size w w':=Any.bytes_growSlice_nil Tryz.laysM290 n w hn hlim
def Tryz.laysBin30_ren:Go.Shelf.Ren:=⟨fun | 30=>101 | n=>n,fun | 25=>204 | 22=>29 | 29=>201 | 0=>0 | 5=>5 | 45=>98 | n=>n,fun | n=>n⟩
theorem Tryz.laysBin30:Go.Proofs.LaysBin.n30 Tryz.prog Tryz.laysBin30_ren:={
 mixed:=by kernel_rfl
 f30:=Tryz.func101.trans (congrArg some (by kernel_rfl))
 t0:=Tryz.underlying0
 a0:=Tryz.isAgg0
 z0:=Tryz.sizeOf0
 v0:=Tryz.zeroValue0
 i0:=by kernel_rfl
 t5:=Tryz.underlying5
 a5:=Tryz.isAgg5
 z5:=Tryz.sizeOf5
 v5:=Tryz.zeroValue5
 i5:=by kernel_rfl
 t22:=Tryz.underlying29
 a22:=Tryz.isAgg29
 z22:=Tryz.sizeOf29
 v22:=Tryz.zeroValue29
 i22:=by kernel_rfl
 t25:=Tryz.underlying204
 a25:=Tryz.isAgg204
 z25:=Tryz.sizeOf204
 v25:=Tryz.zeroValue204
 i25:=by kernel_rfl
 t29:=Tryz.underlying201
 a29:=Tryz.isAgg201
 z29:=Tryz.sizeOf201
 v29:=Tryz.zeroValue201
 i29:=by kernel_rfl
 t45:=Tryz.underlying98
 a45:=Tryz.isAgg98
 z45:=Tryz.sizeOf98
 v45:=Tryz.zeroValue98
 i45:=by kernel_rfl }
open Go.RowKit in
theorem Tryz.binary_LE_Uint32 (g o n c:Nat) (b0 b1 b2 b3:UInt8) (w:World) (hn:4≤n) (c0:w.cell? ⟨g,o,none⟩=some (.int .u8 b0.toNat)) (c1:w.cell? ⟨g,o+1,none⟩=some (.int .u8 b1.toNat)) (c2:w.cell? ⟨g,o+2,none⟩=some (.int .u8 b2.toNat)) (c3:w.cell? ⟨g,o+3,none⟩=some (.int .u8 b3.toNat)) :
  Calls Tryz.prog 101 #[.agg #[],.slice (some ⟨g,o,none⟩) n c] w fun e w'=>e=.returned (.int .u32 (Lib.leNat [b0,b1,b2,b3]))∧Below w.heap.size w w':=Any.binary_LE_Uint32 Tryz.laysBin30 g o n c b0 b1 b2 b3 w hn c0 c1 c2 c3
def Tryz.laysBin31_ren:Go.Shelf.Ren:=⟨fun | 31=>94 | n=>n,fun | 25=>204 | 22=>29 | 29=>201 | 0=>0 | 5=>5 | 45=>98 | n=>n,fun | n=>n⟩
theorem Tryz.laysBin31:Go.Proofs.LaysBin.n31 Tryz.prog Tryz.laysBin31_ren:={
 mixed:=by kernel_rfl
 f31:=Tryz.func94.trans (congrArg some (by kernel_rfl))
 t0:=Tryz.underlying0
 a0:=Tryz.isAgg0
 z0:=Tryz.sizeOf0
 v0:=Tryz.zeroValue0
 i0:=by kernel_rfl
 t5:=Tryz.underlying5
 a5:=Tryz.isAgg5
 z5:=Tryz.sizeOf5
 v5:=Tryz.zeroValue5
 i5:=by kernel_rfl
 t22:=Tryz.underlying29
 a22:=Tryz.isAgg29
 z22:=Tryz.sizeOf29
 v22:=Tryz.zeroValue29
 i22:=by kernel_rfl
 t25:=Tryz.underlying204
 a25:=Tryz.isAgg204
 z25:=Tryz.sizeOf204
 v25:=Tryz.zeroValue204
 i25:=by kernel_rfl
 t29:=Tryz.underlying201
 a29:=Tryz.isAgg201
 z29:=Tryz.sizeOf201
 v29:=Tryz.zeroValue201
 i29:=by kernel_rfl
 t45:=Tryz.underlying98
 a45:=Tryz.isAgg98
 z45:=Tryz.sizeOf98
 v45:=Tryz.zeroValue98
 i45:=by kernel_rfl }
open Go.RowKit in
theorem Tryz.binary_LE_PutUint32 (g o n c v:Nat) (hv:v < 4294967296) (x0 x1 x2 x3:Value) (w:World) (hn:4≤n) (c0:w.cell? ⟨g,o,none⟩=some x0) (c1:w.cell? ⟨g,o+1,none⟩=some x1) (c2:w.cell? ⟨g,o+2,none⟩=some x2) (c3:w.cell? ⟨g,o+3,none⟩=some x3) (f0:w.frozen? ⟨g,o,none⟩=false) (f1:w.frozen? ⟨g,o+1,none⟩=false) (f2:w.frozen? ⟨g,o+2,none⟩=false) (f3:w.frozen? ⟨g,o+3,none⟩=false) :
  Calls Tryz.prog 94 #[.agg #[],.slice (some ⟨g,o,none⟩) n c,.int .u32 v] w fun e w'=>e=.returned (.tuple #[])∧w'=(w.alloc (.cells #[] 204)).setCells g o (Lib.byteCells (Lib.leBytes 4 v)):=Any.binary_LE_PutUint32 Tryz.laysBin31 g o n c v hv x0 x1 x2 x3 w hn c0 c1 c2 c3 f0 f1 f2 f3
def Tryz.laysBin46_ren:Go.Shelf.Ren:=⟨fun | 46=>90 | n=>n,fun | 22=>29 | 33=>112 | 3=>3 | 4=>4 | 5=>5 | 0=>0 | 45=>98 | n=>n,fun | n=>n⟩
theorem Tryz.laysBin46:Go.Proofs.LaysBin.n46 Tryz.prog Tryz.laysBin46_ren:={
 mixed:=by kernel_rfl
 f46:=Tryz.func90.trans (congrArg some (by kernel_rfl))
 t0:=Tryz.underlying0
 a0:=Tryz.isAgg0
 z0:=Tryz.sizeOf0
 v0:=Tryz.zeroValue0
 i0:=by kernel_rfl
 t3:=Tryz.underlying3
 a3:=Tryz.isAgg3
 z3:=Tryz.sizeOf3
 v3:=Tryz.zeroValue3
 i3:=by kernel_rfl
 t4:=Tryz.underlying4
 a4:=Tryz.isAgg4
 z4:=Tryz.sizeOf4
 v4:=Tryz.zeroValue4
 i4:=by kernel_rfl
 t5:=Tryz.underlying5
 a5:=Tryz.isAgg5
 z5:=Tryz.sizeOf5
 v5:=Tryz.zeroValue5
 i5:=by kernel_rfl
 t22:=Tryz.underlying29
 a22:=Tryz.isAgg29
 z22:=Tryz.sizeOf29
 v22:=Tryz.zeroValue29
 i22:=by kernel_rfl
 t33:=Tryz.underlying112
 a33:=Tryz.isAgg112
 z33:=Tryz.sizeOf112
 v33:=Tryz.zeroValue112
 i33:=by kernel_rfl
 t45:=Tryz.underlying98
 a45:=Tryz.isAgg98
 z45:=Tryz.sizeOf98
 v45:=Tryz.zeroValue98
 i45:=by kernel_rfl }
open Go.RowKit in
theorem Tryz.binary_PutUvarint (g o n c x:Nat) (hx:x < 18446744073709551616) (w:World) (hn:(Lib.uvarint x).length≤n) (hcell:∀ j,j < (Lib.uvarint x).length→(w.cell? ⟨g,o+j,none⟩).isSome=true∧w.frozen? ⟨g,o+j,none⟩=false) :
  Calls Tryz.prog 90 #[.slice (some ⟨g,o,none⟩) n c,.int .u64 x] w fun e w'=>e=.returned (.int .i64 (Lib.uvarint x).length)∧w'=w.setCells g o (Lib.byteCells (Lib.uvarint x)):=Any.binary_PutUvarint Tryz.laysBin46 g o n c x hx w hn hcell
def Tryz.laysBin45_ren:Go.Shelf.Ren:=⟨fun | 45=>99 | n=>n,fun | 22=>29 | 33=>112 | 3=>3 | 45=>98 | 0=>0 | 5=>5 | 4=>4 | n=>n,fun | n=>n⟩
theorem Tryz.laysBin45:Go.Proofs.LaysBin.n45 Tryz.prog Tryz.laysBin45_ren:={
 mixed:=by kernel_rfl
 f45:=Tryz.func99.trans (congrArg some (by kernel_rfl))
 t0:=Tryz.underlying0
 a0:=Tryz.isAgg0
 z0:=Tryz.sizeOf0
 v0:=Tryz.zeroValue0
 i0:=by kernel_rfl
 t3:=Tryz.underlying3
 a3:=Tryz.isAgg3
 z3:=Tryz.sizeOf3
 v3:=Tryz.zeroValue3
 i3:=by kernel_rfl
 t4:=Tryz.underlying4
 a4:=Tryz.isAgg4
 z4:=Tryz.sizeOf4
 v4:=Tryz.zeroValue4
 i4:=by kernel_rfl
 t5:=Tryz.underlying5
 a5:=Tryz.isAgg5
 z5:=Tryz.sizeOf5
 v5:=Tryz.zeroValue5
 i5:=by kernel_rfl
 t22:=Tryz.underlying29
 a22:=Tryz.isAgg29
 z22:=Tryz.sizeOf29
 v22:=Tryz.zeroValue29
 i22:=by kernel_rfl
 t33:=Tryz.underlying112
 a33:=Tryz.isAgg112
 z33:=Tryz.sizeOf112
 v33:=Tryz.zeroValue112
 i33:=by kernel_rfl
 t45:=Tryz.underlying98
 a45:=Tryz.isAgg98
 z45:=Tryz.sizeOf98
 v45:=Tryz.zeroValue98
 i45:=by kernel_rfl }
open Go.RowKit in
theorem Tryz.binary_Uvarint (g o n c:Nat) (l:List UInt8) (w:World) (hl:l.length=n) (hcell:∀ j (hj:j < l.length),w.cell? ⟨g,o+j,none⟩=some (.int .u8 (l[j]).toNat)) :
  Calls Tryz.prog 99 #[.slice (some ⟨g,o,none⟩) n c] w fun e w'=>e=.returned (.tuple #[.int .u64 (Lib.uvarintDec l).1,.int .i64 (Lib.uvarintDec l).2])∧w'=w:=Any.binary_Uvarint Tryz.laysBin45 g o n c l w hl hcell
open Go.RowKit in
theorem Tryz.binary_Uvarint_empty (ao:Option Addr) (c:Nat) (w:World) :
  Calls Tryz.prog 99 #[.slice ao 0 c] w fun e w'=>e=.returned (.tuple #[.int .u64 (Lib.uvarintDec []).1,.int .i64 (Lib.uvarintDec []).2])∧w'=w:=Any.binary_Uvarint_empty Tryz.laysBin45 ao c w
open Go.RowKit in
theorem Tryz.binary_LE_Uint32_z (a:Addr) (n c:Nat) (zs:List Int) (w:World) (hn:4≤n) (hl:4≤zs.length) (hcell:∀ i,i < zs.length→w.cell? (a.add i)=some (.int .u8 (zs.getD i 0))) (hw:∀ z∈zs,(Lit.int .u8 z).wf=true) :
  Calls Tryz.prog 101 #[.agg #[],.slice (some a) n c] w fun e w'=>e=.returned (.int .u32 (Lib.leZ (zs.take 4)))∧Below w.heap.size w w':=Any.binary_LE_Uint32_z Tryz.laysBin30 a n c zs w hn hl hcell hw
def Tryz.laysM181_ren:Go.Shelf.Ren:=⟨fun | 181=>155 | n=>n,fun | 130=>53 | 3=>3 | 0=>0 | 93=>50 | 37=>29 | 91=>48 | 5=>5 | n=>n,fun | n=>n⟩
def Tryz.laysM251_ren:Go.Shelf.Ren:=⟨fun | 251=>156 | n=>n,fun | 130=>53 | 3=>3 | 4=>4 | 0=>0 | 93=>50 | 37=>29 | 91=>48 | 5=>5 | n=>n,fun | n=>n⟩
def Tryz.laysM252_ren:Go.Shelf.Ren:=⟨fun | 252=>157 | 181=>155 | 184=>152 | 251=>156 | 290=>158 | 324=>159 | n=>n,fun | 130=>53 | 3=>3 | 4=>4 | 0=>0 | 93=>50 | 131=>183 | 37=>29 | 75=>57 | 91=>48 | 20=>20 | 5=>5 | 80=>133 | 9=>9 | n=>n,fun | 14=>6 | n=>n⟩
def Tryz.laysM180_ren:Go.Shelf.Ren:=⟨fun | 180=>154 | 251=>156 | 252=>157 | 181=>155 | 184=>152 | 290=>158 | 324=>159 | n=>n,fun | 130=>53 | 37=>29 | 3=>3 | 75=>57 | 0=>0 | 93=>50 | 91=>48 | 131=>183 | 4=>4 | 20=>20 | 5=>5 | 80=>133 | 9=>9 | n=>n,fun | 14=>6 | n=>n⟩
def Tryz.lays206_ren:Go.Shelf.Ren:=⟨fun | 206=>108 | n=>n,fun | 9=>9 | 4=>4 | 3=>3 | n=>n,fun | n=>n⟩
theorem Tryz.lays206:Go.Proofs.Lays.n206 Tryz.prog Tryz.lays206_ren:={
 mixed:=by kernel_rfl
 f206:=Tryz.func108.trans (congrArg some (by kernel_rfl))
 t3:=Tryz.underlying3
 a3:=Tryz.isAgg3
 z3:=Tryz.sizeOf3
 v3:=Tryz.zeroValue3
 t4:=Tryz.underlying4
 a4:=Tryz.isAgg4
 z4:=Tryz.sizeOf4
 v4:=Tryz.zeroValue4
 t9:=Tryz.underlying9
 a9:=Tryz.isAgg9
 z9:=Tryz.sizeOf9
 v9:=Tryz.zeroValue9 }
open Go.RowKit Go.Lib in
theorem Tryz.stringslite_HasPrefix (s p:ByteArray) (w:World) :
  Calls Tryz.prog 108 #[.string s,.string p] w fun e w'=>e=.returned (.bool (Lib.hasPrefix s.data.toList p.data.toList))∧w'=w:=Any.stringslite_HasPrefix Tryz.lays206 s p w
def Tryz.lays99_ren:Go.Shelf.Ren:=⟨fun | 99=>62 | 206=>108 | n=>n,fun | 9=>9 | 4=>4 | 3=>3 | n=>n,fun | n=>n⟩
theorem Tryz.lays99:Go.Proofs.Lays.n99 Tryz.prog Tryz.lays99_ren:={
 mixed:=by kernel_rfl
 f99:=Tryz.func62.trans (congrArg some (by kernel_rfl))
 f206:=Tryz.func108.trans (congrArg some (by kernel_rfl))
 t3:=Tryz.underlying3
 a3:=Tryz.isAgg3
 z3:=Tryz.sizeOf3
 v3:=Tryz.zeroValue3
 t4:=Tryz.underlying4
 a4:=Tryz.isAgg4
 z4:=Tryz.sizeOf4
 v4:=Tryz.zeroValue4
 t9:=Tryz.underlying9
 a9:=Tryz.isAgg9
 z9:=Tryz.sizeOf9
 v9:=Tryz.zeroValue9 }
open Go.RowKit Go.Lib in
theorem Tryz.strings_HasPrefix (s p:ByteArray) (w:World) :
  Calls Tryz.prog 62 #[.string s,.string p] w fun e w'=>e=.returned (.bool (Lib.hasPrefix s.data.toList p.data.toList))∧w'=w:=Any.strings_HasPrefix Tryz.lays99 s p w
end Go.Proofs
