import Derived.BigCall
import Derived.BigGuard
import Derived.BigGuardPart
import Derived.Ground.MnProg
import Derived.Lib.AppendIntMem
import Derived.Lib.BufSteps
import Derived.Lib.ItoaMem
import Derived.Lib.OwnBridge
import Derived.LoopTactic
import Derived.RegionCalls
import Derived.Shelf.Bin.LEPutUint16
import Derived.Shelf.Bin.LEPutUint32
import Derived.Shelf.Bin.LEPutUint64
import Derived.Shelf.Bits.Mul64
import Derived.Shelf.Bytes.BufferK
import Derived.Shelf.Bytes.Bytes
import Derived.Shelf.Bytes.GrowKept
import Derived.Shelf.Bytes.GrowNilKept
import Derived.Shelf.Bytes.GrowNilOwn
import Derived.Shelf.Bytes.GrowOwn
import Derived.Shelf.Bytes.GrowRow0Kept
import Derived.Shelf.Bytes.GrowRow0Own
import Derived.Shelf.Bytes.GrowRowKept
import Derived.Shelf.Bytes.GrowRowOwn
import Derived.Shelf.Bytes.GrowSlice
import Derived.Shelf.Bytes.GrowSliceCatch
import Derived.Shelf.Bytes.Len
import Derived.Shelf.Bytes.ResetKept
import Derived.Shelf.Bytes.String
import Derived.Shelf.Bytes.TryGrow
import Derived.Shelf.Bytes.WriteAny
import Derived.Shelf.Bytes.WriteByteKept
import Derived.Shelf.Bytes.WriteKept
import Derived.Shelf.Bytes.WriteStringKept
import Derived.Shelf.LaysM
import Derived.Shelf.Slices.In.SortNone
import Derived.Shelf.Slices.In.SortNone2
import Derived.Shelf.Small.Bits
import Derived.Shelf.Small.Strs
import Derived.Shelf.Small.Utf8
import Derived.Shelf.Small.Wraps
import Derived.Shelf.Sort.Plain
import Derived.Shelf.Strconv.Bsearch
import Derived.Shelf.Strconv.Escaped
import Derived.Shelf.Strconv.IsPrint
import Derived.Shelf.Strconv.IsPrint16
import Derived.Shelf.Strconv.IsPrint32
import Derived.Shelf.Strconv.Itoa0
import Derived.Shelf.Strconv.Itoa1
import Derived.Shelf.Strconv.Itoa2
import Derived.Shelf.Strconv.Itoa3
import Derived.Shelf.Strconv.Itoa4
import Derived.Shelf.Strconv.Quote
import Derived.Shelf.Strconv.Quoted
import Derived.Shelf.Strings.Search1
import Derived.Shelf.Unicode.Decode
import Derived.Shelf.Unicode.DecodeAny
import Derived.Shelf.Unicode.DecodeSlow
import Derived.Shelf.Unicode.ValidAny
import Derived.Shelf.Utf8.AppendRune
import Derived.Sort.WalkA
import Derived.Test.YtllcccekodcdmaaGreatDoorC06
import Derived.Test.YtllcccekodcdmaaGreatDoorC10
set_option linter.unusedVariables false
set_option linter.unusedSimpArgs false
set_option maxRecDepth 100000
set_option maxHeartbeats 32000000
open Go.Proofs.Tryz
namespace Go.Proofs
open Go.Shelf Go.RowKit
section
theorem afQ:Go.Proofs.Lays.n137 prog ⟨fun|137=>212|217=>237|266=>242|n=>n,fun|9=>9|5=>5|3=>3|n=>n,fun|n=>n⟩:=H7
theorem strings_IndexByte (s:bG) (c:Int) (w:World) :
 Calls prog 212 #[.string s,.int .u8 c] w fun e w'=>e=.returned (.int .i64 (Lib.indexByte s.data.toList c.toNat.toUInt8))∧w'=w:=Any.strings_IndexByte afQ s c w
theorem afV:Go.Proofs.Lays.n339 prog ⟨fun|339=>193|345=>233|346=>234|n=>n,fun|21=>21|4=>4|49=>84|234=>305|131=>182|3=>3|0=>0|51=>22|236=>307|46=>211|n=>n,fun|20=>13|21=>14|22=>15|23=>16|n=>n⟩:=H7
theorem afR:Go.Proofs.Lays.n177 prog ⟨fun|177=>76|250=>112|289=>133|197=>155|323=>156|260=>192|339=>193|340=>194|242=>195|119=>196|345=>233|346=>234|278=>235|n=>n,fun|9=>9|5=>5|4=>4|3=>3|37=>65|21=>21|105=>234|46=>211|119=>258|0=>0|139=>261|138=>260|49=>84|234=>305|131=>182|51=>22|236=>307|n=>n,fun|3=>8|4=>9|20=>13|21=>14|22=>15|23=>16|24=>17|n=>n⟩:=H7
theorem strconv_Quote (T:Lib.PrintTabs) (s:bG) (w:World) (hlen:10*s.size+12≤140737488355328) (hT:Lib.PrintTabsAt 13 14 15 16 T w) (hU:Lib.Utf8Tabs 8 9 w) :
 fC 76 #[.string s] w (.string (strOfNums (Lib.quoteZ T s))):=Any.strconv_Quote afR (by kernel_rfl) T s w hlen hT hU
theorem afP:Go.Proofs.Lays.n129 prog ⟨fun|129=>146|n=>n,fun|53=>30|3=>3|4=>4|46=>211|5=>5|9=>9|n=>n,fun|n=>n⟩:=H7
theorem bits_Len64 (x:Int) (w:World) (h0:0≤x) (h1:x≤18446744073709551615) :
 Calls prog 146 #[.int .u64 x] w fun e w'=>e=.returned (.int .i64 (Lib.bitLen x.toNat))∧w'=w:=Any.bits_Len64 afP x w h0 h1
theorem afT:Go.Proofs.Lays.n283 prog ⟨fun|283=>118|n=>n,fun|3=>3|9=>9|4=>4|n=>n,fun|n=>n⟩:=H7
open Go.Lib in
theorem internal_strconv_small (i:Nat) (h:i<100) (w:World) :
 Calls prog 118 #[.int .i64 i] w fun e w'=>e=.returned (.string ⟨(Lib.decDigits i).toArray⟩)∧w'=w:=Any.internal_strconv_small afT i h w
theorem acf:Go.Proofs.LaysM.n284 prog ⟨fun|284=>119|129=>146|317=>145|318=>147|n=>n,fun|53=>30|3=>3|212=>226|0=>0|4=>4|46=>211|5=>5|9=>9|n=>n,fun|17=>6|n=>n⟩:=H7
open Go.Lib in
theorem internal_strconv_numDigits (u:Nat) (h1:1≤u) (h2:u<18446744073709551616) (w:World) (htab:Lib.TabIs prog w "internal/strconv.uint64pow10" .u64 Lib.pow10Tab) :
 Calls prog 119 #[.int .u64 u] w fun e w'=>e=.returned (.int .i64 (Lib.nDigits u))∧w'=w:=Any.internal_strconv_numDigits acf u h1 h2 w htab
theorem afU:Go.Proofs.Lays.n285 prog ⟨fun|285=>120|n=>n,fun|37=>65|53=>30|3=>3|4=>4|51=>22|9=>9|5=>5|0=>0|n=>n,fun|n=>n⟩:=H7
open Go.RowKit Go.Sort Go.Lib in
theorem internal_strconv_formatBase10 (kE off cap:Nat) (u:Nat) (d:Array UInt8) (w:World) (hH:Holds (fun (b:UInt8)=>Value.int .u8 (b.toNat:Int)) w kE off d) (hu:u<10^d.size) (hu64:u<18446744073709551616) (hsz:d.size<4611686018427387904) :
 Calls prog 120 #[.slice (some ⟨kE,off,none⟩) d.size cap,.int .u64 u] w fun e w' =>
  e=.returned (.tuple #[])∧∃(n v':Nat) (dk:Array UInt8),w'=(putRow (fun (b:UInt8)=>Value.int .u8 (b.toNat:Int)) w kE off dk).drewN n∧FmtInv d.size u 0 v' dk:=Any.internal_strconv_formatBase10 afU kE off cap u d w hH hu hu64 hsz
theorem ab5:Go.Proofs.LaysM.n173 prog ⟨fun|173=>109|246=>132|283=>118|284=>119|285=>120|286=>121|129=>146|317=>145|318=>147|319=>148|320=>149|337=>177|338=>178|n=>n,fun|2=>2|3=>3|9=>9|4=>4|171=>192|0=>0|53=>30|37=>65|5=>5|173=>195|212=>226|51=>22|20=>20|213=>227|46=>211|232=>266|233=>291|n=>n,fun|17=>6|18=>11|19=>12|n=>n⟩:=H7
open Go.RowKit Go.Sort Go.Lib in
theorem strconv_FormatInt_10 (n:Int) (h0:-9223372036854775808≤n) (h1:n≤9223372036854775807) (w:World) (htab:Lib.TabIs prog w "internal/strconv.uint64pow10" .u64 Lib.pow10Tab) :
 Calls prog 109 #[.int .i64 n,.int .i64 10] w fun e w'=>e=.returned (.string ⟨(Lib.itoa n).toArray⟩)∧∃k os,w'=grow (w.drewN k) os:=Any.strconv_FormatInt_10 ab5 n h0 h1 w htab
theorem ab8:Go.Proofs.LaysM.n181 prog ⟨fun|181=>134|n=>n,fun|130=>142|3=>3|0=>0|93=>151|37=>65|91=>149|5=>5|n=>n,fun|n=>n⟩:=H7
theorem Tryz.Buffer_Len (B b:Nat) (bs:List Value) (w:World) (h:Lib.IsBuffer 151 5 B b bs w) :
 Calls prog 134 #[.pointer (some ⟨b,0,none⟩)] w fun e w'=>e=.returned (.int .i64 bs.length)∧∃n,w'=w.drewN n:=Any.Buffer_Len ab8 B b bs w h
theorem Pz:Go.Proofs.LaysM.n251 prog ⟨fun|251=>114|n=>n,fun|130=>142|3=>3|4=>4|0=>0|93=>151|37=>65|91=>149|5=>5|n=>n,fun|n=>n⟩:=H7
theorem Tryz.Buffer_tryGrow_room (b:Nat) (ao:Option Addr) (l cap n:Nat) (w:World) (c0:w.cell? ⟨b,0,none⟩=some (.slice ao l cap)) (f0:w.frozen? ⟨b,0,none⟩=false) (hlc:l≤cap) (hcap:cap≤maxLen) (hn:n≤cap-l) :
 Calls prog 114 #[.pointer (some ⟨b,0,none⟩),.int .i64 n] w fun e w'=>e=.returned (.tuple #[.int .i64 l,.bool true])∧w'=w.setCell ⟨b,0,none⟩ (.slice ao (l+n) cap):=Any.Buffer_tryGrow_room Pz b ao l cap n w c0 f0 hlc hcap hn
theorem Tryz.Buffer_tryGrow_none (b:Nat) (ao:Option Addr) (l cap n:Nat) (w:World) (c0:w.cell? ⟨b,0,none⟩=some (.slice ao l cap)) (hlc:l≤cap) (hcap:cap≤maxLen) (hn:cap-l<n) :
 Calls prog 114 #[.pointer (some ⟨b,0,none⟩),.int .i64 n] w fun e w'=>e=.returned (.tuple #[.int .i64 0,.bool false])∧w'=w:=Any.Buffer_tryGrow_none Pz b ao l cap n w c0 hlc hcap hn
theorem acg:Go.Proofs.LaysM.n324 prog ⟨fun|324=>157|n=>n,fun|20=>20|4=>4|75=>48|0=>0|80=>73|9=>9|n=>n,fun|14=>4|n=>n⟩:=H7
theorem growSlice_catch_idle (w:World) :
 CallsD prog 157 #[] .returning w fun e u' w'=>e=.returned (.tuple #[])∧u'=.returning∧w'=w:=Any.growSlice_catch_idle acg w
theorem uI:Go.Proofs.LaysM.n290 prog ⟨fun|290=>135|324=>157|n=>n,fun|37=>65|3=>3|0=>0|4=>4|20=>20|75=>48|5=>5|80=>73|9=>9|n=>n,fun|14=>4|n=>n⟩:=H7
theorem bytes_growSlice_row (g l c n:Nat) (cur:Array Value) (w:World) (hg:w.heap[g]?=some (.cells cur 5 (0,0))) (hcs:cur.size=c) (hlc:l≤c) (hn:1≤n) (hlim:l+n≤140737488355328) (hc2:c≤140737488355328) (h1:∀v∈cur.toList.take l,v.oneCell'=true) :
 Calls prog 135 #[.slice (some ⟨g,0,none⟩) l c,.int .i64 n] w fun e w'=>∃cap2 cells,e=.returned (.slice (some ⟨w.heap.size,0,none⟩) l cap2)∧w'.heap[w.heap.size]?=some (.cells cells 5 (0,0)) ∧
  cells.size=cap2∧cells.toList.take l=cur.toList.take l∧l+n≤cap2∧cap2≤maxLen∧Below w.heap.size w w':=Any.bytes_growSlice_row uI g l c n cur w hg hcs hlc hn hlim hc2 h1
theorem bytes_growSlice_nil (n:Nat) (w:World) (hn:1≤n) (hlim:n≤140737488355328) :
 Calls prog 135 #[.slice none 0 0,.int .i64 n] w fun e w'=>∃cap2 cells,e=.returned (.slice (some ⟨w.heap.size,0,none⟩) 0 cap2)∧w'.heap[w.heap.size]?=some (.cells cells 5 (0,0)) ∧
  cells.size=cap2∧n≤cap2∧cap2≤maxLen∧Below w.heap.size w w':=Any.bytes_growSlice_nil uI n w hn hlim
theorem ab9:Go.Proofs.LaysM.n182 prog ⟨fun|182=>83|n=>n,fun|130=>142|9=>9|4=>4|0=>0|93=>151|37=>65|3=>3|91=>149|5=>5|n=>n,fun|n=>n⟩:=H7
theorem Tryz.Buffer_String (B b:Nat) (l:List UInt8) (w:World) (h:Lib.IsBuffer 151 5 B b (Lib.byteCells l) w) :
 Calls prog 83 #[.pointer (some ⟨b,0,none⟩)] w fun e w'=>e=.returned (.string ⟨l.toArray⟩)∧∃n,w'=w.drewN n:=Any.Buffer_String ab9 B b l w h
theorem acd:Go.Proofs.LaysM.n183 prog ⟨fun|183=>142|n=>n,fun|130=>142|37=>65|0=>0|93=>151|3=>3|5=>5|91=>149|n=>n,fun|n=>n⟩:=H7
theorem Tryz.Buffer_Bytes (B b:Nat) (bs:List Value) (w:World) (h:Lib.IsBuffer 151 5 B b bs w) :
 Calls prog 142 #[.pointer (some ⟨b,0,none⟩)] w fun e w'=>∃v,e=.returned v∧w'.ownsRow B 5 1 v bs.length bs∧∃n,w'=w.drewN n:=Any.Buffer_Bytes acd B b bs w h
theorem YC:Go.Proofs.LaysBin.n28 prog ⟨fun|28=>264|n=>n,fun|25=>160|22=>65|23=>84|0=>0|5=>5|45=>211|n=>n,fun|n=>n⟩:=H7
theorem binary_LE_PutUint16 (g o n c v:Nat) (hv:v<65536) (x0 x1:Value) (w:World) (hn:2≤n) (c0:w.cell? ⟨g,o,none⟩=some x0) (c1:w.cell? ⟨g,o+1,none⟩=some x1) (f0:w.frozen? ⟨g,o,none⟩=false) (f1:w.frozen? ⟨g,o+1,none⟩=false) :
 Calls prog 264 #[.agg #[],.slice (some ⟨g,o,none⟩) n c,.int .u16 v] w fun e w'=>e=.returned (.tuple #[])∧w'=(w.alloc (.cells #[] 160)).setCells g o (Lib.byteCells (Lib.leBytes 2 v)):=Any.binary_LE_PutUint16 YC g o n c v hv x0 x1 w hn c0 c1 f0 f1
theorem YD:Go.Proofs.LaysBin.n31 prog ⟨fun|31=>265|n=>n,fun|25=>160|22=>65|29=>22|0=>0|5=>5|45=>211|n=>n,fun|n=>n⟩:=H7
theorem binary_LE_PutUint32 (g o n c v:Nat) (hv:v<4294967296) (x0 x1 x2 x3:Value) (w:World) (hn:4≤n) (c0:w.cell? ⟨g,o,none⟩=some x0) (c1:w.cell? ⟨g,o+1,none⟩=some x1) (c2:w.cell? ⟨g,o+2,none⟩=some x2) (c3:w.cell? ⟨g,o+3,none⟩=some x3) (f0:w.frozen? ⟨g,o,none⟩=false) (f1:w.frozen? ⟨g,o+1,none⟩=false) (f2:w.frozen? ⟨g,o+2,none⟩=false) (f3:w.frozen? ⟨g,o+3,none⟩=false) :
 Calls prog 265 #[.agg #[],.slice (some ⟨g,o,none⟩) n c,.int .u32 v] w fun e w'=>e=.returned (.tuple #[])∧w'=(w.alloc (.cells #[] 160)).setCells g o (Lib.byteCells (Lib.leBytes 4 v)):=Any.binary_LE_PutUint32 YD g o n c v hv x0 x1 x2 x3 w hn c0 c1 c2 c3 f0 f1 f2 f3
theorem YE:Go.Proofs.LaysBin.n34 prog ⟨fun|34=>266|n=>n,fun|25=>160|22=>65|33=>30|0=>0|5=>5|45=>211|n=>n,fun|n=>n⟩:=H7
theorem binary_LE_PutUint64 (g o n c v:Nat) (hv:v<18446744073709551616) (x0 x1 x2 x3 x4 x5 x6 x7:Value) (w:World) (hn:8≤n) (c0:w.cell? ⟨g,o,none⟩=some x0) (c1:w.cell? ⟨g,o+1,none⟩=some x1) (c2:w.cell? ⟨g,o+2,none⟩=some x2) (c3:w.cell? ⟨g,o+3,none⟩=some x3) (c4:w.cell? ⟨g,o+4,none⟩=some x4) (c5:w.cell? ⟨g,o+5,none⟩=some x5) (c6:w.cell? ⟨g,o+6,none⟩=some x6) (c7:w.cell? ⟨g,o+7,none⟩=some x7) (f0:w.frozen? ⟨g,o,none⟩=false) (f1:w.frozen? ⟨g,o+1,none⟩=false) (f2:w.frozen? ⟨g,o+2,none⟩=false) (f3:w.frozen? ⟨g,o+3,none⟩=false) (f4:w.frozen? ⟨g,o+4,none⟩=false) (f5:w.frozen? ⟨g,o+5,none⟩=false) (f6:w.frozen? ⟨g,o+6,none⟩=false) (f7:w.frozen? ⟨g,o+7,none⟩=false) :
 Calls prog 266 #[.agg #[],.slice (some ⟨g,o,none⟩) n c,.int .u64 v] w fun e w'=>e=.returned (.tuple #[])∧w'=(w.alloc (.cells #[] 160)).setCells g o (Lib.byteCells (Lib.leBytes 8 v)):=Any.binary_LE_PutUint64 YE g o n c v hv x0 x1 x2 x3 x4 x5 x6 x7 w hn c0 c1 c2 c3 c4 c5 c6 c7 f0 f1 f2 f3 f4 f5 f6 f7
theorem ab7:Go.Proofs.LaysM.n179 prog ⟨fun|179=>82|251=>114|252=>115|181=>134|184=>85|290=>135|324=>157|n=>n,fun|130=>142|5=>5|75=>48|0=>0|93=>151|91=>149|3=>3|131=>182|4=>4|37=>65|20=>20|80=>73|9=>9|n=>n,fun|14=>4|n=>n⟩:=H7
theorem ab6:Go.Proofs.LaysM.n178 prog ⟨fun|178=>81|251=>114|252=>115|181=>134|184=>85|290=>135|324=>157|n=>n,fun|130=>142|9=>9|3=>3|75=>48|0=>0|93=>151|91=>149|131=>182|4=>4|37=>65|20=>20|80=>73|5=>5|n=>n,fun|14=>4|n=>n⟩:=H7
theorem afS:Go.Proofs.Lays.n192 prog ⟨fun|192=>87|190=>116|125=>137|258=>136|128=>167|129=>146|302=>158|303=>159|304=>160|305=>161|306=>162|307=>163|308=>164|309=>165|310=>166|333=>197|329=>198|330=>199|334=>200|335=>201|336=>202|344=>236|n=>n,fun|31=>119|0=>0|9=>9|3=>3|46=>211|51=>22|53=>30|4=>4|183=>239|182=>238|131=>182|5=>5|218=>279|222=>115|228=>309|229=>269|n=>n,fun|n=>n⟩:=H7
open Go.Sort Go.RowKit in
theorem sort_Strings (kE off cap:Nat) (ss:List (List UInt8)) (w:World) (hH:Holds encStr w kE off ss.toArray) (hblk:kE<w.heap.size) (hsz:ss.length<4611686018427387904) :
 Calls prog 87 #[.slice (some ⟨kE,off,none⟩) ss.length cap] w fun e w' =>
  e=.returned (.tuple #[])∧∃n os,w'=grow (putRow encStr (Sort.ahead w n) kE off (ss.mergeSort fun x y=>decide (x≤y)).toArray) os:=Any.sort_Strings afS kE off cap ss w hH hblk hsz
theorem ace:Go.Proofs.LaysM.n184 prog ⟨fun|184=>85|n=>n,fun|130=>142|0=>0|93=>151|37=>65|3=>3|91=>149|5=>5|n=>n,fun|n=>n⟩:=H7
theorem Tryz.Buffer_WriteByte_k (B b:Nat) (bs:List Value) (c:Int) (w:World) (h:Lib.IsBuffer 151 5 B b bs w) (hBw:B≤w.heap.size) (h1:∀v∈bs,v.oneCell'=true) (hlim:bs.length+1≤140737488355328) :
 Calls prog 82 #[.pointer (some ⟨b,0,none⟩),.int .u8 c] w fun e w'=>e=.returned .nilIface∧Lib.IsBuffer 151 5 B b (bs++[.int .u8 c]) w'∧Below B w w'∧Lib.OthersKept 5 (some b) w w':=Any.Buffer_WriteByte_k ab7 B b bs c w h hBw h1 hlim
theorem Tryz.Buffer_WriteString_k (B b:Nat) (bs:List Value) (s:bG) (w:World) (h:Lib.IsBuffer 151 5 B b bs w) (hBw:B≤w.heap.size) (h1:∀v∈bs,v.oneCell'=true) (hlim:bs.length+s.size≤140737488355328) :
 Calls prog 81 #[.pointer (some ⟨b,0,none⟩),.string s] w fun e w'=>e=.returned (.tuple #[.int .i64 s.size,.nilIface])∧Lib.IsBuffer 151 5 B b (bs++Lib.byteCells s.data.toList) w'∧Below B w w'∧Lib.OthersKept 5 (some b) w w':=Any.Buffer_WriteString_k ab6 B b bs s w h hBw h1 hlim
theorem Tryz.Buffer_Reset_k (B b:Nat) (bs:List Value) (w:World) (h:Lib.IsBuffer 151 5 B b bs w) :
 Calls prog 85 #[.pointer (some ⟨b,0,none⟩)] w fun e w'=>e=.returned (.tuple #[])∧Lib.IsBuffer 151 5 B b [] w'∧Below B w w'∧Lib.OthersKept 5 (some b) w w':=Any.Buffer_Reset_k ace B b bs w h
theorem Py:Go.Proofs.Lays.n196 prog ⟨fun|196=>150|259=>179|n=>n,fun|9=>9|4=>4|3=>3|5=>5|12=>12|119=>258|0=>0|46=>211|139=>261|138=>260|53=>30|n=>n,fun|3=>8|4=>9|n=>n⟩:=H7
open Go.RowKit Go.Lib in
theorem utf8_ValidString (s:bG) (w:World) (hs:s.size≤9223372036854775807) (hT:Lib.Utf8Tabs 8 9 w) :
 fC 150 #[.string s] w (.bool (Lib.validD s.data.toList)):=Any.utf8_ValidString Py s w hs hT
end
end Go.Proofs
namespace Go.Proofs.YtllcccekodcdmaaGreatDoor.Fl
open Go Go.RowKit Go.Sort Go.Lib Go.Proofs.YtllcccekodcdmaaGreatDoor.Ms Go.Proofs.ak.aT
def aaH (u n j:Nat):Value:=.int .u8 ((dg u (n-1-j)).toNat:Int)
theorem ag7 (B kE n cap u:Nat) (w:World) (hB:B≤kE) (hz:∀j,j<n→w.cell? ⟨kE,j,none⟩=some (.int .u8 0)∧w.frozen? ⟨kE,j,none⟩=false) (hu:u<10^n) (hu64:u<18446744073709551616) (hn:n≤1000) :
  Calls prog 120 #[.slice (some ⟨kE,0,none⟩) n cap,.int .u64 u] w fun e w'=>e=.returned (.tuple #[]) ∧
   (∀j,j<n→w'.cell? ⟨kE,j,none⟩=some (aaH u n j))∧(∀a:Addr,a.block≠kE∨n≤a.off→w'.cell? a=w.cell? a)∧(∀a,w'.frozen? a=w.frozen? a)∧Below B w w'∧∀cs T fr,w.heap[kE]?=some (.cells cs T fr)→∃cs',w'.heap[kE]?=some (.cells cs' T fr):=by
 have hH:Holds (fun (b:UInt8)=>Value.int .u8 (b.toNat:Int)) w kE 0 (Array.replicate n (0:UInt8)):=fun j hj=>by
  have hj':j<n:=by simpa using hj
  rw[Nat.zero_add]
  refine⟨?_,(hz j hj').2⟩
  rw[(hz j hj').1,getElem!_pos _ j hj]
  simp
 have h:=internal_strconv_formatBase10 kE 0 cap u (Array.replicate n 0) w hH (by rw[Array.size_replicate];exact hu) hu64 (by rw[Array.size_replicate];omega)
 rw[Array.size_replicate]at h
 refine h.mono ?_
 rintro e w' ⟨rfl,q,v',dk,rfl,hF⟩
 refine⟨rfl,fun j hj=>?_,fun a ha=>?_,fun a=>?_,?_,fun cs T fr hcs=>?_⟩
 ·have:=cell?_putRow (fun (b:UInt8)=>Value.int .u8 (b.toNat:Int)) w kE 0 _ dk hH (by rw[hF.size,Array.size_replicate]) j (by rw[hF.size];exact hj)
  rw[Nat.zero_add]at this
  rw[World.cell?_drewN,this,hF.done j (jf _) hj]
  rfl
 ·rw[World.cell?_drewN]
  refine cell?_putRow_other _ _ _ _ _ _ ?_
  rcases ha with h|h
  ·exact Or.inl h
  ·exact Or.inr (Or.inr (by rw[hF.size];omega))
 ·rw[World.frozen?_drewN,frozen?_putRow]
 ·refine fJ ?_ _
  exact below_putRow (q:=0) jc hB
 ·exact⟨_,by rw[World.heap_drewN];simp only[putRow,mapBlock,Array.getElem?_modify,if_true,hcs,Option.map_some,onCells];rfl⟩
theorem Qd {w w':World} {name:String} {k:IntKind} {zs:List Int} (h:TabIs prog w name k zs) (hb:Below w.heap.size w w'):TabIs prog w' name k zs :=
 tabBelow_of_tabIs h w' hb
def Ui (u:Nat):bG:=⟨(decDigits u).toArray⟩
theorem ai8 (u:Nat) (hu1:1≤u) (hu64:u<18446744073709551616):nDigits u≤20:=by have:=numDigits_eq u hu1 hu64;split at this<;>omega
theorem akT:prog.arrayLen 192=24:=by kernel_rfl
theorem amx (u:Nat) (h:nDigits u≤20) (W:World) (g:Nat):(Instr.sliceAt 192 (.pointer (some ⟨g,0,none⟩)) none (some (.int .i64 (nDigits u:Int))) none).run prog W=.ok (.slice (some ⟨g,0,none⟩) (nDigits u) 24) W:=by
 rw[run_sliceAt_array_h W 192 ⟨g,0,none⟩ (by kernel_rfl) .i64 (nDigits u:Int) (by omega) (by rw[akT];omega)]
 go_simp
theorem abn (u:Nat) (hs:u<100) (w:World) :
  fC 91 #[.int .u64 u,.int .i64 10] w (.string (Ui u)):=by
 go_enter func91,ntmps91
 go_wp2_with (go_at_call 118;refine gU (internal_strconv_small u hs _) ?_)
 go_ret
 exact⟨rfl,jc⟩
theorem abm (u:Nat) (hs:100≤u) (hu64:u<18446744073709551616) (w:World) (htab:TabIs prog w "internal/strconv.uint64pow10" .u64 pow10Tab) :
  fC 91 #[.int .u64 u,.int .i64 10] w (.string (Ui u)):=by
 have hd2:decide (u<100)=false:=by simp;omega
 have hn:=ai8 u (by omega) hu64
 have SL:=amx u hn
 have FM:=ah (ag7 w.heap.size w.heap.size (nDigits u) 24 u (w.alloc (.cells zeros24 192)) bW (fun j hj=>⟨by rw[World.cell?_alloc_new];exact zeros24_at j (by omega),World.frozen?_alloc_new _ _ _ _⟩) (lt_pow_nDigits u) hu64 (by omega))
 have ND:=ah (internal_strconv_numDigits u (by omega) hu64 _ (tabIs_alloc htab (.cells zeros24 192)))
 have hnl:=decDigits_length u
 have hne:=decDigits_eq u
 have HN:=ah (And.intro hnl hne)
 generalize nDigits u=n at *
 go_enter func91,ntmps91
 go_wp2_with (first
  |(go_at_call 119;refine ND.o.mono ?_;rintro e w' ⟨rfl,rfl⟩)
  |(go_at_call 120;refine FM.o.mono ?_;rintro e w1 ⟨rfl,hc1,-,-,hb1,-⟩;have HB1:=aj.mk hb1;clear hb1;have HC:=ah hc1;clear hc1;refine Hid.o ?_))
 refine ah ?_
 have hcv:(convert 65 9 (.slice (some ⟨w.heap.size,0,none⟩) n 24)).run prog w1=.ok (.string (Ui u)) w1:=by
  have h:=run_convert_bytes_back (P:=prog) w1 65 9 5 ⟨w.heap.size,0,none⟩ 24 (decDigits u) underlying65 underlying5 underlying9 (fun j hj=>by
   have hj':j<n:=by rw[HN.o.1]at hj;exact hj
   rw[Lib.add_plain,Nat.zero_add,HC.o j hj']
   simp only[aaH,HN.o.2,List.getElem_map,List.getElem_range])
  rw[HN.o.1]at h
  exact h
 go_wp2
 go_ret
 exact⟨rfl,(gG _).trans HB1.o⟩
theorem KN (u:Nat) (hu64:u<18446744073709551616) (w:World) (htab:TabIs prog w "internal/strconv.uint64pow10" .u64 pow10Tab) :
  fC 58 #[.int .u64 u,.int .i64 10] w (.string (Ui u)):=by
 have H:fC 91 #[.int .u64 u,.int .i64 10] w (.string (Ui u)):=by
  by_cases hs:u<100
  ·exact abn u hs w
  ·exact abm u (by omega) hu64 w htab
 have H:=ah H
 go_enter func58,ntmps58
 go_wp2_with (go_at_call 91;refine H.o.mono ?_;rintro e w1 ⟨rfl,hb⟩;have HB:=aj.mk hb;clear hb)
 go_ret
 exact⟨rfl,HB.o⟩
theorem TD (w:World) (htab:TabIs prog w "internal/strconv.uint64pow10" .u64 pow10Tab) :
  uQ 119 #[.int .u64 0] w (.int .i64 0):=by
 have hcell:w.cell? ⟨6,0,none⟩=some (.int .u64 1):=by
  have:=htab.cell (by kernel_rfl:prog.globalNamed "internal/strconv.uint64pow10"=some 6) 0 (by rw[pow10Tab_length];omega)
  rw[pow10Tab_at _ (by omega)]at this
  simpa using this
 have l0:log10 0=0:=by unfold log10 wrap64;omega
 have L64:∀w,uQ 146 #[.int .u64 0] w (.int .i64 0):=fun w =>
  (bits_Len64 0 w (by omega) (by omega)).mono (by rintro e w' ⟨rfl,rfl⟩;exact⟨rfl,rfl⟩)
 have T10:∀w,uQ 145 #[.int .i64 0] w (.int .i64 0):=fun w=>by have:=uK 0 w;rwa [l0]at this
 have L64:=ah L64
 have T10:=ah T10
 have B0:∀w,uQ 147 #[.bool false] w (.int .i64 0):=fun w=>aeg false w
 have B0:=ah B0
 go_enter func119,ntmps119
 go_wp2_with ((first|(go_at_call 146;refine(L64.o _).mono ?_)|(go_at_call 145;refine(T10.o _).mono ?_)|(go_at_call 147;refine(B0.o _).mono ?_));rintro e w' ⟨rfl,rfl⟩)
 go_ret
 exact⟨rfl,rfl⟩
def nz (u n:Nat):Nat→Nat
 |0=>0
 |k+1=>if(dg u (n-1-k)).toNat=48 then nz u n k else k+1
theorem Xb (u n:Nat):∀k,nz u n k≤k
 |0=>bW
 |k+1=>by
  unfold nz;split
  ·exact Nat.le_succ_of_le (Xb u n k)
  ·exact bW
theorem yO (B g n cap u:Nat) (p:Int) (w:World) (hB:B≤g) (hz:∀j,j<n→w.cell? ⟨g,j,none⟩=some (.int .u8 0)∧w.frozen? ⟨g,j,none⟩=false) (hu:u<10^n) (hu64:u<18446744073709551616) (hn:n≤20) (hcap:32≤cap) (hcap2:cap≤1000) (hp1:-1000≤p) (hp2:p≤1000) :
  Calls prog 186 #[.slice (some ⟨g,0,none⟩) 32 cap,.int .u64 u,.int .i64 p,.int .i64 n] w fun e w'=>e=.returned (.tuple #[.int .i64 (n+p),.int .i64 (nz u n n:Nat)]) ∧
   (∀j,j<n→w'.cell? ⟨g,j,none⟩=some (aaH u n j))∧Below B w w'∧∀cs T fr,w.heap[g]?=some (.cells cs T fr)→∃cs',w'.heap[g]?=some (.cells cs' T fr):=by
 have FM:=ah (ag7 B g n cap u w hB hz hu hu64 (by omega))
 clear hz hu
 have hd1:decide (n≤32)=true:=by simp;omega
 go_enter func186,ntmps186
 go_wp2_with (go_at_call 120;refine FM.o.mono ?_;rintro e w1 ⟨rfl,hc1,-,-,hb1,hk1⟩;have HB1:=aj.mk hb1;clear hb1;have HC:=ah hc1;clear hc1;have HK:=ah hk1;clear hk1)
 go_loop [3] (fun t=>∃k:Nat,k≤n∧t=.int .i64 k∧nz u n k=nz u n n) (fun t=>(intOf t).toNat)
 case atStart=>exact⟨n,bW,rfl,rfl⟩
 case round =>
  obtain⟨k,hk,rfl,hnz⟩:=hrel
  have HZ:=ah hnz
  clear hnz
  cases k with
  |zero =>
   go_wp2
   go_ret2
   exact⟨by rw[←HZ.o];rfl,HC.o,HB1.o,fun cs T a b h=>HK.o cs T (a,b) h⟩
  |succ m =>
   have hcell:w1.cell? ⟨g,m,none⟩=some (.int .u8 ((dg u (n-1-m)).toNat:Int)):=HC.o m (by omega)
   obtain⟨c,hc⟩:∃c:Nat,(dg u (n-1-m)).toNat=c:=⟨_,rfl⟩
   rw[hc]at hcell
   have hm1:((m:Int)+1)-1=m:=by omega
   have hm2:(m:Int)<32:=by omega
   have hm3:(((m+1:Nat):Int))=(m:Int)+1:=by omega
   have HCC:=ah hc
   clear hc
   by_cases h48:c=48
   ·have hb:((c:Int)==48)=true:=by subst h48;rfl
    go_wp2
    go_round
    case rel=>exact⟨m,by omega,by go_num,by rw[←HZ.o];show _=nz u n (m+1);simp only[nz];rw[if_pos (by rw[HCC.o,h48])]⟩
    case measure=>simp[intOf]
   ·have hb:((c:Int)==48)=false:=by simp;omega
    go_wp2
    go_ret2
    refine⟨?_,HC.o,HB1.o,fun cs T a b h=>HK.o cs T (a,b) h⟩
    rw[←HZ.o]
    have:nz u n (m+1)=m+1:=by simp only[nz];rw[if_neg (by rw[HCC.o];exact h48)]
    rw[this]
    rfl
section
structure FB (B g:Nat) (cs:Array Value) (fr:Nat×Nat) (W0:World) (v:Value) (n:Nat) (xs:List Value) (w:World):Prop where
 own:OwnBuf B 5 v n xs W0 w
 kE:w.heap[g]?=some (.cells cs 266 fr)
theorem FB.alloc {B g:Nat} {cs:Array Value} {fr:Nat×Nat} {W0:World} {v:Value} {n:Nat} {xs:List Value} {w:World} (h:FB B g cs fr W0 v n xs w) (o:Obj):FB B g cs fr W0 v n xs (w.alloc o) :=
 ⟨h.own.alloc o,aQ h.kE o⟩
theorem O9:(prog.info? 5).map (fun i=>(i.zero,i.size,i.bytes))=some (some (.int .u8 0),1,1):=by kernel_rfl
section
variable {ops:Array Oper} {rest:List Oper} {o:Oper} {a:Act} {Q:Exit→Act→World→Prop}
theorem F7 (hgd:o.guard=none) (s x:Operand) (ho:o.op=.call {callee:=.builtin .append,args:=#[s,x],argTypes:=#[65,65]})
  (B g:Nat) (cs:Array Value) (fr:Nat×Nat) (W0 w:World) (v:Value) (n:Nat) (xs:List Value) (hb:FB B g cs fr W0 v n xs w) (hs:a.eval s=v)
  (ad:Addr) (m c:Nat) (news:List Value) (hx:a.eval x=.slice (some ad) m c) (hl:news.length=m) (hnews:∀j u,news[j]?=some u→w.cell? (ad.add j)=some u) (h1:∀u∈news,u.oneCell'=true) (hlen:n+m≤1000000)
  (h:∀v' w',FB B g cs fr W0 v' (n+m) (xs++news) w'→wpList prog ops Q rest (a.put o.dst v') w'):wpList prog ops Q (o::rest) a w:=by
 obtain⟨i0,hi,hz0,hz1,hz2⟩:=info_parts O9
 refine wpList_append_ownF (w:=w) hgd s x 65 ho B 5 i0 (.int .u8 0) 1 1 underlying65 hi hz0 hz1 hz2 rfl (by decide) v n xs hs hb.own.1 ad m c news hx (by omega) hnews h1 (by unfold maxLen;omega) (by omega) hb.own.2.2 ?_
 intro v' w' ho' hg _
 have hne:=ownBlock_neF hb.own.1 hb.kE (by decide)
 exact h v' w' ⟨hb.own.grown ho' hg,(hg.block g (lt_of_block hb.kE) (fun e=>hne e.symm)).trans hb.kE⟩
theorem gJ (hgd:o.guard=none) (s x:Operand) (ho:o.op=.call {callee:=.builtin .append,args:=#[s,x],argTypes:=#[65,65]})
  (B g:Nat) (cs:Array Value) (fr:Nat×Nat) (W0 w:World) (v:Value) (n:Nat) (xs:List Value) (c:Int) (hb:FB B g cs fr W0 v n xs w) (hs:a.eval s=v)
  (hx:a.eval x=.slice (some ⟨w.heap.size,0,none⟩) 1 1) (hlen:n+1≤1000000)
  (h:∀v' w',FB B g cs fr W0 v' (n+1) (xs++[.int .u8 c]) w'→wpList prog ops Q rest (a.put o.dst v') w'):wpList prog ops Q (o::rest) a (w.alloc (.cells #[.int .u8 c] 5)):=by
 refine F7 hgd s x ho B g cs fr W0 _ v n xs (hb.alloc _) hs _ 1 1 [.int .u8 c] hx rfl (fun j u hj=>?_) (fun u hu=>?_) hlen h
 ·match j,hj with
  |0,hj=>simp at hj;subst hj;simp[Addr.add]
  |(j+1),hj=>simp at hj
 ·simp at hu;subst hu;rfl
theorem KH (hgd:o.guard=none) (s x:Operand) (ho:o.op=.call {callee:=.builtin .append,args:=#[s,x],argTypes:=#[65,65]})
  (B g:Nat) (cs:Array Value) (fr:Nat×Nat) (W0 w:World) (v:Value) (n:Nat) (xs:List Value) (c d:Int) (hb:FB B g cs fr W0 v n xs w) (hs:a.eval s=v)
  (hx:a.eval x=.slice (some ⟨w.heap.size,0,none⟩) 2 2) (hlen:n+2≤1000000)
  (h:∀v' w',FB B g cs fr W0 v' (n+2) (xs++[.int .u8 c,.int .u8 d]) w'→wpList prog ops Q rest (a.put o.dst v') w'):wpList prog ops Q (o::rest) a (w.alloc (.cells #[.int .u8 c,.int .u8 d] 5)):=by
 refine F7 hgd s x ho B g cs fr W0 _ v n xs (hb.alloc _) hs _ 2 2 [.int .u8 c,.int .u8 d] hx rfl (fun j u hj=>?_) (fun u hu=>?_) hlen h
 ·match j,hj with
  |0,hj=>simp at hj;subst hj;simp[Addr.add]
  |1,hj=>simp at hj;subst hj;simp[Addr.add]
  |(j+2),hj=>simp at hj
 ·simp at hu;rcases hu with rfl|rfl<;>rfl
theorem zV (hgd:o.guard=none) (s x:Operand) (ho:o.op=.call {callee:=.builtin .append,args:=#[s,x],argTypes:=#[65,65]})
  (B g:Nat) (cs:Array Value) (fr:Nat×Nat) (W0 w:World) (v:Value) (n:Nat) (xs:List Value) (c d e:Int) (hb:FB B g cs fr W0 v n xs w) (hs:a.eval s=v)
  (hx:a.eval x=.slice (some ⟨w.heap.size,0,none⟩) 3 3) (hlen:n+3≤1000000)
  (h:∀v' w',FB B g cs fr W0 v' (n+3) (xs++[.int .u8 c,.int .u8 d,.int .u8 e]) w'→wpList prog ops Q rest (a.put o.dst v') w'):wpList prog ops Q (o::rest) a (w.alloc (.cells #[.int .u8 c,.int .u8 d,.int .u8 e] 5)):=by
 refine F7 hgd s x ho B g cs fr W0 _ v n xs (hb.alloc _) hs _ 3 3 [.int .u8 c,.int .u8 d,.int .u8 e] hx rfl (fun j u hj=>?_) (fun u hu=>?_) hlen h
 ·match j,hj with
  |0,hj=>simp at hj;subst hj;simp[Addr.add]
  |1,hj=>simp at hj;subst hj;simp[Addr.add]
  |2,hj=>simp at hj;subst hj;simp[Addr.add]
  |(j+3),hj=>simp at hj
 ·simp at hu;rcases hu with rfl|rfl|rfl<;>rfl
end
def vG (x:Int):List Int :=
 let y:=if x<0 then -x else x
 (if x<0 then 45 else 43)::(if y<10 then[48,y+48]else if y<100 then[y/10+48,y%10+48]else[y/100+48,IntKind.u8.wrap (y/10)%10+48,y%10+48])
def yA (neg:Bool) (ds:Nat→Int) (nd:Nat) (dp:Int):List Int :=
 (if neg then[45]else[])++(if nd=0 then[48]else[ds 0])++(if 2≤nd then 46::((List.range (nd-1)).map fun j=>ds (1+j))else[])++[101]++vG (if nd=0 then 0 else dp-1)
end
theorem KF {B g:Nat} {cs:Array Value} {fr:Nat×Nat} {W0:World} {v:Value} {n n':Nat} {xs ys:List Value} {w:World} (hb:FB B g cs fr W0 v n' ys w) (l:List Int) (h:ys=xs++intCells l) (hn:n'=n+l.length) :
  FB B g cs fr W0 v (n+l.length) (xs++intCells l) w:=by
 subst h;subst hn;exact hb
theorem FB.cell {B g:Nat} {cs:Array Value} {fr:Nat×Nat} {W0:World} {v:Value} {n:Nat} {xs:List Value} {w:World} (hb:FB B g cs fr W0 v n xs w) (j:Nat) {u:Value} (h:cs[j]?=some u):w.cell? ⟨g,j,none⟩=some u :=
 au hb.kE j h
theorem RU (y:Int) (h:5≤y) (h2:y≤1000):vG (-y)=45::(if y<10 then[48,y+48]else if y<100 then[y/10+48,y%10+48]else[y/100+48,y/10%10+48,y%10+48]):=by
 unfold vG
 have e:IntKind.u8.wrap (y/10)=y/10:=by rw[IntKind.wrap_u8];omega
 simp only[show -y<0 by omega,if_true,Int.neg_neg,e]
theorem RV (y:Int) (h:0≤y) (h2:y≤1000):vG y=43::(if y<10 then[48,y+48]else if y<100 then[y/10+48,y%10+48]else[y/100+48,y/10%10+48,y%10+48]):=by
 unfold vG
 have e:IntKind.u8.wrap (y/10)=y/10:=by rw[IntKind.wrap_u8];omega
 simp only[show ¬y<0 by omega,if_false,e]
theorem iL {B g:Nat} {cs:Array Value} {fr:Nat×Nat} {W0:World} {v:Value} {n n':Nat} {xs ys:List Value} {w:World} (hb:FB B g cs fr W0 v n ys w) (h:ys=xs) (hn:n=n'):FB B g cs fr W0 v n' xs w:=by
 subst h;subst hn;exact hb
def Sg (b:Bool) (SG:List Value) (SL:Nat):Prop:=(b=true∧SG=[Value.int .u8 45]∧SL=1)∨(b=false∧SG=[]∧SL=0)
def sgI (b:Bool):List Int:=if b then[45]else[]
def Ex (dp y sc:Int):Prop:=(dp=1-y∧5≤y∧sc=45)∨(dp=y+1∧6≤y∧sc=43)
theorem ahl:sgI true=[45]:=rfl
theorem ahk:sgI false=[]:=rfl
def mag (y:Int):List Int:=if y<10 then[48,y+48]else if y<100 then[y/10+48,y%10+48]else[y/100+48,y/10%10+48,y%10+48]
theorem Ex.oW {dp y sc:Int} (h:Ex dp y sc) (h2:y≤1000):vG (dp-1)=sc::mag y:=by
 rcases h with ⟨rfl,h,rfl⟩|⟨rfl,h,rfl⟩
 ·rw[show (1-y)-1=-y by omega,RU y h h2];rfl
 ·rw[show (y+1)-1=y by omega,RV y (by omega) h2];rfl
theorem e_2 (b:Bool) (SG:List Value) (SL:Nat) (hs:Sg b SG SL) (dp y sc:Int) (hd:Ex dp y sc) (hy2:y≤1000) (B g:Nat) (cs:Array Value) (fr:Nat×Nat) (W0 w:World) (v:Value) (n:Nat) (xs:List Value) (hn:n≤100) (hb:FB B g cs fr W0 v n xs w) (nd:Nat) (h2:2≤nd) (hnd:nd≤20) (ds:Nat→Int) (hds:∀j,j<nd→cs[j]?=some (.int .u8 (ds j))) :
  Calls prog 184 #[v,.bool b,.slice (some ⟨g,0,none⟩) 32 32,.int .i64 dp,.int .i64 nd,.int .i64 nd,.int .u8 103,.bool true] w fun e w'=>∃v',e=.returned v'∧FB B g cs fr W0 v' (n+(yA b ds nd dp).length) (xs++intCells (yA b ds nd dp)) w':=by
 have hE:yA b ds nd dp=sgI b++[ds 0]++(46::((List.range (nd-1)).map fun j=>ds (1+j)))++[101]++sc::mag y:=by
  unfold yA
  rw[if_neg (show ¬nd=0 by omega),if_neg (show ¬nd=0 by omega),if_pos h2,hd.oW hy2]
  cases b<;>rfl
 have HE:=ah hE
 clear hE
 have CC:Hid (∀W v m ys,FB B g cs fr W0 v m ys W→W.cell? ⟨g,0,none⟩=some (.int .u8 (ds 0))):=ah fun W v m ys h=>h.cell 0 (hds 0 (by omega))
 have c0:=CC.o _ _ _ _ hb
 have CM:Hid (∀W v m ys,FB B g cs fr W0 v m ys W→∀j u,((List.range (nd-1)).map fun j=>Value.int .u8 (ds (1+j)))[j]?=some u→W.cell? ((⟨g,1,none⟩:Addr).add j)=some u):=ah fun W v m ys h j u hj=>by
  rw[List.getElem?_map,Option.map_eq_some_iff]at hj
  obtain⟨i,hi,rfl⟩:=hj
  obtain⟨hi1,hi2⟩:=List.getElem?_eq_some_iff.1 hi
  rw[List.getElem_range]at hi2
  subst hi2
  rw[Lib.add_plain]
  have hj2:j<nd-1:=by simpa using hi1
  exact h.cell (1+j) (hds (1+j) (by omega))
 have ones:∀u∈(List.range (nd-1)).map fun j=>Value.int .u8 (ds (1+j)),u.oneCell'=true:=fun u hu=>by
  obtain⟨i,_,rfl⟩:=List.mem_map.1 hu
  rfl
 have hnI:(2:Int)≤nd:=by omega
 have atF:(nd:Int)≤20:=by omega
 have hnd1:decide (1<nd)=true:=by simp;omega
 have hmin:min (nd:Int) ((nd:Int)-1+1)=nd:=by omega
 have hz0:(nd:Int)-1+1-nd=0:=by omega
 clear hds
 rcases hd with ⟨rfl,hy,rfl⟩|⟨rfl,hy,rfl⟩
 all_goals
  have hy0:0≤y:=by omega
  try have hx1:(1-y)-1=-y:=by omega
  try have hxd:decide (-y < -4)=true:=by simp;omega
  try have hxs:decide (-y<0)=true:=by simp;omega
  try have hxd:decide (y < -4)=false:=by simp;omega
  try have hxe:decide (6≤y)=true:=by simp;omega
  try have hxs:decide (y<0)=false:=by simp;omega
  rcases hs with ⟨rfl,yZ,Yn⟩|⟨rfl,yZ,Yn⟩
 all_goals
  go_enter func184,ntmps184
  go_big_wp2_with (at_builtin;first
   |(refine gJ rfl _ _ rfl B g cs fr W0 _ _ _ _ _ (by assumption) rfl rfl (by omega) ?_;intro _ _ hb;have cc:=CC.o _ _ _ _ hb)
   |(refine KH rfl _ _ rfl B g cs fr W0 _ _ _ _ _ _ (by assumption) rfl rfl (by omega) ?_;intro _ _ hb)
   |(refine zV rfl _ _ rfl B g cs fr W0 _ _ _ _ _ _ _ (by assumption) rfl rfl (by omega) ?_;intro _ _ hb)
   |(refine F7 rfl _ _ rfl B g cs fr W0 _ _ _ _ (by assumption) rfl ⟨g,1,none⟩ (nd-1) _ ((List.range (nd-1)).map fun j=>Value.int .u8 (ds (1+j))) rfl (by simp) (CM.o _ _ _ _ (by assumption)) ones (by omega) ?_;intro _ _ hb))
  go_loopw [0,114] (fun u t wr=>FB B g cs fr W0 u (n+SL+1+1+(nd-1)) (xs++SG++[Value.int .u8 (ds 0)]++[Value.int .u8 46]++List.map (fun j=>Value.int .u8 (ds (1+j))) (List.range (nd-1))) wr∧t=.int .i64 0) (fun _ _ _=>0)
  case atStart=>exact⟨iL (by assumption) (by simp[yZ]) (by omega),rfl⟩
  case round =>
   obtain⟨hb,rfl⟩:=hrel
   go_big_wp2_with (at_builtin;first
   |(refine gJ rfl _ _ rfl B g cs fr W0 _ _ _ _ _ (by assumption) rfl rfl (by omega) ?_;intro _ _ hb;have cc:=CC.o _ _ _ _ hb)
   |(refine KH rfl _ _ rfl B g cs fr W0 _ _ _ _ _ _ (by assumption) rfl rfl (by omega) ?_;intro _ _ hb)
   |(refine zV rfl _ _ rfl B g cs fr W0 _ _ _ _ _ _ _ (by assumption) rfl rfl (by omega) ?_;intro _ _ hb)
   |(refine F7 rfl _ _ rfl B g cs fr W0 _ _ _ _ (by assumption) rfl ⟨g,1,none⟩ (nd-1) _ ((List.range (nd-1)).map fun j=>Value.int .u8 (ds (1+j))) rfl (by simp) (CM.o _ _ _ _ (by assumption)) ones (by omega) ?_;intro _ _ hb))
   all_goals (
    go_ret
    refine⟨_,rfl,KF (by assumption) _ ?_ ?_⟩
    ·rw[HE.o]
     simp[intCells,sgI,mag,yZ]
     split<;>first|rfl|(exfalso;omega)|(split<;>first|rfl|(exfalso;omega))
    ·rw[HE.o];simp only[ahl,ahk,mag]
     split<;>first|((simp<;>omega);done)|(exfalso;omega)|(split<;>first|((simp<;>omega);done)|(exfalso;omega)))
theorem e_1 (b:Bool) (SG:List Value) (SL:Nat) (hs:Sg b SG SL) (dp y sc:Int) (hd:Ex dp y sc) (hy2:y≤1000) (B g:Nat) (cs:Array Value) (fr:Nat×Nat) (W0 w:World) (v:Value) (n:Nat) (xs:List Value) (hn:n≤100) (hb:FB B g cs fr W0 v n xs w) (ds:Nat→Int) (hds:∀j,j<1→cs[j]?=some (.int .u8 (ds j))) :
  Calls prog 184 #[v,.bool b,.slice (some ⟨g,0,none⟩) 32 32,.int .i64 dp,.int .i64 1,.int .i64 1,.int .u8 103,.bool true] w fun e w'=>∃v',e=.returned v'∧FB B g cs fr W0 v' (n+(yA b ds 1 dp).length) (xs++intCells (yA b ds 1 dp)) w':=by
 have hE:yA b ds 1 dp=sgI b++[ds 0]++[101]++sc::mag y:=by
  unfold yA
  rw[if_neg (show ¬1=0 by omega),if_neg (show ¬1=0 by omega),if_neg (show ¬2≤1 by omega),hd.oW hy2]
  cases b<;>rfl
 have HE:=ah hE
 clear hE
 have CC:Hid (∀W v m ys,FB B g cs fr W0 v m ys W→W.cell? ⟨g,0,none⟩=some (.int .u8 (ds 0))):=ah fun W v m ys h=>h.cell 0 (hds 0 (by omega))
 have c0:=CC.o _ _ _ _ hb
 clear hds
 rcases hd with ⟨rfl,hy,rfl⟩|⟨rfl,hy,rfl⟩
 all_goals
  have hy0:0≤y:=by omega
  try have hx1:(1-y)-1=-y:=by omega
  try have hxd:decide (-y < -4)=true:=by simp;omega
  try have hxs:decide (-y<0)=true:=by simp;omega
  try have hxd:decide (y < -4)=false:=by simp;omega
  try have hxe:decide (6≤y)=true:=by simp;omega
  try have hxs:decide (y<0)=false:=by simp;omega
  rcases hs with ⟨rfl,yZ,Yn⟩|⟨rfl,yZ,Yn⟩
 all_goals
  go_enter func184,ntmps184
  go_big_wp2_with (at_builtin;first
   |(refine gJ rfl _ _ rfl B g cs fr W0 _ _ _ _ _ (by assumption) rfl rfl (by omega) ?_;intro _ _ hb;have cc:=CC.o _ _ _ _ hb)
   |(refine KH rfl _ _ rfl B g cs fr W0 _ _ _ _ _ _ (by assumption) rfl rfl (by omega) ?_;intro _ _ hb)
   |(refine zV rfl _ _ rfl B g cs fr W0 _ _ _ _ _ _ _ (by assumption) rfl rfl (by omega) ?_;intro _ _ hb))
  all_goals (
   go_ret
   refine⟨_,rfl,KF (by assumption) _ ?_ ?_⟩
   ·rw[HE.o]
    simp[intCells,sgI,mag,yZ]
    split<;>first|rfl|(exfalso;omega)|(split<;>first|rfl|(exfalso;omega))
   ·rw[HE.o];simp only[ahl,ahk,mag]
    split<;>first|((simp<;>omega);done)|(exfalso;omega)|(split<;>first|((simp<;>omega);done)|(exfalso;omega)))
theorem e_0 (b:Bool) (SG:List Value) (SL:Nat) (hs:Sg b SG SL) (dp y sc:Int) (hd:Ex dp y sc) (hy2:y≤1000) (B g:Nat) (cs:Array Value) (fr:Nat×Nat) (W0 w:World) (v:Value) (n:Nat) (xs:List Value) (hn:n≤100) (hb:FB B g cs fr W0 v n xs w) (ds:Nat→Int) (hds:∀j,j<0→cs[j]?=some (.int .u8 (ds j))) :
  Calls prog 184 #[v,.bool b,.slice (some ⟨g,0,none⟩) 32 32,.int .i64 dp,.int .i64 0,.int .i64 0,.int .u8 103,.bool true] w fun e w'=>∃v',e=.returned v'∧FB B g cs fr W0 v' (n+(yA b ds 0 dp).length) (xs++intCells (yA b ds 0 dp)) w':=by
 have hE:yA b ds 0 dp=sgI b++[48]++[101]++[43,48,48]:=by
  have:vG 0=[43,48,48]:=by rfl
  cases b<;>simp[yA,this,sgI]
 have HE:=ah hE
 clear hE
 clear hds
 rcases hd with ⟨rfl,hy,rfl⟩|⟨rfl,hy,rfl⟩
 all_goals
  have hy0:0≤y:=by omega
  try have hx1:(1-y)-1=-y:=by omega
  try have hxd:decide (-y < -4)=true:=by simp;omega
  try have hxs:decide (-y<0)=true:=by simp;omega
  try have hxd:decide (y < -4)=false:=by simp;omega
  try have hxe:decide (6≤y)=true:=by simp;omega
  try have hxs:decide (y<0)=false:=by simp;omega
  rcases hs with ⟨rfl,yZ,Yn⟩|⟨rfl,yZ,Yn⟩
 all_goals
  go_enter func184,ntmps184
  go_big_wp2_with (at_builtin;first
   |(refine gJ rfl _ _ rfl B g cs fr W0 _ _ _ _ _ (by assumption) rfl rfl (by omega) ?_;intro _ _ hb;skip)
   |(refine KH rfl _ _ rfl B g cs fr W0 _ _ _ _ _ _ (by assumption) rfl rfl (by omega) ?_;intro _ _ hb)
   |(refine zV rfl _ _ rfl B g cs fr W0 _ _ _ _ _ _ _ (by assumption) rfl rfl (by omega) ?_;intro _ _ hb))
  go_ret
  exact⟨_,rfl,KF (by assumption) _ (by rw[HE.o];simp[intCells,sgI,yZ]) (by rw[HE.o];simp[sgI])⟩
def dl (ds:Nat→Int) (a k:Nat):List Value:=(List.range k).map fun j=>Value.int .u8 (ds (a+j))
def ze (k:Nat):List Value:=List.replicate k (Value.int .u8 48)
theorem ED (ds:Nat→Int) (a k:Nat):dl ds a (k+1)=dl ds a k++[Value.int .u8 (ds (a+k))]:=by simp[dl,List.range_succ]
theorem XA (k:Nat):ze (k+1)=ze k++[Value.int .u8 48]:=List.replicate_succ'
theorem alP (b:Bool) (SG:List Value) (SL:Nat) (hs:Sg b SG SL) (B g:Nat) (cs:Array Value) (fr:Nat×Nat) (W0 w:World) (v:Value) (n:Nat) (xs:List Value) (hn:n≤100) (hb:FB B g cs fr W0 v n xs w) (nd D:Nat) (hD:1≤D) (hD6:D≤6) (hnd:nd≤D) (ds:Nat→Int) (hds:∀j,j<nd→cs[j]?=some (.int .u8 (ds j))) :
  Calls prog 184 #[v,.bool b,.slice (some ⟨g,0,none⟩) 32 32,.int .i64 (D:Int),.int .i64 nd,.int .i64 nd,.int .u8 103,.bool true] w fun e w'=>∃v',e=.returned v'∧FB B g cs fr W0 v' (n+SL+nd+(D-nd)) (xs++SG++dl ds 0 nd++ze (D-nd)) w':=by
 have h1:decide ((D:Int)-1 < -4)=false:=by simp;omega
 have h2:decide (6≤(D:Int)-1)=false:=by simp;omega
 have h3:decide (0<D)=true:=by simp;omega
 have h4:decide (D<nd)=false:=by simp;omega
 have h5:max ((nd:Int)-D) 0=0:=by omega
 have h6:min (nd:Int) D=nd:=by omega
 have hI1:(1:Int)≤D:=by omega
 have hI2:(D:Int)≤6:=by omega
 have hI3:(nd:Int)≤D:=by omega
 have HD:=ah hds
 clear hds
 rcases hs with ⟨rfl,yZ,Yn⟩|⟨rfl,yZ,Yn⟩
 all_goals
  go_enter func184,ntmps184
  go_big_wp2_with (at_builtin;(refine gJ rfl _ _ rfl B g cs fr W0 _ _ _ _ _ (by assumption) rfl rfl (by omega) ?_;intro _ _ hb))
  go_loopw [0,191] (fun u t wr=>∃k:Nat,k≤nd∧t=.int .i64 k∧FB B g cs fr W0 u (n+SL+k) (xs++SG++dl ds 0 k) wr) (fun _ t _=>nd-(intOf t).toNat)
  case atStart=>exact⟨0,jf _,rfl,iL (by assumption) (by simp[dl,yZ]) (by omega)⟩
  case round =>
   obtain⟨k,hk,rfl,hb⟩:=hrel
   by_cases hlt:k<nd
   ·have abL:(k:Int)<nd:=by omega
    have cc:=hb.cell k (HD.o k hlt)
    go_big_wp2_with (at_builtin;(refine gJ rfl _ _ rfl B g cs fr W0 _ _ _ _ _ (by assumption) rfl rfl (by omega) ?_;intro _ _ hb))
    go_roundw
    case rel=>exact⟨k+1,by omega,by go_num,iL (by assumption) (by simp[ED,ni]) (by omega)⟩
    case measure=>simp[intOf];omega
   ·have hge:nd≤(k:Int):=by omega
    have hk2:nd=k:=by omega
    subst hk2
    go_big_wp2_with (at_builtin;(refine gJ rfl _ _ rfl B g cs fr W0 _ _ _ _ _ (by assumption) rfl rfl (by omega) ?_;intro _ _ hb))
    go_loopw [0,203] (fun u t wr=>∃k:Nat,k≤(D-nd)∧t=.int .i64 k∧FB B g cs fr W0 u (n+SL+nd+k) (xs++SG++dl ds 0 nd++ze k) wr) (fun _ t _=>(D-nd)-(intOf t).toNat)
    case atStart=>exact⟨0,jf _,rfl,iL (by assumption) (by simp[ze,yZ]) (by omega)⟩
    case round =>
     obtain⟨k,hk,rfl,hb⟩:=hrel
     by_cases hlt:k<(D-nd)
     ·have abL:(k:Int)<(D:Int)-nd:=by omega
      go_big_wp2_with (at_builtin;(refine gJ rfl _ _ rfl B g cs fr W0 _ _ _ _ _ (by assumption) rfl rfl (by omega) ?_;intro _ _ hb))
      go_roundw
      case rel=>exact⟨k+1,by omega,by go_num,iL (by assumption) (by simp[XA,ni]) (by omega)⟩
      case measure=>simp[intOf];omega
     ·have hge:(D:Int)-nd≤(k:Int):=by omega
      have hk2:(D-nd)=k:=by omega
      subst hk2
      go_big_wp2_with (at_builtin;(refine gJ rfl _ _ rfl B g cs fr W0 _ _ _ _ _ (by assumption) rfl rfl (by omega) ?_;intro _ _ hb))
      go_ret
      exact⟨_,rfl,iL (by assumption) (by simp[ni,yZ]) (by omega)⟩
theorem alQ (b:Bool) (SG:List Value) (SL:Nat) (hs:Sg b SG SL) (B g:Nat) (cs:Array Value) (fr:Nat×Nat) (W0 w:World) (v:Value) (n:Nat) (xs:List Value) (hn:n≤100) (hb:FB B g cs fr W0 v n xs w) (nd D:Nat) (hD:1≤D) (hD6:D≤6) (hnd:D<nd) (aqN:nd≤20) (ds:Nat→Int) (hds:∀j,j<nd→cs[j]?=some (.int .u8 (ds j))) :
  Calls prog 184 #[v,.bool b,.slice (some ⟨g,0,none⟩) 32 32,.int .i64 (D:Int),.int .i64 nd,.int .i64 nd,.int .u8 103,.bool true] w fun e w'=>∃v',e=.returned v'∧FB B g cs fr W0 v' (n+SL+D+1+(nd-D)) (xs++SG++dl ds 0 D++[Value.int .u8 46]++dl ds D (nd-D)) w':=by
 have h1:decide ((D:Int)-1 < -4)=false:=by simp;omega
 have h2:decide (6≤(D:Int)-1)=false:=by simp;omega
 have h3:decide (0<D)=true:=by simp;omega
 have h4:decide (D<nd)=true:=by simp;omega
 have h5:max ((nd:Int)-D) 0=(nd:Int)-D:=by omega
 have h6:min (nd:Int) D=D:=by omega
 have h7:max (0:Int) (-(D:Int))=0:=by omega
 have h8:min ((nd:Int)-D) 0=0:=by omega
 have h9:max (0:Int) ((nd:Int)-D)=(nd:Int)-D:=by omega
 have hI1:(1:Int)≤D:=by omega
 have hI2:(D:Int)≤6:=by omega
 have hI3:(D:Int)<nd:=by omega
 have hI4:(nd:Int)≤20:=by omega
 have hI5:(0:Int)<(nd:Int)-D:=by omega
 have HD:=ah hds
 clear hds
 rcases hs with ⟨rfl,yZ,Yn⟩|⟨rfl,yZ,Yn⟩
 all_goals
  go_enter func184,ntmps184
  go_big_wp2_with (at_builtin;(refine gJ rfl _ _ rfl B g cs fr W0 _ _ _ _ _ (by assumption) rfl rfl (by omega) ?_;intro _ _ hb))
  go_loopw [0,191] (fun u t wr=>∃k:Nat,k≤D∧t=.int .i64 k∧FB B g cs fr W0 u (n+SL+k) (xs++SG++dl ds 0 k) wr) (fun _ t _=>D-(intOf t).toNat)
  case atStart=>exact⟨0,jf _,rfl,iL (by assumption) (by simp[dl,yZ]) (by omega)⟩
  case round =>
   obtain⟨k,hk,rfl,hb⟩:=hrel
   by_cases hlt:k<D
   ·have abL:(k:Int)<D:=by omega
    have cc:=hb.cell k (HD.o k (by omega))
    go_big_wp2_with (at_builtin;(refine gJ rfl _ _ rfl B g cs fr W0 _ _ _ _ _ (by assumption) rfl rfl (by omega) ?_;intro _ _ hb))
    go_roundw
    case rel=>exact⟨k+1,by omega,by go_num,iL (by assumption) (by simp[ED,ni]) (by omega)⟩
    case measure=>simp[intOf];omega
   ·have hge:D≤(k:Int):=by omega
    have hk2:D=k:=by omega
    subst hk2
    go_big_wp2_with (at_builtin;(refine gJ rfl _ _ rfl B g cs fr W0 _ _ _ _ _ (by assumption) rfl rfl (by omega) ?_;intro _ _ hb))
    go_loopw [0,203] (fun u t wr=>FB B g cs fr W0 u (n+SL+D) (xs++SG++dl ds 0 D) wr∧t=.int .i64 0) (fun _ _ _=>0)
    case atStart=>exact⟨iL (by assumption) (by first|rfl|simp[ni,yZ]) (by omega),rfl⟩
    case round =>
     obtain⟨hb,rfl⟩:=hrel
     go_big_wp2_with (at_builtin;(refine gJ rfl _ _ rfl B g cs fr W0 _ _ _ _ _ (by assumption) rfl rfl (by omega) ?_;intro _ _ hb))
     go_loopw [0,240] (fun u t wr=>FB B g cs fr W0 u (n+SL+D+1) (xs++SG++dl ds 0 D++[Value.int .u8 46]) wr∧t=.int .i64 0) (fun _ _ _=>0)
     case atStart=>exact⟨iL (by assumption) (by first|rfl|simp[ni,yZ]) (by omega),rfl⟩
     case round =>
      obtain⟨hb,rfl⟩:=hrel
      go_big_wp2_with (at_builtin;(refine gJ rfl _ _ rfl B g cs fr W0 _ _ _ _ _ (by assumption) rfl rfl (by omega) ?_;intro _ _ hb))
      go_loopw [0,247] (fun u t wr=>∃k:Nat,k≤(nd-D)∧t=.int .i64 k∧FB B g cs fr W0 u (n+SL+D+1+k) (xs++SG++dl ds 0 D++[Value.int .u8 46]++dl ds D k) wr) (fun _ t _=>(nd-D)-(intOf t).toNat)
      case atStart=>exact⟨0,jf _,rfl,iL (by assumption) (by simp[dl,yZ]) (by omega)⟩
      case round =>
       obtain⟨k,hk,rfl,hb⟩:=hrel
       by_cases hlt:k<(nd-D)
       ·have abL:(k:Int)<(nd:Int)-D:=by omega
        have hdk:(D:Int)+k<32:=by omega
        have cc:=hb.cell (D+k) (HD.o (D+k) (by omega))
        go_big_wp2_with (at_builtin;(refine gJ rfl _ _ rfl B g cs fr W0 _ _ _ _ _ (by assumption) rfl rfl (by omega) ?_;intro _ _ hb))
        go_roundw
        case rel=>exact⟨k+1,by omega,by go_num,iL (by assumption) (by simp[ED,ni]) (by omega)⟩
        case measure=>simp[intOf];omega
       ·have hge:(nd:Int)-D≤(k:Int):=by omega
        have hk2:(nd-D)=k:=by omega
        subst hk2
        go_big_wp2_with (at_builtin;(refine gJ rfl _ _ rfl B g cs fr W0 _ _ _ _ _ (by assumption) rfl rfl (by omega) ?_;intro _ _ hb))
        go_loopw [0,261] (fun u t wr=>FB B g cs fr W0 u (n+SL+D+1+(nd-D)) (xs++SG++dl ds 0 D++[Value.int .u8 46]++dl ds D (nd-D)) wr∧t=.int .i64 0) (fun _ _ _=>0)
        case atStart=>exact⟨iL (by assumption) (by first|rfl|simp[ni,yZ]) (by omega),rfl⟩
        case round =>
         obtain⟨hb,rfl⟩:=hrel
         go_big_wp2_with (at_builtin;(refine gJ rfl _ _ rfl B g cs fr W0 _ _ _ _ _ (by assumption) rfl rfl (by omega) ?_;intro _ _ hb))
         go_ret
         exact⟨_,rfl,iL (by assumption) (by simp[ni,yZ]) (by omega)⟩
theorem ah5 (b:Bool) (SG:List Value) (SL:Nat) (hs:Sg b SG SL) (B g:Nat) (cs:Array Value) (fr:Nat×Nat) (W0 w:World) (v:Value) (n:Nat) (xs:List Value) (hn:n≤100) (hb:FB B g cs fr W0 v n xs w) :
  Calls prog 184 #[v,.bool b,.slice (some ⟨g,0,none⟩) 32 32,.int .i64 0,.int .i64 0,.int .i64 0,.int .u8 103,.bool true] w fun e w'=>∃v',e=.returned v'∧FB B g cs fr W0 v' (n+SL+1) (xs++SG++[Value.int .u8 48]) w':=by
 rcases hs with ⟨rfl,yZ,Yn⟩|⟨rfl,yZ,Yn⟩
 all_goals
  go_enter func184,ntmps184
  go_big_wp2_with (at_builtin;(refine gJ rfl _ _ rfl B g cs fr W0 _ _ _ _ _ (by assumption) rfl rfl (by omega) ?_;intro _ _ hb))
  go_ret
  exact⟨_,rfl,iL (by assumption) (by simp[ni,yZ]) (by omega)⟩
theorem alN (b:Bool) (SG:List Value) (SL:Nat) (hs:Sg b SG SL) (B g:Nat) (cs:Array Value) (fr:Nat×Nat) (W0 w:World) (v:Value) (n:Nat) (xs:List Value) (hn:n≤100) (hb:FB B g cs fr W0 v n xs w) (nd Z:Nat) (hZ:Z≤3) (hnd:1≤nd+Z) (aqN:nd≤20) (ds:Nat→Int) (hds:∀j,j<nd→cs[j]?=some (.int .u8 (ds j))) :
  Calls prog 184 #[v,.bool b,.slice (some ⟨g,0,none⟩) 32 32,.int .i64 (-(Z:Int)),.int .i64 nd,.int .i64 nd,.int .u8 103,.bool true] w fun e w'=>∃v',e=.returned v'∧FB B g cs fr W0 v' (n+SL+1+1+Z+nd) (xs++SG++[Value.int .u8 48]++[Value.int .u8 46]++ze Z++dl ds 0 nd) w':=by
 have h1:decide (-(Z:Int)-1 < -4)=false:=by simp;omega
 have h2:decide (6≤-(Z:Int)-1)=false:=by simp;omega
 have h3:decide (0 < -(Z:Int))=false:=by simp
 have h5:max ((nd:Int)- -(Z:Int)) 0=(nd:Int)+Z:=by omega
 have h5b:max ((nd:Int)+(Z:Int)) 0=(nd:Int)+Z:=by omega
 have h7:max (0:Int) (Z:Int)=Z:=by omega
 have h8:min ((nd:Int)+Z) Z=Z:=by omega
 have h9:-(Z:Int)+Z=0:=by omega
 have h10:(nd:Int)+Z-Z=nd:=by omega
 have h11:max (0:Int) (nd:Int)=nd:=by omega
 have hI1:(0:Int)≤Z:=by omega
 have hI2:(Z:Int)≤3:=by omega
 have hI4:(nd:Int)≤20:=by omega
 have hI5:(0:Int)<(nd:Int)+Z:=by omega
 have HD:=ah hds
 clear hds
 rcases hs with ⟨rfl,yZ,Yn⟩|⟨rfl,yZ,Yn⟩
 all_goals
  go_enter func184,ntmps184
  go_big_wp2_with (at_builtin;(refine gJ rfl _ _ rfl B g cs fr W0 _ _ _ _ _ (by assumption) rfl rfl (by omega) ?_;intro _ _ hb))
  go_loopw [0,240] (fun u t wr=>∃k:Nat,k≤Z∧t=.int .i64 k∧FB B g cs fr W0 u (n+SL+1+1+k) (xs++SG++[Value.int .u8 48]++[Value.int .u8 46]++ze k) wr) (fun _ t _=>Z-(intOf t).toNat)
  case atStart=>exact⟨0,jf _,rfl,iL (by assumption) (by simp[ze,yZ]) (by omega)⟩
  case round =>
   obtain⟨k,hk,rfl,hb⟩:=hrel
   by_cases hlt:k<Z
   ·have abL:(k:Int)<Z:=by omega
    go_big_wp2_with (at_builtin;(refine gJ rfl _ _ rfl B g cs fr W0 _ _ _ _ _ (by assumption) rfl rfl (by omega) ?_;intro _ _ hb))
    go_roundw
    case rel=>exact⟨k+1,by omega,by go_num,iL (by assumption) (by simp[XA,ni]) (by omega)⟩
    case measure=>simp[intOf];omega
   ·have hge:Z≤(k:Int):=by omega
    have hk2:Z=k:=by omega
    subst hk2
    go_big_wp2_with (at_builtin;(refine gJ rfl _ _ rfl B g cs fr W0 _ _ _ _ _ (by assumption) rfl rfl (by omega) ?_;intro _ _ hb))
    go_loopw [0,247] (fun u t wr=>∃k:Nat,k≤nd∧t=.int .i64 k∧FB B g cs fr W0 u (n+SL+1+1+Z+k) (xs++SG++[Value.int .u8 48]++[Value.int .u8 46]++ze Z++dl ds 0 k) wr) (fun _ t _=>nd-(intOf t).toNat)
    case atStart=>exact⟨0,jf _,rfl,iL (by assumption) (by simp[dl,yZ]) (by omega)⟩
    case round =>
     obtain⟨k,hk,rfl,hb⟩:=hrel
     by_cases hlt:k<nd
     ·have abL:(k:Int)<nd:=by omega
      have hdk:(k:Int)<32:=by omega
      have cc:=hb.cell k (HD.o k (by omega))
      go_big_wp2_with (at_builtin;(refine gJ rfl _ _ rfl B g cs fr W0 _ _ _ _ _ (by assumption) rfl rfl (by omega) ?_;intro _ _ hb))
      go_roundw
      case rel=>exact⟨k+1,by omega,by go_num,iL (by assumption) (by simp[ED,ni]) (by omega)⟩
      case measure=>simp[intOf];omega
     ·have hge:nd≤(k:Int):=by omega
      have hk2:nd=k:=by omega
      subst hk2
      go_big_wp2_with (at_builtin;(refine gJ rfl _ _ rfl B g cs fr W0 _ _ _ _ _ (by assumption) rfl rfl (by omega) ?_;intro _ _ hb))
      go_loopw [0,261] (fun u t wr=>FB B g cs fr W0 u (n+SL+1+1+Z+nd) (xs++SG++[Value.int .u8 48]++[Value.int .u8 46]++ze Z++dl ds 0 nd) wr∧t=.int .i64 0) (fun _ _ _=>0)
      case atStart=>exact⟨iL (by assumption) (by first|rfl|simp[ni,yZ]) (by omega),rfl⟩
      case round =>
       obtain⟨hb,rfl⟩:=hrel
       go_big_wp2_with (at_builtin;(refine gJ rfl _ _ rfl B g cs fr W0 _ _ _ _ _ (by assumption) rfl rfl (by omega) ?_;intro _ _ hb))
       go_ret
       exact⟨_,rfl,iL (by assumption) (by simp[ni,yZ]) (by omega)⟩
def Ik (neg:Bool) (ds:Nat→Int) (nd:Nat) (dp:Int):List Int :=
 if dp-1 < -4∨6≤dp-1 then yA neg ds nd dp
 else(if neg then[45]else[]) ++
  (if 1≤dp then
    (if(nd:Int)≤dp then((List.range nd).map fun j=>ds (0+j))++List.replicate (dp.toNat-nd) 48
     else((List.range dp.toNat).map fun j=>ds (0+j))++[46]++((List.range (nd-dp.toNat)).map fun j=>ds (dp.toNat+j)))
   else if nd=0∧dp=0 then[48]
   else[48]++[46]++List.replicate (-dp).toNat 48++((List.range nd).map fun j=>ds (0+j)))
theorem zN {f:FuncId} {args:Array Value} {w:World} {B g:Nat} {cs:Array Value} {fr:Nat×Nat} {W0:World} {N N':Nat} {X X':List Value}
 (h:Calls prog f args w fun e w'=>∃v',e=.returned v'∧FB B g cs fr W0 v' N X w') (hN:N=N') (hX:X=X') :
 Calls prog f args w fun e w'=>∃v',e=.returned v'∧FB B g cs fr W0 v' N' X' w':=by subst hN;subst hX;exact h
theorem UZ (neg:Bool) (B g:Nat) (cs:Array Value) (fr:Nat×Nat) (W0 w:World) (v:Value) (n:Nat) (xs:List Value) (hn:n≤100) (hb:FB B g cs fr W0 v n xs w) (nd:Nat) (hnd:nd≤20) (ds:Nat→Int) (hds:∀j,j<nd→cs[j]?=some (.int .u8 (ds j))) (dp:Int) (hdp:-900≤dp) (atD:dp≤900) :
  Calls prog 184 #[v,.bool neg,.slice (some ⟨g,0,none⟩) 32 32,.int .i64 dp,.int .i64 nd,.int .i64 nd,.int .u8 103,.bool true] w fun e w'=>∃v',e=.returned v'∧FB B g cs fr W0 v' (n+(Ik neg ds nd dp).length) (xs++intCells (Ik neg ds nd dp)) w':=by
 unfold Ik
 obtain⟨SG,SL,hs⟩:∃SG SL,Sg neg SG SL:=by
  cases neg
  ·exact⟨_,_,.inr ⟨rfl,rfl,rfl⟩⟩
  ·exact⟨_,_,.inl ⟨rfl,rfl,rfl⟩⟩
 by_cases hx:dp-1 < -4∨6≤dp-1
 ·rw[if_pos hx]
  obtain⟨y,sc,hd,hy⟩:∃y sc,Ex dp y sc∧y≤1000:=by
   rcases hx with hx|hx
   ·exact⟨1-dp,45,.inl ⟨by omega,by omega,rfl⟩,by omega⟩
   ·exact⟨dp-1,43,.inr ⟨by omega,by omega,rfl⟩,by omega⟩
  rcases Nat.lt_or_ge nd 2 with h2|h2
  ·rcases Nat.lt_or_ge nd 1 with h1|h1
   ·obtain rfl:nd=0:=by omega
    exact e_0 neg SG SL hs dp y sc hd hy B g cs fr W0 w v n xs hn hb ds hds
   ·obtain rfl:nd=1:=by omega
    exact e_1 neg SG SL hs dp y sc hd hy B g cs fr W0 w v n xs hn hb ds hds
  ·exact e_2 neg SG SL hs dp y sc hd hy B g cs fr W0 w v n xs hn hb nd h2 hnd ds hds
 ·rw[if_neg hx]
  by_cases h1:1≤dp
  ·rw[if_pos h1]
   obtain⟨D,rfl⟩:∃D:Nat,dp=D:=⟨dp.toNat,by omega⟩
   by_cases h2:(nd:Int)≤D
   ·rw[if_pos h2]
    refine zN (alP neg SG SL hs B g cs fr W0 w v n xs hn hb nd D (by omega) (by omega) (by omega) ds hds) ?_ ?_<;>rcases hs with ⟨rfl,rfl,rfl⟩|⟨rfl,rfl,rfl⟩<;>first|(simp;omega)|simp[intCells,dl,ze,Function.comp_def]
   ·rw[if_neg h2]
    refine zN (alQ neg SG SL hs B g cs fr W0 w v n xs hn hb nd D (by omega) (by omega) (by omega) hnd ds hds) ?_ ?_<;>rcases hs with ⟨rfl,rfl,rfl⟩|⟨rfl,rfl,rfl⟩<;>first|(simp;omega)|simp[intCells,dl,Function.comp_def]
  ·rw[if_neg h1]
   by_cases h0:nd=0∧dp=0
   ·rw[if_pos h0]
    obtain⟨rfl,rfl⟩:=h0
    refine zN (ah5 neg SG SL hs B g cs fr W0 w v n xs hn hb) ?_ ?_<;>rcases hs with ⟨rfl,rfl,rfl⟩|⟨rfl,rfl,rfl⟩<;>simp[intCells]
   ·rw[if_neg h0]
    obtain⟨Z,rfl⟩:∃Z:Nat,dp=-(Z:Int):=⟨(-dp).toNat,by omega⟩
    refine zN (alN neg SG SL hs B g cs fr W0 w v n xs hn hb nd Z (by omega) (by omega) hnd ds hds) ?_ ?_<;>rcases hs with ⟨rfl,rfl,rfl⟩|⟨rfl,rfl,rfl⟩<;>first|(simp;omega)|simp[intCells,dl,ze,Function.comp_def]
def Iw (m e:Int):Int×Int :=
 if e < -1085 then lY m e (-(log10 (-1074))) (IntKind.u64.wrap (m-(IntKind.u64.wrap (2^((11+(-1085-e)).toNat-1))))) (IntKind.u64.wrap (m+(IntKind.u64.wrap (2^((11+(-1085-e)).toNat-1))))) (bits .and .i64 (wrap64 (m/2^(11+(-1085-e)).toNat)) 1)
 else if m=9223372036854775808 then
  (if e=-1085 then lY 9223372036854775808 (-1085) (-(log10 (-1074))) 9223372036854774784 9223372036854776832 0
   else lY 9223372036854775808 e (-(T_ (e+11))) 9223372036854775296 9223372036854776832 0)
 else lY m e (-(log10 (e+11))) (m-1024) (IntKind.u64.wrap (m+1024)) (bits .and .i64 (m/2048) 1)
theorem JC (m e:Int) (hm1:9223372036854775808≤m) (hm2:m<18446744073709551616) (he1:-1137≤e) (he2:e≤960) (w:World) (hw:ou w) (hz:18<w.heap.size) :
  Calls prog 191 #[.int .u64 m,.int .i64 e] w fun e' w'=>e'=.returned (.tuple #[.int .u64 (Iw m e).1,.int .i64 (Iw m e).2])∧Below w.heap.size w w':=by
 unfold Iw
 by_cases h1:e < -1085
 ·rw[if_pos h1]
  by_cases hm:m=9223372036854775808
  ·exact M_ m e (by simpa using hm) hm1 hm2 he1 h1 w hw hz
  ·exact MZ m e (by simpa using hm) hm1 hm2 he1 h1 w hw hz
 ·rw[if_neg h1]
  by_cases hm:m=9223372036854775808
  ·rw[if_pos hm]
   subst hm
   by_cases he:e=-1085
   ·rw[if_pos he];subst he;exact TW w hw hz
   ·rw[if_neg he];exact YU e (by omega) he2 w hw hz
  ·rw[if_neg hm];exact YV m e (by omega) hm2 (by omega) he2 w hw hz
theorem ajG (u:Int):0≤rou u∧rou u≤4611686018427387903:=by
 unfold rou;rw[IntKind.wrap_u64];omega
theorem BD (m e p mn mx odd:Int) (hp:-400≤p) (hp2:p≤400):0≤(lY m e p mn mx odd).1∧(lY m e p mn mx odd).1≤4611686018427387903∧-500≤(lY m e p mn mx odd).2∧(lY m e p mn mx odd).2≤500:=by
 unfold lY
 have h1:=aaC (nud (Zt mn (oJ (p+348).toNat) (oK (p+348).toNat) (-(e+log2 p+3))) odd)
 have h2:=aaZ (nud (Zt mx (oJ (p+348).toNat) (oK (p+348).toNat) (-(e+log2 p+3))) (-odd))
 have h3:=ajG (Zt m (oJ (p+348).toNat) (oK (p+348).toNat) (-(e+log2 p+3)))
 dsimp only
 split
 ·refine⟨?_,?_,?_,?_⟩<;>dsimp only<;>omega
 ·split
  ·refine⟨?_,?_,?_,?_⟩<;>dsimp only<;>omega
  ·refine⟨?_,?_,?_,?_⟩<;>dsimp only<;>omega
theorem GU (m e:Int) (he1:-1137≤e) (he2:e≤960):0≤(Iw m e).1∧(Iw m e).1≤4611686018427387903∧-500≤(Iw m e).2∧(Iw m e).2≤500:=by
 unfold Iw
 have hl:=uM (-1074) (by omega) (by omega)
 split
 ·exact BD _ _ _ _ _ _ (by omega) (by omega)
 ·split
  ·split
   ·exact BD _ _ _ _ _ _ (by omega) (by omega)
   ·have hs:=Xh e (by omega) he2
    exact BD _ _ _ _ _ _ (by omega) (by omega)
  ·have hl:=uM (e+11) (by omega) (by omega)
   exact BD _ _ _ _ _ _ (by omega) (by omega)
theorem yj (k:Nat) (w:World):(callFunc 181 #[.float .f64 k]).run prog w=.ok (.value (.int .u64 (k:Nat))) w:=by
 rw[run_callFunc_extern func181 (by kernel_rfl) (by kernel_rfl) (by kernel_rfl) (e:=Extern.MathFloatBits.float64bits) (by kernel_rfl)]
 rfl
theorem sO {B:Nat} {e:TypeId} {v:Value} {n:Nat} {xs:List Value} {W0 w w':World} (h:OwnBuf B e v n xs W0 w) (G:Nat) (hBG:B≤G) (hG:∀k,v.ownBlock=some k→k<G) (hb:Below G w w'):OwnBuf B e v n xs W0 w':=by
 refine⟨⟨h.1.1,?_⟩,h.2.1.trans (hb.mono hBG),Nat.le_trans h.2.2 hb.size⟩
 rcases h.1.2 with hn|⟨g,cap,cur,fz,hv,h1,hg,rest⟩
 ·exact .inl hn
 ·exact .inr ⟨g,cap,cur,fz,hv,h1,(hb.block g (hG g (by rw[hv];rfl))).trans hg,rest⟩
def nD (u:Nat):Nat:=if u=0 then 0 else nDigits u
theorem acw (u:Nat) (h:u<18446744073709551616):nD u≤20:=by
 unfold nD;split
 ·omega
 ·exact ai8 u (by omega) h
theorem ahi (u:Nat):u<10^nD u:=by
 unfold nD;split
 ·rename_i h;subst h;decide
 ·exact lt_pow_nDigits u
theorem amo (u:Nat) (h:u<18446744073709551616) (w:World) (htab:TabIs prog w "internal/strconv.uint64pow10" .u64 pow10Tab) :
  uQ 119 #[.int .u64 u] w (.int .i64 (nD u)):=by
 unfold nD
 by_cases h0:u=0
 ·subst h0
  rw[if_pos rfl]
  exact TD w htab
 ·rw[if_neg h0]
  exact(internal_strconv_numDigits u (by omega) h w htab).mono (by rintro e w' ⟨rfl,rfl⟩;exact⟨rfl,rfl⟩)
def yL (neg:Bool) (m e:Int):List Int :=
 Ik neg (fun j=>((dg (Iw m e).1.toNat (nD (Iw m e).1.toNat-1-j)).toNat:Int)) (nz (Iw m e).1.toNat (nD (Iw m e).1.toNat) (nD (Iw m e).1.toNat)) ((nD (Iw m e).1.toNat:Int)+(Iw m e).2)
structure oQ (w:World):Prop where
 pow:ou w
 p10:TabIs prog w "internal/strconv.uint64pow10" .u64 pow10Tab
 big:18<w.heap.size
theorem oQ.below {w w':World} (h:oQ w) (hb:Below w.heap.size w w'):oQ w':=⟨h.pow.below h.big hb,Qd h.p10 hb,Nat.lt_of_lt_of_le h.big hb.size⟩
def lq:Array Value:=#[Value.int .u8 0,Value.int .u8 0,Value.int .u8 0,Value.int .u8 0,Value.int .u8 0,Value.int .u8 0,Value.int .u8 0,Value.int .u8 0,Value.int .u8 0,Value.int .u8 0,Value.int .u8 0,Value.int .u8 0,Value.int .u8 0,Value.int .u8 0,Value.int .u8 0,Value.int .u8 0,Value.int .u8 0,Value.int .u8 0,Value.int .u8 0,Value.int .u8 0,Value.int .u8 0,Value.int .u8 0,Value.int .u8 0,Value.int .u8 0,Value.int .u8 0,Value.int .u8 0,Value.int .u8 0,Value.int .u8 0,Value.int .u8 0,Value.int .u8 0,Value.int .u8 0,Value.int .u8 0]
theorem Hw (i:Nat) (h:i<32):lq[i]?=some (.int .u8 0):=by
 have e:lq=Array.replicate 32 (.int .u8 0):=rfl
 rw[e,Array.getElem?_replicate,if_pos h]
structure Road (b:Nat) (neg:Bool) (ex mt:Int) (M L:Nat) (m e:Int):Prop where
 hb64:b<18446744073709551616
 hneg:((b:Int)/9223372036854775808 != 0)=neg
 hex:bits .and .i64 ((b:Int)/4503599627370496) 2047=ex
 hmt:bits .and .u64 (b:Int) 4503599627370495=mt
 h7:(ex==2047)=false
 hr1:0≤ex
 hr2:ex<2048
 hM:(ex==0)=true∧mt=M∨(ex==0)=false∧bits .or .u64 mt 4503599627370496=M
 hM0:((M:Int)==0)=false
 hL:Lib.bitLen M=L
 hL1:(1:Int)≤L
 hL2:(L:Int)≤53
 hMb:M<18446744073709551616
 hm:IntKind.u64.wrap ((M:Int)*2^(64-L))=m
 hm1:9223372036854775808≤m
 hm2:m<18446744073709551616
 he:(if ex=0 then 1 else ex)+-1023-(64-(L:Int))-52=e
 he1:-1137≤e
 he2:e≤960
end Go.Proofs.YtllcccekodcdmaaGreatDoor.Fl
