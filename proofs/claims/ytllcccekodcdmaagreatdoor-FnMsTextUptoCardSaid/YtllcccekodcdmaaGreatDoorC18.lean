import Derived.Lib.BufferOld
import Derived.Lib.ItoaLen
import Derived.Lib.PrintData
import Derived.Lib.SlBytesConst
import Derived.Test.YtllcccekodcdmaaGreatDoorC17
set_option linter.unusedVariables false
set_option linter.unusedSimpArgs false
set_option maxRecDepth 100000
set_option maxHeartbeats 32000000
open Go.Proofs.Tryz
namespace Go.Proofs.YtllcccekodcdmaaGreatDoor.Ms
open Go Go.RowKit Go.Proofs.ak.aT Go.Proofs.ak.cO Go.Proofs.YtllcccekodcdmaaGreatDoor.bK Go.Proofs.YtllcccekodcdmaaGreatDoor.Fl
structure l7 (w:World):Prop where
 ft:oQ w
 db:w.cell? ⟨12,15,none⟩=some (.int .u8 4)
 pr:Lib.PrintTabsAt 13 14 15 16 Lib.goPrintTabs w
 ut:Lib.Utf8Tabs 8 9 w
theorem l7.below {w w':World} (h:l7 w) (hb:Below w.heap.size w w'):l7 w' :=
 ⟨h.ft.below hb,(hb.cell (p:=⟨12,15,none⟩) (fA w _ h.db)).trans h.db,printTabs_below h.pr hb,Utf8Tabs_below h.ut hb⟩
def Dc (k:Int):List UInt8:=Lib.itoa k
def nU (k:Int):List UInt8:=Lib.decDigits k.toNat
def Bq (s:bG):List UInt8:=(strOfNums (Lib.quoteZ Lib.goPrintTabs s)).data.toList
def Sc.vK:Sc→Prop
 | .y k=>0≤k∧k<256| .n k=>-32768≤k∧k<32768| .q k=>0≤k∧k<65536| .i k=>-2147483648≤k∧k<2147483648
 | .u k=>0≤k∧k<4294967296| .x k=>-9223372036854775808≤k∧k<9223372036854775808| .t k=>0≤k∧k<18446744073709551616| .h k=>0≤k∧k<4294967296
 | .b _=>True| .d k=>k<18446744073709551616| .s v=>v.size≤1000000| .o v=>v.size≤1000000| .g v=>v.size≤1000000
def Sc.oW:Sc→List UInt8×Bool
 | .y k=>([48,120]++(jO k.toNat).data.toList,false)| .n k=>(Dc k,false)| .q k=>(nU k,false)| .i k=>(Dc k,true)
 | .u k=>(nU k,false)| .x k=>(Dc k,false)| .t k=>(nU k,false)| .h k=>(nU k,false)
 | .b v=>((uq v).data.toList,true)| .d k=>((Bz k).data.toList,false)| .s v=>(Bq v,true)| .o v=>(Bq v,false)| .g v=>(Bq v,false)
theorem below_grow (w:World) (k:Nat) (os:Array Obj):Below w.heap.size w (Go.Sort.grow (w.drewN k) os):=by
 refine⟨rfl,rfl,rfl,?_,fun i hi=>?_⟩
 ·show w.heap.size≤(w.heap++os).size
  simp
 ·show(w.heap++os)[i]?=w.heap[i]?
  rw[Array.getElem?_append_left hi]
theorem C9 (n:Int) (h0:-9223372036854775808≤n) (h1:n<9223372036854775808) (w:World) (ft:oQ w) :
  fC 109 #[.int .i64 n,.int .i64 10] w (.string (bs (Dc n))) :=
 (strconv_FormatInt_10 n h0 (by omega) w ft.p10).mono (by rintro e w' ⟨rfl,k,os,rfl⟩;exact⟨rfl,below_grow w k os⟩)
theorem nC (n:Int) (h0:0≤n) (h1:n<18446744073709551616) (w:World) (ft:oQ w) :
  fC 58 #[.int .u64 n,.int .i64 10] w (.string (bs (nU n))):=by
 obtain⟨u,rfl⟩:∃u:Nat,n=u:=⟨n.toNat,by omega⟩
 have h:=KN u (by omega) w ft.p10
 have e:bs (nU (u:Int))=Ui u:=by unfold nU Ui bs;rw[show ((u:Int)).toNat=u by omega]
 rw[e]
 exact h
theorem quote (s:bG) (hs:s.size≤1000000) (w:World) (pt:l7 w):fC 76 #[.string s] w (.string (bs (Bq s))):=by
 have h:=strconv_Quote Lib.goPrintTabs s w (by omega) pt.pr pt.ut
 have e:bs (Bq s)=strOfNums (Lib.quoteZ Lib.goPrintTabs s):=o8 _
 rw[e]
 exact h
theorem Ud (x:Sc):(A.sc x).dN.ty.length≤1000000:=by show 1≤1000000;omega
theorem acX (k:Int) (h:Sc.vK (.n k)) (w:World) (ft:oQ w) :
  fC 75 #[.iface 83 (.int .i16 k)] w (.string (bs (Dc k))):=by
 obtain⟨h1,h2⟩:=h
 have hw:wrap64 k=k:=by unfold wrap64;omega
 have VO:=ah (fun W=>valueOf (.sc (.n k)) (Ud _) (.iface 83 (.int .i16 k)) (fun _=>True) W rfl)
 have IT:=ah (fun sg W=>(by have h9:=ahf k sg W;rwa [hw]at h9:fC 110 #[.agg #[.iface 83 (.int .i16 k),.string sg]] W (.int .i64 k)))
 have FT:=ah (fun W h=>C9 k (by omega) (by omega) W (ft.below h):∀W,Below w.heap.size w W→fC 109 #[.int .i64 k,.int .i64 10] W (.string (bs (Dc k))))
 clear hw ft
 go_enter func75,ntmps75
 go_wp2_with (first|(go_at_call 52;refine(VO.o _).mono ?_;rintro e w1 ⟨rfl,hb1⟩;have HB1:=aj.mk hb1;clear hb1)|(go_at_call 110;refine(IT.o _ _).mono ?_;rintro e w2 ⟨rfl,hb2⟩;have HB2:=aj.mk (HB1.o.trans (hb2.mono HB1.o.size));clear hb2)|(go_at_call 109;refine(FT.o _ HB2.o).mono ?_;rintro e w3 ⟨rfl,hb3⟩;have HB3:=aj.mk (HB2.o.trans (hb3.mono HB2.o.size));clear hb3))
 go_ret
 exact⟨rfl,HB3.o⟩
theorem acW (k:Int) (h:Sc.vK (.i k)) (w:World) (ft:oQ w) :
  fC 75 #[.iface 21 (.int .i32 k)] w (.string (bs (Dc k))):=by
 obtain⟨h1,h2⟩:=h
 have hw:wrap64 k=k:=by unfold wrap64;omega
 have VO:=ah (fun W=>valueOf (.sc (.i k)) (Ud _) (.iface 21 (.int .i32 k)) (fun _=>True) W rfl)
 have IT:=ah (fun sg W=>(by have h9:=ahe k sg W;rwa [hw]at h9:fC 110 #[.agg #[.iface 21 (.int .i32 k),.string sg]] W (.int .i64 k)))
 have FT:=ah (fun W h=>C9 k (by omega) (by omega) W (ft.below h):∀W,Below w.heap.size w W→fC 109 #[.int .i64 k,.int .i64 10] W (.string (bs (Dc k))))
 clear hw ft
 go_enter func75,ntmps75
 go_wp2_with (first|(go_at_call 52;refine(VO.o _).mono ?_;rintro e w1 ⟨rfl,hb1⟩;have HB1:=aj.mk hb1;clear hb1)|(go_at_call 110;refine(IT.o _ _).mono ?_;rintro e w2 ⟨rfl,hb2⟩;have HB2:=aj.mk (HB1.o.trans (hb2.mono HB1.o.size));clear hb2)|(go_at_call 109;refine(FT.o _ HB2.o).mono ?_;rintro e w3 ⟨rfl,hb3⟩;have HB3:=aj.mk (HB2.o.trans (hb3.mono HB2.o.size));clear hb3))
 go_ret
 exact⟨rfl,HB3.o⟩
theorem ac1 (k:Int) (h:Sc.vK (.x k)) (w:World) (ft:oQ w) :
  fC 75 #[.iface 2 (.int .i64 k)] w (.string (bs (Dc k))):=by
 obtain⟨h1,h2⟩:=h
 have hw:wrap64 k=k:=by unfold wrap64;omega
 have VO:=ah (fun W=>valueOf (.sc (.x k)) (Ud _) (.iface 2 (.int .i64 k)) (fun _=>True) W rfl)
 have IT:=ah (fun sg W=>(by have h9:=ahg k sg W;exact h9:fC 110 #[.agg #[.iface 2 (.int .i64 k),.string sg]] W (.int .i64 k)))
 have FT:=ah (fun W h=>C9 k (by omega) (by omega) W (ft.below h):∀W,Below w.heap.size w W→fC 109 #[.int .i64 k,.int .i64 10] W (.string (bs (Dc k))))
 clear hw ft
 go_enter func75,ntmps75
 go_wp2_with (first|(go_at_call 52;refine(VO.o _).mono ?_;rintro e w1 ⟨rfl,hb1⟩;have HB1:=aj.mk hb1;clear hb1)|(go_at_call 110;refine(IT.o _ _).mono ?_;rintro e w2 ⟨rfl,hb2⟩;have HB2:=aj.mk (HB1.o.trans (hb2.mono HB1.o.size));clear hb2)|(go_at_call 109;refine(FT.o _ HB2.o).mono ?_;rintro e w3 ⟨rfl,hb3⟩;have HB3:=aj.mk (HB2.o.trans (hb3.mono HB2.o.size));clear hb3))
 go_ret
 exact⟨rfl,HB3.o⟩
theorem acY (k:Int) (h:Sc.vK (.q k)) (w:World) (ft:oQ w) :
  fC 75 #[.iface 84 (.int .u16 k)] w (.string (bs (nU k))):=by
 obtain⟨h1,h2⟩:=h
 have hw:IntKind.u64.wrap k=k:=by rw[IntKind.wrap_u64];omega
 have VO:=ah (fun W=>valueOf (.sc (.q k)) (Ud _) (.iface 84 (.int .u16 k)) (fun _=>True) W rfl)
 have IT:=ah (fun sg W=>(by have h9:=adl k sg W;rwa [hw]at h9:fC 111 #[.agg #[.iface 84 (.int .u16 k),.string sg]] W (.int .u64 k)))
 have FT:=ah (fun W h=>nC k (by omega) (by omega) W (ft.below h):∀W,Below w.heap.size w W→fC 58 #[.int .u64 k,.int .i64 10] W (.string (bs (nU k))))
 clear hw ft
 go_enter func75,ntmps75
 go_wp2_with (first|(go_at_call 52;refine(VO.o _).mono ?_;rintro e w1 ⟨rfl,hb1⟩;have HB1:=aj.mk hb1;clear hb1)|(go_at_call 111;refine(IT.o _ _).mono ?_;rintro e w2 ⟨rfl,hb2⟩;have HB2:=aj.mk (HB1.o.trans (hb2.mono HB1.o.size));clear hb2)|(go_at_call 58;refine(FT.o _ HB2.o).mono ?_;rintro e w3 ⟨rfl,hb3⟩;have HB3:=aj.mk (HB2.o.trans (hb3.mono HB2.o.size));clear hb3))
 go_ret
 exact⟨rfl,HB3.o⟩
theorem ac0 (k:Int) (h:Sc.vK (.u k)) (w:World) (ft:oQ w) :
  fC 75 #[.iface 22 (.int .u32 k)] w (.string (bs (nU k))):=by
 obtain⟨h1,h2⟩:=h
 have hw:IntKind.u64.wrap k=k:=by rw[IntKind.wrap_u64];omega
 have VO:=ah (fun W=>valueOf (.sc (.u k)) (Ud _) (.iface 22 (.int .u32 k)) (fun _=>True) W rfl)
 have IT:=ah (fun sg W=>(by have h9:=ado k sg W;rwa [hw]at h9:fC 111 #[.agg #[.iface 22 (.int .u32 k),.string sg]] W (.int .u64 k)))
 have FT:=ah (fun W h=>nC k (by omega) (by omega) W (ft.below h):∀W,Below w.heap.size w W→fC 58 #[.int .u64 k,.int .i64 10] W (.string (bs (nU k))))
 clear hw ft
 go_enter func75,ntmps75
 go_wp2_with (first|(go_at_call 52;refine(VO.o _).mono ?_;rintro e w1 ⟨rfl,hb1⟩;have HB1:=aj.mk hb1;clear hb1)|(go_at_call 111;refine(IT.o _ _).mono ?_;rintro e w2 ⟨rfl,hb2⟩;have HB2:=aj.mk (HB1.o.trans (hb2.mono HB1.o.size));clear hb2)|(go_at_call 58;refine(FT.o _ HB2.o).mono ?_;rintro e w3 ⟨rfl,hb3⟩;have HB3:=aj.mk (HB2.o.trans (hb3.mono HB2.o.size));clear hb3))
 go_ret
 exact⟨rfl,HB3.o⟩
theorem acZ (k:Int) (h:Sc.vK (.t k)) (w:World) (ft:oQ w) :
  fC 75 #[.iface 30 (.int .u64 k)] w (.string (bs (nU k))):=by
 obtain⟨h1,h2⟩:=h
 have hw:IntKind.u64.wrap k=k:=by rw[IntKind.wrap_u64];omega
 have VO:=ah (fun W=>valueOf (.sc (.t k)) (Ud _) (.iface 30 (.int .u64 k)) (fun _=>True) W rfl)
 have IT:=ah (fun sg W=>(by have h9:=adn k sg W;exact h9:fC 111 #[.agg #[.iface 30 (.int .u64 k),.string sg]] W (.int .u64 k)))
 have FT:=ah (fun W h=>nC k (by omega) (by omega) W (ft.below h):∀W,Below w.heap.size w W→fC 58 #[.int .u64 k,.int .i64 10] W (.string (bs (nU k))))
 clear hw ft
 go_enter func75,ntmps75
 go_wp2_with (first|(go_at_call 52;refine(VO.o _).mono ?_;rintro e w1 ⟨rfl,hb1⟩;have HB1:=aj.mk hb1;clear hb1)|(go_at_call 111;refine(IT.o _ _).mono ?_;rintro e w2 ⟨rfl,hb2⟩;have HB2:=aj.mk (HB1.o.trans (hb2.mono HB1.o.size));clear hb2)|(go_at_call 58;refine(FT.o _ HB2.o).mono ?_;rintro e w3 ⟨rfl,hb3⟩;have HB3:=aj.mk (HB2.o.trans (hb3.mono HB2.o.size));clear hb3))
 go_ret
 exact⟨rfl,HB3.o⟩
theorem acV (k:Int) (h:Sc.vK (.h k)) (w:World) (ft:oQ w) :
  fC 75 #[.iface 88 (.int .u32 k)] w (.string (bs (nU k))):=by
 obtain⟨h1,h2⟩:=h
 have hw:IntKind.u64.wrap k=k:=by rw[IntKind.wrap_u64];omega
 have VO:=ah (fun W=>valueOf (.sc (.h k)) (Ud _) (.iface 88 (.int .u32 k)) (fun _=>True) W rfl)
 have IT:=ah (fun sg W=>(by have h9:=adk k sg W;rwa [hw]at h9:fC 111 #[.agg #[.iface 88 (.int .u32 k),.string sg]] W (.int .u64 k)))
 have FT:=ah (fun W h=>nC k (by omega) (by omega) W (ft.below h):∀W,Below w.heap.size w W→fC 58 #[.int .u64 k,.int .i64 10] W (.string (bs (nU k))))
 clear hw ft
 go_enter func75,ntmps75
 go_wp2_with (first|(go_at_call 52;refine(VO.o _).mono ?_;rintro e w1 ⟨rfl,hb1⟩;have HB1:=aj.mk hb1;clear hb1)|(go_at_call 111;refine(IT.o _ _).mono ?_;rintro e w2 ⟨rfl,hb2⟩;have HB2:=aj.mk (HB1.o.trans (hb2.mono HB1.o.size));clear hb2)|(go_at_call 58;refine(FT.o _ HB2.o).mono ?_;rintro e w3 ⟨rfl,hb3⟩;have HB3:=aj.mk (HB2.o.trans (hb3.mono HB2.o.size));clear hb3))
 go_ret
 exact⟨rfl,HB3.o⟩
theorem kR (x:Sc) (h:x.vK) (hx:x.code=98∨x.code=110∨x.code=113∨x.code=105∨x.code=117∨x.code=120∨x.code=116∨x.code=104∨x.code=100) (w:World) (ft:oQ w) :
  fC 75 #[x.val] w (.string (bs x.oW.1)):=by
 cases x with
 |y k=>simp[Sc.code]at hx
 |n k=>exact acX k h w ft
 |q k=>exact acY k h w ft
 |i k=>exact acW k h w ft
 |u k=>exact ac0 k h w ft
 |x k=>exact ac1 k h w ft
 |t k=>exact acZ k h w ft
 |h k=>exact acV k h w ft
 |b v=>refine gU (acT v w) ?_;exact⟨by show _=Ending.returned (.string (bs _));rw[show bs (Sc.b v).oW.1=uq v from o8 _],jc⟩
 |d k=>refine(acU k h w ft).mono ?_;rintro e w' ⟨rfl,hb⟩;exact⟨by rw[show bs (Sc.d k).oW.1=Bz k from o8 _],hb⟩
 |s v=>simp[Sc.code]at hx
 |o v=>simp[Sc.code]at hx
 |g v=>simp[Sc.code]at hx
theorem aa4 (k:Bool) (h:Sc.vK (.b k)) (w:World) (pt:l7 w) :
  fC 54 #[.agg #[.string (bs [98]),(Sc.b k).val]] w (.tuple #[.string (bs (Sc.b k).oW.1),.bool (Sc.b k).oW.2]):=by
 show Calls prog 54 #[.agg #[.string ⟨#[98]⟩,.iface 4 (.bool k)]] w _
 have SP:=ah (fun o=>kR (.b k) h (by simp[Sc.code]) (w.alloc o) (pt.ft.below (gG o)))
 show fC 54 _ w (.tuple #[.string (bs (Sc.b k).oW.1),.bool true])
 generalize (Sc.b k).oW.1=l at *
 clear h pt
 go_enter func54,ntmps54
 go_wp2_with (go_at_call 75;refine(SP.o _).mono ?_;rintro e w1 ⟨rfl,hb1⟩;have HB1:=aj.mk (((jM w).alloc bW _).trans (hb1.mono (by simp)));clear hb1)
 go_ret2
 exact⟨rfl,HB1.o⟩
theorem aa8 (k:Int) (h:Sc.vK (.i k)) (w:World) (pt:l7 w) :
  fC 54 #[.agg #[.string (bs [105]),(Sc.i k).val]] w (.tuple #[.string (bs (Sc.i k).oW.1),.bool (Sc.i k).oW.2]):=by
 show Calls prog 54 #[.agg #[.string ⟨#[105]⟩,.iface 21 (.int .i32 k)]] w _
 have SP:=ah (fun o=>kR (.i k) h (by simp[Sc.code]) (w.alloc o) (pt.ft.below (gG o)))
 show fC 54 _ w (.tuple #[.string (bs (Sc.i k).oW.1),.bool true])
 generalize (Sc.i k).oW.1=l at *
 clear h pt
 go_enter func54,ntmps54
 go_wp2_with (go_at_call 75;refine(SP.o _).mono ?_;rintro e w1 ⟨rfl,hb1⟩;have HB1:=aj.mk (((jM w).alloc bW _).trans (hb1.mono (by simp)));clear hb1)
 go_ret2
 exact⟨rfl,HB1.o⟩
theorem aa9 (k:Int) (h:Sc.vK (.n k)) (w:World) (pt:l7 w) :
  fC 54 #[.agg #[.string (bs [110]),(Sc.n k).val]] w (.tuple #[.string (bs (Sc.n k).oW.1),.bool (Sc.n k).oW.2]):=by
 show Calls prog 54 #[.agg #[.string ⟨#[110]⟩,.iface 83 (.int .i16 k)]] w _
 have SP:=ah (fun o=>kR (.n k) h (by simp[Sc.code]) (w.alloc o) (pt.ft.below (gG o)))
 show fC 54 _ w (.tuple #[.string (bs (Sc.n k).oW.1),.bool false])
 generalize (Sc.n k).oW.1=l at *
 clear h pt
 go_enter func54,ntmps54
 go_wp2_with (go_at_call 75;refine(SP.o _).mono ?_;rintro e w1 ⟨rfl,hb1⟩;have HB1:=aj.mk (((jM w).alloc bW _).trans (hb1.mono (by simp)));clear hb1)
 go_ret2
 exact⟨rfl,HB1.o⟩
theorem abd (k:Int) (h:Sc.vK (.q k)) (w:World) (pt:l7 w) :
  fC 54 #[.agg #[.string (bs [113]),(Sc.q k).val]] w (.tuple #[.string (bs (Sc.q k).oW.1),.bool (Sc.q k).oW.2]):=by
 show Calls prog 54 #[.agg #[.string ⟨#[113]⟩,.iface 84 (.int .u16 k)]] w _
 have SP:=ah (fun o=>kR (.q k) h (by simp[Sc.code]) (w.alloc o) (pt.ft.below (gG o)))
 show fC 54 _ w (.tuple #[.string (bs (Sc.q k).oW.1),.bool false])
 generalize (Sc.q k).oW.1=l at *
 clear h pt
 go_enter func54,ntmps54
 go_wp2_with (go_at_call 75;refine(SP.o _).mono ?_;rintro e w1 ⟨rfl,hb1⟩;have HB1:=aj.mk (((jM w).alloc bW _).trans (hb1.mono (by simp)));clear hb1)
 go_ret2
 exact⟨rfl,HB1.o⟩
theorem abg (k:Int) (h:Sc.vK (.u k)) (w:World) (pt:l7 w) :
  fC 54 #[.agg #[.string (bs [117]),(Sc.u k).val]] w (.tuple #[.string (bs (Sc.u k).oW.1),.bool (Sc.u k).oW.2]):=by
 show Calls prog 54 #[.agg #[.string ⟨#[117]⟩,.iface 22 (.int .u32 k)]] w _
 have SP:=ah (fun o=>kR (.u k) h (by simp[Sc.code]) (w.alloc o) (pt.ft.below (gG o)))
 show fC 54 _ w (.tuple #[.string (bs (Sc.u k).oW.1),.bool false])
 generalize (Sc.u k).oW.1=l at *
 clear h pt
 go_enter func54,ntmps54
 go_wp2_with (go_at_call 75;refine(SP.o _).mono ?_;rintro e w1 ⟨rfl,hb1⟩;have HB1:=aj.mk (((jM w).alloc bW _).trans (hb1.mono (by simp)));clear hb1)
 go_ret2
 exact⟨rfl,HB1.o⟩
theorem abh (k:Int) (h:Sc.vK (.x k)) (w:World) (pt:l7 w) :
  fC 54 #[.agg #[.string (bs [120]),(Sc.x k).val]] w (.tuple #[.string (bs (Sc.x k).oW.1),.bool (Sc.x k).oW.2]):=by
 show Calls prog 54 #[.agg #[.string ⟨#[120]⟩,.iface 2 (.int .i64 k)]] w _
 have SP:=ah (fun o=>kR (.x k) h (by simp[Sc.code]) (w.alloc o) (pt.ft.below (gG o)))
 show fC 54 _ w (.tuple #[.string (bs (Sc.x k).oW.1),.bool false])
 generalize (Sc.x k).oW.1=l at *
 clear h pt
 go_enter func54,ntmps54
 go_wp2_with (go_at_call 75;refine(SP.o _).mono ?_;rintro e w1 ⟨rfl,hb1⟩;have HB1:=aj.mk (((jM w).alloc bW _).trans (hb1.mono (by simp)));clear hb1)
 go_ret2
 exact⟨rfl,HB1.o⟩
theorem abf (k:Int) (h:Sc.vK (.t k)) (w:World) (pt:l7 w) :
  fC 54 #[.agg #[.string (bs [116]),(Sc.t k).val]] w (.tuple #[.string (bs (Sc.t k).oW.1),.bool (Sc.t k).oW.2]):=by
 show Calls prog 54 #[.agg #[.string ⟨#[116]⟩,.iface 30 (.int .u64 k)]] w _
 have SP:=ah (fun o=>kR (.t k) h (by simp[Sc.code]) (w.alloc o) (pt.ft.below (gG o)))
 show fC 54 _ w (.tuple #[.string (bs (Sc.t k).oW.1),.bool false])
 generalize (Sc.t k).oW.1=l at *
 clear h pt
 go_enter func54,ntmps54
 go_wp2_with (go_at_call 75;refine(SP.o _).mono ?_;rintro e w1 ⟨rfl,hb1⟩;have HB1:=aj.mk (((jM w).alloc bW _).trans (hb1.mono (by simp)));clear hb1)
 go_ret2
 exact⟨rfl,HB1.o⟩
theorem aa5 (k:Nat) (h:Sc.vK (.d k)) (w:World) (pt:l7 w) :
  fC 54 #[.agg #[.string (bs [100]),(Sc.d k).val]] w (.tuple #[.string (bs (Sc.d k).oW.1),.bool (Sc.d k).oW.2]):=by
 show Calls prog 54 #[.agg #[.string ⟨#[100]⟩,.iface 85 (.float .f64 k)]] w _
 have SP:=ah (fun o=>kR (.d k) h (by simp[Sc.code]) (w.alloc o) (pt.ft.below (gG o)))
 show fC 54 _ w (.tuple #[.string (bs (Sc.d k).oW.1),.bool false])
 generalize (Sc.d k).oW.1=l at *
 clear h pt
 go_enter func54,ntmps54
 go_wp2_with (go_at_call 75;refine(SP.o _).mono ?_;rintro e w1 ⟨rfl,hb1⟩;have HB1:=aj.mk (((jM w).alloc bW _).trans (hb1.mono (by simp)));clear hb1)
 go_ret2
 exact⟨rfl,HB1.o⟩
theorem aa7 (k:Int) (h:Sc.vK (.h k)) (w:World) (pt:l7 w) :
  fC 54 #[.agg #[.string (bs [104]),(Sc.h k).val]] w (.tuple #[.string (bs (Sc.h k).oW.1),.bool (Sc.h k).oW.2]):=by
 show Calls prog 54 #[.agg #[.string ⟨#[104]⟩,.iface 88 (.int .u32 k)]] w _
 have SP:=ah (fun o=>kR (.h k) h (by simp[Sc.code]) (w.alloc o) (pt.ft.below (gG o)))
 show fC 54 _ w (.tuple #[.string (bs (Sc.h k).oW.1),.bool false])
 generalize (Sc.h k).oW.1=l at *
 clear h pt
 go_enter func54,ntmps54
 go_wp2_with (go_at_call 75;refine(SP.o _).mono ?_;rintro e w1 ⟨rfl,hb1⟩;have HB1:=aj.mk (((jM w).alloc bW _).trans (hb1.mono (by simp)));clear hb1)
 go_ret2
 exact⟨rfl,HB1.o⟩
theorem abe (k:bG) (h:Sc.vK (.s k)) (w:World) (pt:l7 w) :
  fC 54 #[.agg #[.string (bs [115]),(Sc.s k).val]] w (.tuple #[.string (bs (Sc.s k).oW.1),.bool (Sc.s k).oW.2]):=by
 show fC 54 #[.agg #[.string ⟨#[115]⟩,.iface 9 (.string k)]] w (.tuple #[.string (bs (Bq k)),.bool true])
 have SP:=ah (fun o=>quote k h (w.alloc o) (pt.below (gG o)))
 have hfd:∀w,(Instr.field 68 (.agg #[.string k]) 0).run prog w=.ok (.string k) w:=fun _=>by kernel_rfl
 generalize Bq k=l at *
 clear h pt
 go_enter func54,ntmps54
 go_wp2_with (go_at_call 76;refine(SP.o _).mono ?_;rintro e w1 ⟨rfl,hb1⟩;have HB1:=aj.mk (((jM w).alloc bW _).trans (hb1.mono (by simp)));clear hb1)
 go_ret2
 exact⟨rfl,HB1.o⟩
theorem abb (k:bG) (h:Sc.vK (.o k)) (w:World) (pt:l7 w) :
  fC 54 #[.agg #[.string (bs [111]),(Sc.o k).val]] w (.tuple #[.string (bs (Sc.o k).oW.1),.bool (Sc.o k).oW.2]):=by
 show fC 54 #[.agg #[.string ⟨#[111]⟩,.iface 87 (.string k)]] w (.tuple #[.string (bs (Bq k)),.bool false])
 have SP:=ah (fun o=>quote k h (w.alloc o) (pt.below (gG o)))
 have hfd:∀w,(Instr.field 68 (.agg #[.string k]) 0).run prog w=.ok (.string k) w:=fun _=>by kernel_rfl
 generalize Bq k=l at *
 clear h pt
 go_enter func54,ntmps54
 go_wp2_with (go_at_call 76;refine(SP.o _).mono ?_;rintro e w1 ⟨rfl,hb1⟩;have HB1:=aj.mk (((jM w).alloc bW _).trans (hb1.mono (by simp)));clear hb1)
 go_ret2
 exact⟨rfl,HB1.o⟩
theorem aa6 (k:bG) (h:Sc.vK (.g k)) (w:World) (pt:l7 w) :
  fC 54 #[.agg #[.string (bs [103]),(Sc.g k).val]] w (.tuple #[.string (bs (Sc.g k).oW.1),.bool (Sc.g k).oW.2]):=by
 show fC 54 #[.agg #[.string ⟨#[103]⟩,.iface 68 (.agg #[.string k])]] w (.tuple #[.string (bs (Bq k)),.bool false])
 have SP:=ah (fun o=>quote k h (w.alloc o) (pt.below (gG o)))
 have hfd:∀w,(Instr.field 68 (.agg #[.string k]) 0).run prog w=.ok (.string k) w:=fun _=>by kernel_rfl
 generalize Bq k=l at *
 clear h pt
 go_enter func54,ntmps54
 go_wp2_with (go_at_call 76;refine(SP.o _).mono ?_;rintro e w1 ⟨rfl,hb1⟩;have HB1:=aj.mk (((jM w).alloc bW _).trans (hb1.mono (by simp)));clear hb1)
 go_ret2
 exact⟨rfl,HB1.o⟩
theorem abj (k:Int) (h:Sc.vK (.y k)) (w:World) (pt:l7 w) :
  fC 54 #[.agg #[.string (bs [121]),(Sc.y k).val]] w (.tuple #[.string (bs (Sc.y k).oW.1),.bool (Sc.y k).oW.2]):=by
 obtain⟨h1,h2⟩:=h
 obtain⟨n,rfl⟩:∃n:Nat,k=n:=⟨k.toNat,by omega⟩
 have e:bs (Sc.y (n:Int)).oW.1=⟨#[48,120]⟩++jO n:=by
  show bs ([48,120]++(jO ((n:Int)).toNat).data.toList)=_
  rw[show ((n:Int)).toNat=n by omega,←dh,o8];rfl
 rw[e]
 show fC 54 #[.agg #[.string ⟨#[121]⟩,.iface 5 (.int .u8 n)]] w (.tuple #[.string (⟨#[48,120]⟩++jO n),.bool false])
 have SP:=ah (fun o=>KO n (by omega) (w.alloc o) (pt.below (gG o)).db (Nat.lt_trans (by decide) (pt.ft.below (gG o)).big))
 have hwr:IntKind.u64.wrap (n:Int)=n:=by rw[IntKind.wrap_u64];omega
 have HS:=Gp n
 have H:=fun w=>oZ w ⟨#[48,120]⟩ (jO n) (by show 2+(jO n).size≤_;omega)
 generalize jO n=l at *
 clear e h1 h2 pt HS
 go_enter func54,ntmps54
 go_wp2_with (go_at_call 58;refine(SP.o _).mono ?_;rintro e w1 ⟨rfl,hb1⟩;have HB1:=aj.mk (((jM w).alloc bW _).trans (hb1.mono (by simp)));clear hb1)
 go_ret2
 exact⟨rfl,HB1.o⟩
theorem Yj (x:Sc) (h:x.vK) (w:World) (pt:l7 w) :
  fC 54 #[.agg #[.string (bs [x.code]),x.val]] w (.tuple #[.string (bs x.oW.1),.bool x.oW.2]):=by
 cases x with
 |y k=>exact abj k h w pt
 |n k=>exact aa9 k h w pt
 |q k=>exact abd k h w pt
 |i k=>exact aa8 k h w pt
 |u k=>exact abg k h w pt
 |x k=>exact abh k h w pt
 |t k=>exact abf k h w pt
 |h k=>exact aa7 k h w pt
 |b v=>exact aa4 v h w pt
 |d k=>exact aa5 k h w pt
 |s v=>exact abe v h w pt
 |o v=>exact abb v h w pt
 |g v=>exact aa6 v h w pt
def jm:List (List UInt8)→List UInt8
 |[]=>[]
 |[a]=>a
 |a::l=>a++[44,32]++jm l
def wR:List (List UInt8)→List UInt8
 |[]=>[]
 |[a]=>a++[44]
 |a::l=>a++[44]++[32]++wR l
def tH (k v:List UInt8×Bool):List UInt8:=k.1++[58,32]++v.1
def qo (l:List (List UInt8)):List (List UInt8):=l.mergeSort fun x y=>decide (x≤y)
mutual
def A.fmt:A→List UInt8×Bool
 | .sc x=>x.oW
 | .var t a=>if a.fmt.2 then([60]++a.fmt.1++[62],true)else([60,64]++t.sig++[32]++a.fmt.1++[62],true)
 | .jJ l=>if l.isEmpty then([40,41],false)else([40]++wR ((A.eG l).map Prod.fst)++[41],(A.eG l).all Prod.snd)
 | .list t l=>if l.isEmpty then([91,93],false)else([91]++jm ((A.eG l).map Prod.fst)++[93],(A.eG l).all Prod.snd)
 | .dict k t ks vs=>if ks.isEmpty then([123,125],false)else([123]++jm (qo (List.zipWith tH (A.eG ks) (A.eG vs)))++[125],(A.eG ks).all Prod.snd&&(A.eG vs).all Prod.snd)
def A.eG:List A→List (List UInt8×Bool)
 |[]=>[]
 |a::l=>a.fmt::A.eG l
end
theorem A.kC:∀l:List A,(A.eG l).length=l.length
 |[]=>rfl
 |a::l=>by simp[A.eG,A.kC l]
theorem A.ru:∀(l:List A) (i:Nat) (h:i<l.length) (h':i<(A.eG l).length),(A.eG l)[i]=l[i].fmt
 |a::l,0,h,h'=>rfl
 |a::l,i+1,h,h'=>by simp only[A.eG,List.getElem_cons_succ];exact A.ru l i (by simpa using h) _
def Sc.tl:Sc→Nat
 | .s v=>10*v.size+2| .o v=>10*v.size+2| .g v=>10*v.size+2| _=>64
mutual
def A.tl:A→Nat
 | .sc x=>x.tl
 | .var t a=>a.tl+t.sig.length+5
 | .jJ l=>A.Iz l+2
 | .list _ l=>A.Iz l+2
 | .dict _ _ ks vs=>A.Iz ks+A.Iz vs+2
def A.Iz:List A→Nat
 |[]=>0
 |a::l=>a.tl+2+A.Iz l
end
mutual
def A.wQ:A→Prop
 | .sc x=>x.vK
 | .var t a=>t=a.dN∧a.dN.f_∧a.wQ
 | .jJ l=>l.length≤1000000∧(∀e∈l,e.dN.f_)∧A.Gl l
 | .list t l=>l.length≤1000000∧(∀e∈l,e.dN=t)∧t.f_∧A.Gl l
 | .dict k t ks es=>ks.length=es.length∧ks.length≤1000000∧(∃xs:List Sc,ks=xs.map A.sc∧xs.Nodup∧∀x∈xs,x.isKey∧x.code=k)∧(∀e∈es,e.dN=t)∧t.f_∧kJ k∧A.Gl ks∧A.Gl es
def A.Gl:List A→Prop
 |[]=>True
 |a::l=>a.wQ∧A.Gl l
end
theorem A.oH:∀(l:List A),A.Gl l→∀(i:Nat) (h:i<l.length),l[i].wQ
 |[],_,i,h=>by simp at h
 |a::l,hw,0,h=>hw.1
 |a::l,hw,i+1,h=>A.oH l hw.2 i (by simpa using h)
theorem A.EL:∀(l:List A) (i:Nat) (h:i<l.length),l[i].tl+2≤A.Iz l
 |a::l,0,h=>by simp only[A.Iz,List.getElem_cons_zero];omega
 |a::l,i+1,h=>by
  have:=A.EL l i (by simpa using h)
  simp only[List.getElem_cons_succ,A.Iz];omega
theorem zO (n:Nat) (h:n<18446744073709551616):(Lib.decDigits n).length≤21:=by
 rw[Lib.decDigits_length]
 by_cases h0:n=0
 ·subst h0;unfold Lib.nDigits;rw[dif_pos (by decide)];decide
 ·have:=ai8 n (by omega) h;omega
theorem aao (s:bG):s.data.toList.length=s.size:=by rw[Array.length_toList];rfl
theorem Sc.agw (x:Sc) (h:x.vK):x.oW.1.length≤x.tl:=by
 have hi:∀k:Int,-9223372036854775808≤k→k<9223372036854775808→(Dc k).length≤64:=fun k h0 h1=>by
  have:=Lib.itoa_length_le k h0 (by omega)
  unfold Dc;omega
 have hu:∀k:Int,0≤k→k<18446744073709551616→(nU k).length≤64:=fun k h0 h1=>by
  have:=zO k.toNat (by omega)
  unfold nU;omega
 have hq:∀s:bG,(Bq s).length≤10*s.size+2:=fun s=>by
  unfold Bq
  rw[strOfNums_data,List.length_map]
  exact Lib.quoteZ_length_le _ _
 cases x with
 |y k=>have:=Gp k.toNat;show([48,120]++(jO k.toNat).data.toList).length≤64;rw[dY,aao];show 2+_≤64;omega
 |n k=>exact hi k (by have:=h.1;omega) (by have:=h.2;omega)
 |q k=>exact hu k h.1 (by have:=h.2;omega)
 |i k=>exact hi k (by have:=h.1;omega) (by have:=h.2;omega)
 |u k=>exact hu k h.1 (by have:=h.2;omega)
 |x k=>exact hi k h.1 h.2
 |t k=>exact hu k h.1 h.2
 |h k=>exact hu k h.1 (by have:=h.2;omega)
 |b v=>cases v<;>decide
 |d k=>have:=YS k h;show(Bz k).data.toList.length≤64;rw[aao];exact this
 |s v=>exact hq v
 |o v=>exact hq v
 |g v=>exact hq v
def ll:List (List UInt8)→Nat
 |[]=>0
 |a::l=>a.length+2+ll l
theorem qN:∀l:List (List UInt8),(jm l).length≤ll l
 |[]=>bW
 |[a]=>by simp[jm,ll]
 |a::b::l=>by
  have:=qN (b::l)
  simp only[jm,ll,dY,d_,kW]at *
  omega
theorem Df:∀l:List (List UInt8),(wR l).length≤ll l
 |[]=>bW
 |[a]=>by simp[wR,ll]
 |a::b::l=>by
  have:=Df (b::l)
  simp only[wR,ll,dY,d_,kW]at *
  omega
theorem WY {x y:List (List UInt8)} (h:x.Perm y):ll x=ll y:=by
 induction h with
 |nil=>rfl
 |cons a h ih=>simp only[ll,ih]
 |swap a b l=>simp only[ll];omega
 |trans h1 h2 i1 i2=>rw[i1,i2]
theorem Tn:∀x y:List (List UInt8×Bool),ll (List.zipWith tH x y)≤ll (x.map Prod.fst)+ll (y.map Prod.fst)
 |[],y=>by simp[ll]
 |a::x,[]=>by simp[ll]
 |a::x,b::y=>by
  have:=Tn x y
  simp only[List.zipWith_cons_cons,List.map_cons,ll,tH,dY,d_,kW]at *
  omega
mutual
theorem A.xJ:∀(a:A),a.wQ→a.fmt.1.length≤a.tl
 | .sc x,h=>x.agw h
 | .var t a,h=>by
   have:=A.xJ a h.2.2
   simp only[A.fmt,A.tl]
   split
   ·simp only[dY,d_,kW];omega
   ·simp only[dY,d_,kW];omega
 | .jJ l,h=>by
   have h1:=A.qJ l h.2.2
   have h2:=Df ((A.eG l).map Prod.fst)
   simp only[A.fmt,A.tl]
   split
   ·simp
   ·simp only[dY,d_,kW];omega
 | .list t l,h=>by
   have h1:=A.qJ l h.2.2.2
   have h2:=qN ((A.eG l).map Prod.fst)
   simp only[A.fmt,A.tl]
   split
   ·simp
   ·simp only[dY,d_,kW];omega
 | .dict k t ks es,h=>by
   have h1:=A.qJ ks h.2.2.2.2.2.2.1
   have h2:=A.qJ es h.2.2.2.2.2.2.2
   have h3:=Tn (A.eG ks) (A.eG es)
   have h4:=qN (qo (List.zipWith tH (A.eG ks) (A.eG es)))
   have h5:=WY (List.mergeSort_perm (List.zipWith tH (A.eG ks) (A.eG es)) fun x y=>decide (x≤y))
   simp only[A.fmt,A.tl]
   unfold qo at *
   split
   ·simp
   ·simp only[dY,d_,kW];omega
theorem A.qJ:∀(l:List A),A.Gl l→ll ((A.eG l).map Prod.fst)≤A.Iz l
 |[],_=>bW
 |a::l,h=>by
  have h1:=A.xJ a h.1
  have h2:=A.qJ l h.2
  simp only[A.eG,List.map_cons,ll,A.Iz];omega
end
def og (a:A):Prop:=∀(ok:Nat→Prop) (v:Value) (w:World),HA w ok a v→l7 w →
 fC 54 #[.agg #[.string (bs a.dN.sig),v]] w (.tuple #[.string (bs a.fmt.1),.bool a.fmt.2])
theorem aa3 (x:Sc) (h:x.vK):og (.sc x):=fun ok v w hv pt=>by
 rw[show v=x.val from hv]
 exact Yj x h w pt
theorem aeF (t:T) (a:A) (h:(A.var t a).wQ) (hl:(A.var t a).tl≤10000000) (ih:og a):og (.var t a):=by
 intro ok v w hv pt
 obtain⟨u,rfl,ha⟩:=hv
 obtain⟨rfl,-,hfa⟩:=h
 obtain⟨t',u',rfl⟩:=ha.iface
 have hlen:=A.xJ a hfa
 simp only[A.tl]at hl
 have IH:=ah (fun o=>ih ok _ (w.alloc o) (ha.below (gG o)) (pt.below (gG o)))
 have hs:(bs a.dN.sig).size≤10000000:=by rw[aH];omega
 have hf:(bs a.fmt.1).size≤10000000:=by rw[aH];omega
 have hf1:∀(s:bG) (x:Value) (w:World),(Instr.field 70 (.agg #[.string s,x]) 0).run prog w=.ok (.agg #[.string s]) w:=fun _ _ _=>by kernel_rfl
 have hf2:∀(s:bG) (w:World),(Instr.field 68 (.agg #[.string s]) 0).run prog w=.ok (.string s) w:=fun _ _=>by kernel_rfl
 have e1:bs (A.var a.dN a).fmt.1=if a.fmt.2 then(⟨#[60]⟩++bs a.fmt.1:bG)++⟨#[62]⟩else((((⟨#[60,64]⟩++bs a.dN.sig:bG)++⟨#[32]⟩)++bs a.fmt.1)++⟨#[62]⟩):=by
  simp only[A.fmt]
  split
  ·rw[←dh,←dh];rfl
  ·rw[←dh,←dh,←dh,←dh];rfl
 have e2:(A.var a.dN a).fmt.2=true:=by simp only[A.fmt];split<;>rfl
 rw[e1,e2]
 show Calls prog 54 #[.agg #[.string ⟨#[118]⟩,_]] w _
 generalize bs a.fmt.1=F at *
 generalize bs a.dN.sig=S at *
 generalize a.fmt.2=B at *
 clear e1 e2 hlen hl hfa ha pt ih
 have H1:=fun w=>oZ w ⟨#[60,64]⟩ S (by show 2+_≤_;omega)
 have H2:=fun w=>oZ w (⟨#[60,64]⟩++S) ⟨#[32]⟩ (by rw[gK];show 2+_+1≤_;omega)
 have H3:=fun w=>oZ w ((⟨#[60,64]⟩++S)++⟨#[32]⟩) F (by rw[gK,gK];show 2+_+1+_≤_;omega)
 have H4:=fun w=>oZ w (((⟨#[60,64]⟩++S)++⟨#[32]⟩)++F) ⟨#[62]⟩ (by rw[gK,gK,gK];show 2+_+1+_+1≤_;omega)
 have H5:=fun w=>oZ w ⟨#[60]⟩ F (by show 1+_≤_;omega)
 have H6:=fun w=>oZ w (⟨#[60]⟩++F) ⟨#[62]⟩ (by rw[gK];show 1+_+1≤_;omega)
 cases B
 ·rw[if_neg (by decide)]
  go_enter func54,ntmps54
  go_wp2_with (go_at_call 54;refine(IH.o _).mono ?_;rintro e w1 ⟨rfl,hb1⟩;have ⟨hB,kr,hlt⟩:=dP hb1;have k4:w1.cell? ⟨w.heap.size,0,none⟩=some (.string ⟨#[118]⟩):=au kr 0 rfl;have k5:=au kr 1 (v:=.iface 70 (.agg #[.string S,.iface t' u'])) rfl;have HB1:=aj.mk hB;clear hb1 kr hlt hB)
  go_ret2
  exact⟨rfl,HB1.o⟩
 ·rw[if_pos rfl]
  go_enter func54,ntmps54
  go_wp2_with (go_at_call 54;refine(IH.o _).mono ?_;rintro e w1 ⟨rfl,hb1⟩;have ⟨hB,kr,hlt⟩:=dP hb1;have HB1:=aj.mk hB;clear hb1 kr hlt hB)
  go_ret2
  exact⟨rfl,HB1.o⟩
structure Bf (b:Nat) (l:List UInt8) (W0 w:World):Prop where
 buf:Lib.IsBuffer 151 5 b b (Lib.byteCells l) w
 eX:Below b W0 w
theorem Bf.old {b:Nat} {l:List UInt8} {W0 w w':World} (h:Bf b l W0 w) (hb:Below w.heap.size w w'):Bf b l W0 w' :=
 ⟨h.buf.old hb,h.eX.trans (hb.mono (Nat.le_of_lt h.buf.lt))⟩
theorem Bf.le {b:Nat} {l:List UInt8} {W0 w:World} (h:Bf b l W0 w):b≤w.heap.size:=Nat.le_of_lt h.buf.lt
theorem Bf.new (W:World):Bf W.heap.size [] W (W.alloc (.cells #[.slice none 0 0,.int .i64 0,.int .i8 0] 151)) :=
 ⟨Lib.fresh_isBuffer 151 5 W,gG _⟩
theorem Bf.keep {b:Nat} {l:List UInt8} {W0 w:World} (h:Bf b l W0 w) {k:Nat} {o:Obj} (hk:W0.heap[k]?=some o) (hlt:k<b):w.heap[k]?=some o:=(h.eX.block k hlt).trans hk
theorem Bf.ws {b:Nat} {l:List UInt8} {W0 w:World} (h:Bf b l W0 w) (s:bG) (hl:l.length+s.size≤100000000) :
  Calls prog 81 #[.pointer (some ⟨b,0,none⟩),.string s] w fun e w'=>e=.returned (.tuple #[.int .i64 s.size,.nilIface])∧Bf b (l++s.data.toList) W0 w' :=
 (Tryz.Buffer_WriteString_k b b _ s w h.buf h.le (Lib.byteCells_one _) (by rw[Lib.byteCells_length];omega)).mono (by
   rintro e w' ⟨rfl,h1,h2,_⟩
   exact⟨rfl,by rw[Lib.byteCells_append];exact h1,h.eX.trans h2⟩)
theorem Bf.wb {b:Nat} {l:List UInt8} {W0 w:World} (h:Bf b l W0 w) (c:UInt8) (hl:l.length≤100000000) :
  Calls prog 82 #[.pointer (some ⟨b,0,none⟩),.int .u8 (c.toNat:Nat)] w fun e w'=>e=.returned .nilIface∧Bf b (l++[c]) W0 w' :=
 (Tryz.Buffer_WriteByte_k b b _ (c.toNat:Nat) w h.buf h.le (Lib.byteCells_one _) (by rw[Lib.byteCells_length];omega)).mono (by
   rintro e w' ⟨rfl,h1,h2,_⟩
   exact⟨rfl,by rw[Lib.byteCells_append];exact h1,h.eX.trans h2⟩)
theorem Bf.str {b:Nat} {l:List UInt8} {W0 w:World} (h:Bf b l W0 w) :
  Calls prog 83 #[.pointer (some ⟨b,0,none⟩)] w fun e w'=>e=.returned (.string (bs l))∧∃n,w'=w.drewN n :=
 Tryz.Buffer_String b b l w h.buf
def wF (L:List (List UInt8)) (k:Nat):List UInt8:=if k=L.length then wR L else(L.take k).flatMap fun a=>a++[44]++[32]
theorem D7:∀(L:List (List UInt8)) (k:Nat) (h:k<L.length),k+1=L.length→wR L=((L.take k).flatMap fun a=>a++[44]++[32])++L[k]++[44]
 |[],k,h,_=>by simp at h
 |[a],0,h,_=>by simp[wR]
 |[a],k+1,h,e=>by simp at h
 |a::b::L,0,h,e=>by simp at e
 |a::b::L,k+1,h,e=>by
  have:=D7 (b::L) k (by simpa using h) (by simpa using e)
  simp only[wR,this,List.take_succ_cons,List.flatMap_cons,List.getElem_cons_succ,ni]
theorem YR (L:List (List UInt8)) (h:L≠[]):wF L 0=[]:=by
 unfold wF
 rw[if_neg (by intro e;exact h (List.eq_nil_of_length_eq_zero e.symm))]
 rfl
theorem YP (L:List (List UInt8)) (k:Nat) (h:k<L.length) (e:k+1=L.length):wF L k++L[k]++[44]=wF L (k+1):=by
 unfold wF
 rw[if_pos e,if_neg (by omega),D7 L k h e]
theorem YQ (L:List (List UInt8)) (k:Nat) (h:k<L.length) (e:k+1≠L.length):wF L k++L[k]++[44]++[32]=wF L (k+1):=by
 unfold wF
 rw[if_neg e,if_neg (by omega),lu h,List.flatMap_append]
 simp
def vC (L:List (List UInt8)) (k:Nat):List UInt8:=if k=L.length then jm L else(L.take k).flatMap fun a=>a++[44,32]
theorem D6:∀(L:List (List UInt8)) (k:Nat) (h:k<L.length),k+1=L.length→jm L=((L.take k).flatMap fun a=>a++[44,32])++L[k]
 |[],k,h,_=>by simp at h
 |[a],0,h,_=>by simp[jm]
 |[a],k+1,h,e=>by simp at h
 |a::b::L,0,h,e=>by simp at e
 |a::b::L,k+1,h,e=>by
  have:=D6 (b::L) k (by simpa using h) (by simpa using e)
  simp only[jm,this,List.take_succ_cons,List.flatMap_cons,List.getElem_cons_succ,ni]
theorem X6 (L:List (List UInt8)) (h:L≠[]):vC L 0=[]:=by
 unfold vC
 rw[if_neg (by intro e;exact h (List.eq_nil_of_length_eq_zero e.symm))]
 rfl
theorem X4 (L:List (List UInt8)) (k:Nat) (h:k<L.length) (e:k+1=L.length):vC L k++L[k]=vC L (k+1):=by
 unfold vC
 rw[if_pos e,if_neg (by omega),D6 L k h e]
theorem X5 (L:List (List UInt8)) (k:Nat) (h:k<L.length) (e:k+1≠L.length):vC L k++L[k]++[44,32]=vC L (k+1):=by
 unfold vC
 rw[if_neg e,if_neg (by omega),lu h,List.flatMap_append]
 simp
theorem MJ:∀(L:List (List UInt8)) (k:Nat),((L.take k).flatMap fun a=>a++[44]++[32]).length≤ll L
 |[],k=>by simp[ll]
 |a::L,0=>by simp[ll]
 |a::L,k+1=>by
  have:=MJ L k
  simp only[List.take_succ_cons,List.flatMap_cons,dY,d_,kW,ll]at *
  omega
theorem acM (L:List (List UInt8)) (k:Nat):(wF L k).length≤ll L:=by
 unfold wF;split
 ·exact Df L
 ·exact MJ L k
theorem aaE (L:List (List UInt8)) (k:Nat):(vC L k).length≤ll L:=by
 unfold vC;split
 ·exact qN L
 ·have:=MJ L k
  simpa using this
theorem Gy:∀(L:List (List UInt8)) (k:Nat) (h:k<L.length),L[k].length+2≤ll L
 |a::L,0,h=>by simp only[ll,List.getElem_cons_zero];omega
 |a::L,k+1,h=>by
  have:=Gy L k (by simpa using h)
  simp only[List.getElem_cons_succ,ll];omega
theorem all_succ (L:List (List UInt8×Bool)) (k:Nat) (h:k<L.length):(L.take (k+1)).all Prod.snd=((L.take k).all Prod.snd&&L[k].2):=by
 rw[lu h,List.all_append];simp
theorem ix0 (c:UInt8) (l:List UInt8) (w:World):(Instr.index 9 (.string (bs (c::l))) (.int .i64 0)).run prog w=.ok (.int .u8 (c.toNat:Nat)) w:=by
 have h0:0<(bs (c::l)).size:=by rw[aH];simp
 rw[run_index_string (P:=prog) (w:=w) 9 (bs (c::l)) .i64 0 underlying9]
 have hI:(0:Int)≤0∧(0:Int)<((bs (c::l)).size:Int):=by omega
 have e:((bs (c::l))[(0:Nat)]'h0).toNat=c.toNat:=congrArg UInt8.toNat (CS (c::l) 0 h0 (by simp))
 simp[h0,e]
theorem aa2 (l:List A) (hg:(A.jJ l).dN.f_) (h:(A.jJ l).wQ) (hl:(A.jJ l).tl≤10000000) (hne:l≠[]) (ih:∀(i:Nat) (h:i<l.length),og l[i]):og (.jJ l):=by
 intro ok v w hv pt
 obtain⟨s,vs,rfl,hr,hls⟩:=id hv
 obtain⟨hlm,hgood,hfo⟩:=h
 have hlen:=hls.len
 obtain⟨A0,c,rfl,hc,hcm,hrow⟩:=hr.cell
 have hn1:0<l.length:=List.length_pos_iff.2 hne
 obtain⟨g,rfl,hcell⟩:=hrow (by omega)
 have hLl:((A.eG l).map Prod.fst).length=l.length:=by rw[List.length_map,A.kC]
 have hll:=A.qJ l hfo
 simp only[A.tl]at hl
 obtain⟨L,hL⟩:∃L,(A.eG l).map Prod.fst=L:=⟨_,rfl⟩
 rw[hL]at hLl hll
 have e1:(A.jJ l).fmt.1=[40]++wR L++[41]:=by simp only[A.fmt];rw[if_neg (by simpa using hne),hL]
 have e2:(A.jJ l).fmt.2=(A.eG l).all Prod.snd:=by simp only[A.fmt];rw[if_neg (by simpa using hne)]
 have eL:∀k (h:k<l.length) (h':k<L.length),L[k]=(l[k]).fmt.1:=fun k h h'=>by subst hL;rw[List.getElem_map,A.ru l k h]
 have eB:∀k (h:k<l.length) (h':k<(A.eG l).length),((A.eG l)[k]).2=(l[k]).fmt.2:=fun k h h'=>by rw[A.ru l k h]
 rw[e1,e2]
 have hsig:(A.jJ l).dN.sig=40::(T.sigs (A.iZ l)++[41]):=rfl
 have hty:(A.jJ l).dN.ty=40::(T.nI (A.iZ l)++[41]):=rfl
 have hgt:(A.jJ l).dN.ty.length≤1000000:=hg.2.2.2
 have VO:=ah (fun W h=>valueOf (A.jJ l) hgt _ ok W h:∀W,HA W ok (A.jJ l) (.iface 91 (.agg #[.slice (some ⟨g,0,none⟩) vs.length c]))→_)
 rw[hty]at VO
 rw[hsig]
 obtain⟨R,hR⟩:∃R,T.nI (A.iZ l)++[41]=R:=⟨_,rfl⟩
 rw[hR]at VO
 obtain⟨R',hR'⟩:∃R',T.sigs (A.iZ l)++[41]=R':=⟨_,rfl⟩
 rw[hR']
 obtain⟨n,hn⟩:∃n,vs.length=n:=⟨_,rfl⟩
 rw[hn]at VO hv hc ⊢
 have hn0:0<n:=by omega
 have hix:∀w,(Instr.index 9 (.string (bs (40::R'))) (.int .i64 0)).run prog w=.ok (.int .u8 40) w:=fun w=>ix0 40 R' w
 have HV:=ah hv
 have PT:=ah pt
 have N8:=ah hcell
 have HLS:=ah hls
 clear e1 e2 hsig hty hR hR' hv hls hcell hr pt hcm hrow hg hgt hL
 have Ed:=ah (by omega:ll L≤10000000)
 have HL:=ah (⟨hLl,eL,eB,ih,hgood,hfo,hlen⟩:(L.length=l.length)∧(∀k (h:k<l.length) (h':k<L.length),L[k]=(l[k]).fmt.1)∧(∀k (h:k<l.length) (h':k<(A.eG l).length),((A.eG l)[k]).2=(l[k]).fmt.2)∧(∀(i:Nat) (h:i<l.length),og l[i])∧(∀e∈l,e.dN.f_)∧A.Gl l∧vs.length=l.length)
 have HN:=ah (by omega:l.length=n)
 have hnm:n≤1000000:=by omega
 clear hLl eL eB ih hgood hfo hlen hn hlm hne hll hl
 have hnz:((n:Int)==0)=false:=by simp;omega
 go_enter func54,ntmps54
 go_wp2_with (first
  |(go_at_call 52;refine(VO.o _ (HV.o.below (gG _))).mono ?_;rintro e w1 ⟨rfl,hb1⟩;have ⟨hB,kr,hlt⟩:=dP hb1;have HB1:=aj.mk hB;clear hb1 kr hB)
  |(go_at_call 77;refine(lN _ _ 40 _ 18 rfl _).mono ?_;rintro e w2 ⟨rfl,hb2⟩;refine Hid.o ?_))
 refine ah ?_
 have hb2':Below (w1.alloc (.cells #[.iface 91 (.agg #[.slice (some ⟨g,0,none⟩) n c]),.string (bs (40::R))] 94)).heap.size (w1.alloc (.cells #[.iface 91 (.agg #[.slice (some ⟨g,0,none⟩) n c]),.string (bs (40::R))] 94)) w2:=hb2
 clear hb2
 obtain⟨hB2,yM,hlt2⟩:=dP hb2'
 have HB2:=ah (HB1.o.trans (hB2.mono HB1.o.size))
 have KR:=ah yM
 have c0:=au yM 0 (v:=.iface 91 (.agg #[.slice (some ⟨g,0,none⟩) n c])) rfl
 have c1:=au yM 1 (v:=.string (bs (40::R))) rfl
 clear hb2' hB2 yM HB1
 go_wp2_with (first
  |(go_at_call 88;refine(GH _ _ _ _ _).mono ?_;rintro e w3 ⟨rfl,hb3⟩;have KR:=ah ((hb3.block _ (lt_of_block KR.o)).trans KR.o);have c0:=au KR.o 0 (v:=.iface 91 (.agg #[.slice (some ⟨g,0,none⟩) n c])) rfl;have c1:=au KR.o 1 (v:=.string (bs (40::R))) rfl;have HB3:=ah (HB2.o.trans (hb3.mono HB2.o.size));clear hb3)
  |(go_at_call 82;refine((Bf.new _).wb 40 (by simp)).mono ?_;rintro e w4 ⟨rfl,bf4⟩;have BF:=ah bf4;clear bf4))
 have H6:w1.heap.size<w3.heap.size:=Nat.lt_of_lt_of_le (lt_of_block KR.o) bW
 have BW:=ah (fun x W h=>HB3.o.trans (h.eX.mono HB3.o.size):∀x W,Bf w3.heap.size x w3 W→Below w.heap.size w W)
 have BF0:=ah (show Bf w3.heap.size (40::wF L 0) w3 w4 by
  have h0:=YR L (fun e=>by have:=HL.o.1;rw[e,HN.o]at this;simp at this;omega)
  rw[h0];exact BF.o)
 clear c0 c1 BF hlt hlt2
 go_loopw [21,23] (fun b t wr=>∃k:Nat,k≤n∧t=.int .i64 k∧b=.bool (((A.eG l).take k).all Prod.snd)∧Bf w3.heap.size (40::wF L k) w3 wr) (fun _ t _=>n-(intOf t).toNat)
 case atStart=>exact⟨0,jf _,rfl,rfl,BF0.o⟩
 case round =>
  obtain⟨k,hkn,rfl,rfl,bf⟩:=hrel
  have BF:=ah bf
  clear bf
  have c0:=au (BF.o.keep KR.o H6) 0 (v:=.iface 91 (.agg #[.slice (some ⟨g,0,none⟩) n c])) rfl
  have c1:=au (BF.o.keep KR.o H6) 1 (v:=.string (bs (40::R))) rfl
  have hrl:=acM L k
  have aqK:=Ed.o
  by_cases hk:k<n
  ·have hkl:k<l.length:=by rw[HN.o];exact hk
   have Jp:k<L.length:=by rw[HL.o.1];exact hkl
   have SB:k<(A.eG l).length:=by rw[A.kC];exact hkl
   obtain⟨vk,hvk,BU⟩:=HLS.o.get k hkl
   obtain⟨tv,uv,rfl⟩:=BU.iface
   have CK:=ah (N8.o k _ hvk)
   have Qo:=ah BU
   have hgd:(l[k]).dN.f_:=HL.o.2.2.2.2.1 _ (nZ hkl)
   have hgk:(l[k]).dN.ty.length≤1000000:=hgd.2.2.2
   have Ef:=ah (HL.o.2.2.2.1 k hkl)
   have eLk:=HL.o.2.1 k hkl Jp
   have eBk:=HL.o.2.2.1 k hkl SB
   have hall:=all_succ (A.eG l) k SB
   rw[eBk]at hall
   have hge:=Gy L k Jp
   have hFs:(bs (l[k]).fmt.1).size=(L[k]).length:=by rw[aH,eLk]
   have HFS:=ah (show(bs (l[k]).fmt.1).data.toList=L[k] by rw[m_,eLk])
   have Ef:=ah (fun W h1 h2=>Ef.o ok (.iface tv uv) W h1 h2:∀W,HA W ok l[k] (.iface tv uv)→l7 W→fC 54 #[.agg #[.string (bs (l[k]).dN.sig),.iface tv uv]] W (.tuple #[.string (bs (l[k]).fmt.1),.bool (l[k]).fmt.2]))
   generalize bs (l[k]).fmt.1=F at *
   generalize (l[k]).fmt.2=G at *
   have hX:∃X,((A.eG l).take k).all Prod.snd=X:=⟨_,rfl⟩
   obtain⟨X,hX⟩:=hX
   rw[hX]at hall ⊢
   have yw:=ah hall
   clear hall BU hvk eLk eBk hX
   have hfl:F.data.toList.length=(L[k]).length:=by rw[HFS.o]
   have LA:=ah (show(40::wF L k).length+F.size≤100000000 by rw[hFs,d_];omega)
   have LB:=ah (show((40::wF L k)++F.data.toList).length+(⟨#[44]⟩:bG).size≤100000000 by rw[dY,hfl,d_];show _+1≤_;omega)
   have LC:=ah (show((40::wF L k)++F.data.toList++(⟨#[44]⟩:bG).data.toList).length+(⟨#[32]⟩:bG).size≤100000000 by rw[dY,dY,hfl,d_];show _+1+1≤_;omega)
   clear hfl hFs hge
   have Jo:(k:Int)<n:=by omega
   by_cases hlast:k+1=n
   have ht:((k:Int) != (n:Int)-1)=false:=by simp;omega
   have HQ:=ah (YP L k Jp (by rw[HL.o.1,HN.o];exact hlast))
   rotate_left
   have ht:((k:Int) != (n:Int)-1)=true:=by simp;omega
   have HQ:=ah (YQ L k Jp (by rw[HL.o.1,HN.o];exact hlast))
   all_goals
    clear hlast
    cases X
    all_goals
     go_wp2_with (first|((first|(go_at_call 88;(with_reducible refine(GH _ _ _ _ _).mono ?_))|(go_at_call 89;refine(U7 l[k] hgk ok (.iface tv uv) g n c k _ _ (Qo.o.below (BW.o _ _ BF.o)) hk (((BW.o _ _ BF.o).cell (fA w _ CK.o)).trans CK.o)).mono ?_)|(go_at_call 53;refine(AY tv uv _ _).mono ?_)|(go_at_call 30;refine(mkVar l[k] hgd (.iface tv uv) ok _ (Qo.o.below (BW.o _ _ BF.o))).mono ?_)|(go_at_call 54;refine(Ef.o _ (Qo.o.below (BW.o _ _ BF.o)) (PT.o.below (BW.o _ _ BF.o))).mono ?_));rintro e wn ⟨rfl,hbn⟩;have BF:=ah (BF.o.old hbn);have c0:=au (BF.o.keep KR.o H6) 0 (v:=.iface 91 (.agg #[.slice (some ⟨g,0,none⟩) n c])) rfl;have c1:=au (BF.o.keep KR.o H6) 1 (v:=.string (bs (40::R))) rfl;clear hbn)|(go_at_call 81;refine(BF.o.ws _ (by first|exact LA.o|exact LB.o|exact LC.o)).mono ?_;rintro e wn ⟨rfl,bfn⟩;have BF:=ah bfn;have c0:=au (BF.o.keep KR.o H6) 0 (v:=.iface 91 (.agg #[.slice (some ⟨g,0,none⟩) n c])) rfl;have c1:=au (BF.o.keep KR.o H6) 1 (v:=.string (bs (40::R))) rfl;clear bfn))
     all_goals
      go_roundw
      case rel =>
       refine⟨k+1,by omega,by go_num,by rw[yw.o];simp,?_⟩
       rw[←HQ.o,←HFS.o]
       exact BF.o
      case measure=>simp[intOf];omega
  ·have hke:n=k:=by omega
   subst hke
   have hLk:wF L n=wR L:=by unfold wF;rw[if_pos (by rw[HL.o.1,HN.o])]
   have hbt:((A.eG l).take n).all Prod.snd=(A.eG l).all Prod.snd:=by rw[kT (by rw[A.kC,HN.o];exact bW)]
   rw[hbt]
   have HLK:=ah hLk
   have LZ:=ah (show(40::wF L n).length≤100000000 by rw[d_];omega)
   clear hbt hLk
   go_wp2_with (first|(go_at_call 88;(with_reducible refine(GH _ _ _ _ _).mono ?_);rintro e wn ⟨rfl,hbn⟩;have BF:=ah (BF.o.old hbn);have c0:=au (BF.o.keep KR.o H6) 0 (v:=.iface 91 (.agg #[.slice (some ⟨g,0,none⟩) n c])) rfl;have c1:=au (BF.o.keep KR.o H6) 1 (v:=.string (bs (40::R))) rfl;clear hbn)|(go_at_call 82;refine(BF.o.wb 41 LZ.o).mono ?_;rintro e wn ⟨rfl,bfn⟩;have BF:=ah bfn;clear bfn)|(go_at_call 83;refine BF.o.str.mono ?_;rintro e wn ⟨rfl,nn,rfl⟩))
   go_ret2
   refine⟨?_,fJ (BW.o _ _ BF.o) _⟩
   rw[HLK.o]
   rfl
structure Bg (B b:Nat) (l:List UInt8) (W0 w:World):Prop where
 buf:Lib.IsBuffer 151 5 B b (Lib.byteCells l) w
 eX:Below B W0 w
theorem Bg.le {B b:Nat} {l:List UInt8} {W0 w:World} (h:Bg B b l W0 w):B≤w.heap.size:=Nat.le_of_lt (Nat.lt_of_le_of_lt h.buf.1 h.buf.lt)
theorem Bg.old {B b:Nat} {l:List UInt8} {W0 w w':World} (h:Bg B b l W0 w) (hb:Below w.heap.size w w'):Bg B b l W0 w' :=
 ⟨h.buf.old hb,h.eX.trans (hb.mono h.le)⟩
theorem Bg.ws {B b:Nat} {l:List UInt8} {W0 w:World} (h:Bg B b l W0 w) (s:bG) (hl:l.length+s.size≤100000000) :
  Calls prog 81 #[.pointer (some ⟨b,0,none⟩),.string s] w fun e w'=>e=.returned (.tuple #[.int .i64 s.size,.nilIface])∧Bg B b (l++s.data.toList) W0 w' :=
 (Tryz.Buffer_WriteString_k B b _ s w h.buf h.le (Lib.byteCells_one _) (by rw[Lib.byteCells_length];omega)).mono (by
   rintro e w' ⟨rfl,h1,h2,_⟩
   exact⟨rfl,by rw[Lib.byteCells_append];exact h1,h.eX.trans h2⟩)
theorem Bg.wb {B b:Nat} {l:List UInt8} {W0 w:World} (h:Bg B b l W0 w) (c:UInt8) (hl:l.length≤100000000) :
  Calls prog 82 #[.pointer (some ⟨b,0,none⟩),.int .u8 (c.toNat:Nat)] w fun e w'=>e=.returned .nilIface∧Bg B b (l++[c]) W0 w' :=
 (Tryz.Buffer_WriteByte_k B b _ (c.toNat:Nat) w h.buf h.le (Lib.byteCells_one _) (by rw[Lib.byteCells_length];omega)).mono (by
   rintro e w' ⟨rfl,h1,h2,_⟩
   exact⟨rfl,by rw[Lib.byteCells_append];exact h1,h.eX.trans h2⟩)
theorem Bg.str {B b:Nat} {l:List UInt8} {W0 w:World} (h:Bg B b l W0 w) :
  Calls prog 83 #[.pointer (some ⟨b,0,none⟩)] w fun e w'=>e=.returned (.string (bs l))∧∃n,w'=w.drewN n :=
 Tryz.Buffer_String B b l w h.buf
structure Bm (g:Nat) (c:UInt8) (W0 w:World):Prop where
 buf:w.heap[g+1]?=some (.cells #[.slice (some ⟨g,0,none⟩) 1 1,.int .i64 0,.int .i8 0] 151 (0,0))
 row:w.heap[g]?=some (.cells #[.int .u8 (c.toNat:Nat)] 5 (1,2))
 eX:Below g W0 w
theorem Bm.le {g:Nat} {c:UInt8} {W0 w:World} (h:Bm g c W0 w):g+1<w.heap.size:=lt_of_block h.buf
theorem Bm.old {g:Nat} {c:UInt8} {W0 w w':World} (h:Bm g c W0 w) (hb:Below w.heap.size w w'):Bm g c W0 w' :=
 ⟨(hb.block _ (lt_of_block h.buf)).trans h.buf,(hb.block _ (lt_of_block h.row)).trans h.row,h.eX.trans (hb.mono (by have:=h.le;omega))⟩
theorem ahW (W:World) (c:UInt8):(convert 65 65 (.slice (some ⟨W.heap.size,0,none⟩) 1 1)).run prog (W.alloc (.cells #[.int .u8 (c.toNat:Nat)] 5))=.ok (.slice (some ⟨W.heap.size,0,none⟩) 1 1) (W.alloc (.cells #[.int .u8 (c.toNat:Nat)] 5 (1,2))) :=
 Lib.run_convert_bytes_const (P:=prog) W 65 5 #[.int .u8 (c.toNat:Nat)] 1 1 underlying65 underlying5
theorem af4 (W:World) (c:UInt8) :
  Calls prog 79 #[.slice (some ⟨W.heap.size,0,none⟩) 1 1] (W.alloc (.cells #[.int .u8 (c.toNat:Nat)] 5 (1,2))) fun e w'=>e=.returned (.pointer (some ⟨W.heap.size+1,0,none⟩))∧Bm W.heap.size c W w':=by
 have HB:Bm W.heap.size c W ((W.alloc (.cells #[.int .u8 (c.toNat:Nat)] 5 (1,2))).alloc (.cells #[.slice (some ⟨W.heap.size,0,none⟩) 1 1,.int .i64 0,.int .i8 0] 151)) :=
  ⟨aV _ _ _ (by simp),aQ (aV W _ _ rfl) _,(gG _).alloc (by simp) _⟩
 have HB:=ah HB
 go_enter func79,ntmps79
 go_wp2
 go_ret
 exact⟨by simp,by simpa using HB.o⟩
theorem aqW {g:Nat} {c:UInt8} {W0 w:World} (h:Bm g c W0 w) :
  Calls prog 134 #[.pointer (some ⟨g+1,0,none⟩)] w fun e w'=>e=.returned (.int .i64 1)∧w'=w.drew:=by
 have c0:w.cell? ⟨g+1,0,none⟩=some (.slice (some ⟨g,0,none⟩) 1 1):=by rw[mM h.buf];rfl
 have c1:w.cell? ⟨g+1,1,none⟩=some (.int .i64 0):=by rw[mM h.buf];rfl
 have HB:=ah h
 clear h
 go_enter func134,ntmps134
 go_wp2
 go_region
 all_goals (go_wp2;go_ret;exact⟨by simp,rfl⟩)
theorem Si {g n:Nat} {v:Value} (w:World) (hg:w.heap[g]?=some (.cells #[v] 5 (1,2))) (hn:1≤n) (hlim:n≤100000000) (h1:v.oneCell'=true) :
  Calls prog 135 #[.slice (some ⟨g,0,none⟩) 1 1,.int .i64 n] w fun e w'=>∃cap2 cells,e=.returned (.slice (some ⟨w.heap.size,0,none⟩) 1 cap2)∧w'.heap[w.heap.size]?=some (.cells cells 5 (0,0)) ∧
   cells.size=cap2∧cells.toList.take 1=[v]∧1+n≤cap2∧cap2≤maxLen∧Below w.heap.size w w':=by
 obtain⟨i0,hi,hz0,hz1,hz2⟩:=info_parts uI.i5
 change prog.info? 5=some i0 at hi
 have hsz1:(prog.info? 5).map (·.size)=some 1:=by rw[hi];simp[hz1]
 have happ:=Lib.run_append_nil_zeros (P:=prog) w 65 3 65 5 i0 (.int .u8 0) .i64 .i64 underlying65 underlying3 hi hz0 (1+n) (by omega) (by omega) (by omega) (by rw[hz2];omega)
 rw[show (((1+n:Nat)):Int)=1+(n:Int) by omega]at happ
 generalize hcap:grownCap w (1+n) 0 5=cap2 at happ
 have hcapge:1+n≤cap2:=by rw[←hcap];exact grownCap_ge w _ 0 5
 have hcaple:cap2≤maxLen:=by rw[←hcap];exact grownCap_le_maxLen w _ 0 5 (by unfold maxLen;omega)
 generalize hZ:(Builtin.zeroCells (Value.int .u8 0).cells (1+n)++Builtin.zeroCells (Value.int .u8 0).cells (cap2-(1+n)))=Z at happ
 have hZs:Z.size=cap2:=by rw[←hZ];simp[size_zeroCells,Value.cells];omega
 clear hcap hZ
 have hgl:=Lib.lt_of_heap hg
 have hg1:(w.alloc (.cells Z 5)).drew.heap[g]?=some (.cells #[v] 5 (1,2)):=by show(w.alloc (.cells Z 5)).heap[g]?=_;rw[RowKit.Below.heap_alloc w _ g hgl];exact hg
 have hcopy:=run_copy_row (P:=prog) (w.alloc (.cells Z 5)).drew 65 65 3 5 w.heap.size 0 (1+n) cap2 ⟨g,0,none⟩ 1 1 Z 5 [v] underlying65 hsz1 (heap_alloc_new w _) (by show 1=Nat.min 1 (1+n);exact(Nat.min_eq_left (by omega)).symm) (Lib.cells_of_row hg1 1) (by show 0+1≤_;omega) (by simpa using h1)
 simp only[List.length_singleton]at hcopy
 generalize hY:(Z.toList.take 0++[v]++Z.toList.drop (0+1)).toArray=Y at hcopy
 go_enter_defers func135,ntmps135
 go_wp2_with (at_builtin;refine Lib.wpList_append_run _ rfl _ _ _ _ rfl _ _ rfl rfl _ _ happ ?_)
 refine leaves_cons (f:=157) (args:=#[]) (by simp) (enters_of func157 (by kernel_rfl) rfl _ _) ?_
 refine(growSlice_catch_idle _).mono ?_
 rintro e u' w'' ⟨rfl,rfl,rfl⟩
 refine⟨_,results_tmp rfl _ _ _,?_⟩
 have hYl:Y.toList=[v]++Z.toList.drop 1:=by rw[←hY];simp
 refine⟨cap2,Y,rfl,setRow_heap _ _ Z Y 5 (0,0) (heap_alloc_new w _),?_,?_,by omega,hcaple,?_⟩
 ·have:Y.toList.length=cap2:=by rw[hYl,dY,List.length_singleton,List.length_drop,Array.length_toList,hZs];omega
  simpa using this
 ·rw[hYl];rfl
 ·exact⟨rfl,rfl,rfl,by simp,fun k hk=>by rw[setRow_other _ _ _ _ (by omega)];exact kN w _ k hk⟩
theorem alS {g n:Nat} {c:UInt8} {W0 w:World} (h:Bm g c W0 w) (hn:1≤n) (hlim:n≤100000000) :
  Calls prog 115 #[.pointer (some ⟨g+1,0,none⟩),.int .i64 n] w fun e w'=>e=.returned (.int .i64 1)∧∃xs,xs.length=n∧Lib.IsBuffer 151 5 g (g+1) ([.int .u8 (c.toNat:Nat)]++xs) w'∧Below g w w':=by
 have hnil:∀W,(binOp .eql 65 (.slice (some ⟨g,0,none⟩) 1 1) (.slice none 0 0)).run prog W=.ok (.bool false) W:=fun W=>Lib.run_eql_slice_some_nil W _ _ _ underlying65
 have HM:=ah h
 go_enter func115,ntmps115
 go_wp2_with (go_at_call 134;refine(aqW HM.o).mono ?_)
 rintro e W1 ⟨rfl,hW1⟩
 have hbk0:W1.heap[g+1]?=some (.cells #[.slice (some ⟨g,0,none⟩) 1 1,.int .i64 0,.int .i8 0] 151 (0,0)):=by rw[hW1];exact h.buf
 have hg0:W1.heap[g]?=some (.cells #[.int .u8 (c.toNat:Nat)] 5 (1,2)):=by rw[hW1];exact h.row
 have c0:W1.cell? ⟨g+1,0,none⟩=some (.slice (some ⟨g,0,none⟩) 1 1):=by rw[mM hbk0];rfl
 have c1:W1.cell? ⟨g+1,1,none⟩=some (.int .i64 0):=by rw[mM hbk0];rfl
 have f0:W1.frozen? ⟨g+1,0,none⟩=false:=Lib.frozen_of_heap hbk0 0
 have f1:W1.frozen? ⟨g+1,1,none⟩=false:=Lib.frozen_of_heap hbk0 1
 have HW0:=ah hW1
 have BX:=ah hbk0
 have HG:=ah hg0
 have hbW:=Lib.lt_of_heap hbk0
 clear hW1 h hbk0 hg0
 have hwn:IntKind.i64.wrap (n:Int)=n:=by rw[IntKind.wrap_i64];omega
 go_wp2_with (go_at_call 114;refine(Tryz.Buffer_tryGrow_none (g+1) _ 1 1 n _ c0 (by omega) (by unfold maxLen;omega) (by omega)).mono ?_;rintro e w' ⟨rfl,rfl⟩)
 go_region_with (
  go_at_call 135
  refine(Si (g:=g) (n:=n) (v:=.int .u8 (c.toNat:Nat)) _ ?_ hn hlim rfl).mono ?_
  exact HG.o
  rintro e w2 ⟨cap2,cells,rfl,hN,hcsz,htk,hcap2,hcm2,hbel⟩
  have hbk2:w2.heap[g+1]?=some (.cells #[.slice (some ⟨g,0,none⟩) 1 1,.int .i64 0,.int .i8 0] 151 (0,0)):=(hbel.block (g+1) hbW).trans BX.o
  have d0:w2.cell? ⟨g+1,0,none⟩=some (.slice (some ⟨g,0,none⟩) 1 1):=by rw[mM hbk2];rfl
  have d1:w2.cell? ⟨g+1,1,none⟩=some (.int .i64 0):=by rw[mM hbk2];rfl
  have e0:w2.frozen? ⟨g+1,0,none⟩=false:=Lib.frozen_of_heap hbk2 0
  have e1:w2.frozen? ⟨g+1,1,none⟩=false:=Lib.frozen_of_heap hbk2 1
  have apz:=ah hbk2
  have HN:=ah hN
  have apy:=ah hbel
  clear hbk2 hN hbel)
 all_goals (
  go_wp2
  go_ret
  have hsz0:w'.heap.size=w.heap.size:=by rw[HW0.o];rfl
  have hb0:Below g w w'.drew:=by rw[HW0.o];exact⟨rfl,rfl,rfl,bW,fun _ _=>rfl⟩
  obtain⟨xs,q1,q2,q3⟩:=Lib.grow_end (b:=g+1) (bs:=[.int .u8 (c.toNat:Nat)]) (Nat.le_succ g) apz.o HN.o (by show g≤w'.heap.size;have:=HM.o.le;omega) (by show w'.heap.size≠g+1;have:=HM.o.le;omega) hcsz htk hcap2 hcm2 (hb0.trans (apy.o.mono (by show g≤w'.heap.size;have:=HM.o.le;omega))) _
  exact⟨rfl,xs,q1,q2,q3⟩)
theorem Bm.setLast {g:Nat} {c:UInt8} {W0 w:World} (h:Bm g c W0 w):Bm g c W0 (w.setCell ⟨g+1,2,none⟩ (.int .i8 0)):=by
 refine⟨?_,?_,h.eX.setCell (p:=⟨g+1,2,none⟩) (Nat.le_succ g) _⟩
 ·exact Joins.block_setCell h.buf _
 ·rw[ku _ _ _ _ (by simp)];exact h.row
theorem Bm.ws {g:Nat} {c:UInt8} {W0 w:World} (h:Bm g c W0 w) (s:bG) (hn:1≤s.size) (hlim:s.size≤100000000) :
  Calls prog 81 #[.pointer (some ⟨g+1,0,none⟩),.string s] w fun e w'=>e=.returned (.tuple #[.int .i64 s.size,.nilIface])∧Bg g (g+1) ([c]++s.data.toList) W0 w':=by
 have c2:w.cell? ⟨g+1,2,none⟩=some (.int .i8 0):=by rw[mM h.buf];rfl
 have f2:w.frozen? ⟨g+1,2,none⟩=false:=Lib.frozen_of_heap h.buf 2
 have HM:=ah h.setLast
 clear h
 have hinfo:(prog.info? 5).map (·.size)=some 1:=by
  obtain⟨i0,hi,-,hz1,-⟩:=info_parts uI.i5
  change prog.info? 5=some i0 at hi
  rw[hi];simp[hz1]
 go_enter func81,ntmps81
 go_wp2_with (first
  |(go_at_call 114;refine gU (Tryz.Buffer_tryGrow_none (g+1) (some ⟨g,0,none⟩) 1 1 s.size _ (by rw[mM HM.o.buf];rfl) (by omega) (by unfold maxLen;omega) (by omega)) ?_)
  |(go_at_call 115;refine(alS HM.o hn hlim).mono ?_))
 rintro e W1 ⟨rfl,xs,hxl,hI,hbel⟩
 have HB:=ah (HM.o.eX.trans hbel)
 clear hbel c2 f2
 obtain⟨-,lr2,hc⟩:=hI.cases
 rcases hc with ⟨hnil,-⟩|⟨g2,cap,cur,hbk2,hBg,hg,hnc,hcm,hcs,htk,hgb⟩
 ·exact absurd (congrArg List.length hnil) (by simp)
 ·have hl1:([Value.int .u8 (c.toNat:Nat)]++xs).length=1+s.size:=by rw[dY,hxl];rfl
  rw[hl1]at hbk2 hnc htk
  have d0:W1.cell? ⟨g+1,0,none⟩=some (.slice (some ⟨g2,0,none⟩) (1+s.size) cap):=by rw[mM hbk2];rfl
  have hne:¬cap=1:=by omega
  have hcp:=Lib.run_copy_row_string (P:=prog) W1 65 9 3 5 g2 1 s.size (cap-1) s cur 5 underlying65 hinfo hg bW (by omega)
  have hcm':=hcm
  unfold maxLen at hcm'
  go_wp2
  go_ret2
  have hnl:(Lib.byteCells s.data.toList).length=s.size:=by rw[Lib.byteCells_length,←Lib.size_eq]
  obtain⟨r1,r2⟩:=Lib.written_end (news:=Lib.byteCells s.data.toList) (l:=1) (Nat.le_succ g) (by rw[hnl];exact hbk2) hBg hg hcm hcs hgb (by rw[hnl];exact hnc)
  have e1:cur.toList.take 1=Lib.byteCells [c]:=by
   have h3:=congrArg (List.take 1) htk
   rw[List.take_take,Nat.min_eq_left (Nat.le_add_right _ _)]at h3
   rw[h3];rfl
  rw[e1,hnl]at r1 r2
  refine⟨rfl,?_,?_⟩<;>rw[e1,←ni]
  ·rw[show c::s.data.toList=[c]++s.data.toList from rfl,Lib.byteCells_append];exact r1
  ·exact HB.o.trans r2
theorem yK (u:Nat):1≤(Lib.decDigits u).length:=by
 rw[Lib.decDigits]
 split<;>simp
theorem aaN (neg:Bool) (ds:Nat→Int) (nd:Nat) (dp:Int):1≤(yA neg ds nd dp).length:=by
 unfold yA
 simp only[dY,d_,kW]
 omega
theorem abp (neg:Bool) (ds:Nat→Int) (nd:Nat) (dp:Int):1≤(Ik neg ds nd dp).length:=by
 unfold Ik
 split
 ·exact aaN _ _ _ _
 ·rw[dY]
  refine Nat.le_trans ?_ (Nat.le_add_left _ _)
  split
  ·split
   ·simp only[dY,List.length_map,List.length_range,List.length_replicate];omega
   ·simp only[dY,d_];omega
  ·split
   ·simp only[d_,kW];omega
   ·simp only[dY,d_];omega
theorem YT (b:Nat):1≤(Bz b).size:=by
 unfold Bz
 split
 ·decide
 ·unfold OH
  rw[strOfNums_size]
  unfold Ye
  split
  ·split
   ·decide
   ·split<;>decide
  ·split
   ·split<;>decide
   ·exact abp _ _ _ _
theorem Sc.agx (x:Sc):1≤x.oW.1.length:=by
 cases x<;>simp only[Sc.oW,Dc,nU,Lib.itoa]
 all_goals first
  |exact yK _
  |(split
    ·simp
    ·exact yK _)
  |(unfold Bq
    rw[←Lib.size_eq,strOfNums_size]
    unfold Lib.quoteZ
    simp;done)
  |(rw[←Lib.size_eq];exact YT _)
  |(unfold uq;split<;>decide)
  |(rw[dY];simp;omega)
theorem A.U9:∀a:A,1≤a.fmt.1.length
 | .sc x=>by simp only[A.fmt];exact x.agx
 | .var t a=>by simp only[A.fmt];split<;>simp
 | .jJ l=>by simp only[A.fmt];split<;>simp
 | .list t l=>by simp only[A.fmt];split<;>simp
 | .dict k t ks vs=>by simp only[A.fmt];split<;>simp
theorem Yx (L:List (List UInt8)) (h:0<L.length) (hp:1≤(L[0]).length):1≤(jm L).length:=by
 cases L with
 |nil=>simp at h
 |cons a l =>
  cases l with
  |nil=>simpa[jm]using hp
  |cons b l=>simp only[jm,dY,List.getElem_cons_zero]at hp ⊢;omega
def Bx (g:Nat) (c:UInt8) (l:List UInt8) (W0 w:World):Prop:=(l=[c]∧Bm g c W0 w)∨Bg g (g+1) l W0 w
theorem Bx.eX {g:Nat} {c:UInt8} {l:List UInt8} {W0 w:World} (h:Bx g c l W0 w):Below g W0 w:=by rcases h with ⟨_,h⟩|h<;>exact h.eX
theorem Bx.old {g:Nat} {c:UInt8} {l:List UInt8} {W0 w w':World} (h:Bx g c l W0 w) (hb:Below w.heap.size w w'):Bx g c l W0 w':=by
 rcases h with ⟨e,h⟩|h
 ·exact .inl ⟨e,h.old hb⟩
 ·exact .inr (h.old hb)
theorem Bx.keep {g:Nat} {c:UInt8} {l:List UInt8} {W0 w:World} (h:Bx g c l W0 w) {k:Nat} {o:Obj} (hk:W0.heap[k]?=some o) (hlt:k<g):w.heap[k]?=some o:=(h.eX.block k hlt).trans hk
theorem Bx.ws {g:Nat} {c:UInt8} {l:List UInt8} {W0 w:World} (h:Bx g c l W0 w) (s:bG) (hn:1≤s.size) (hl:l.length+s.size≤100000000) :
  Calls prog 81 #[.pointer (some ⟨g+1,0,none⟩),.string s] w fun e w'=>e=.returned (.tuple #[.int .i64 s.size,.nilIface])∧Bx g c (l++s.data.toList) W0 w':=by
 rcases h with ⟨rfl,h⟩|h
 ·exact(h.ws s hn (by omega)).mono (by rintro e w' ⟨rfl,h⟩;exact⟨rfl,.inr h⟩)
 ·exact(h.ws s hl).mono (by rintro e w' ⟨rfl,h⟩;exact⟨rfl,.inr h⟩)
theorem Bx.bg {g:Nat} {c:UInt8} {l:List UInt8} {W0 w:World} (h:Bx g c l W0 w) (hl:2≤l.length):Bg g (g+1) l W0 w:=by
 rcases h with ⟨rfl,h⟩|h
 ·simp at hl
 ·exact h
end Go.Proofs.YtllcccekodcdmaaGreatDoor.Ms
