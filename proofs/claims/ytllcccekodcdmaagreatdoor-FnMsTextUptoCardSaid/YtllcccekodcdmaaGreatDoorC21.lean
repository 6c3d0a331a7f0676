import Derived.Laws.CopyOwn
import Derived.Laws.Tables
import Derived.Test.YtllcccekodcdmaaGreatDoorC20
set_option linter.unusedVariables false
set_option linter.unusedSimpArgs false
set_option maxRecDepth 100000
set_option maxHeartbeats 32000000
open Go.Proofs.Tryz
namespace Go.Proofs.YtllcccekodcdmaaGreatDoor.Ms
open Go Go.RowKit Go.Proofs.ak.aT Go.Proofs.ak.cO Go.Proofs.YtllcccekodcdmaaGreatDoor.bK
theorem vP (W:World) (g n v:Nat) (hb:W.heap[g]?=some (.cells (Lib.byteCells (List.replicate n 0)).toArray 5 (0,0))) (j:Nat) (x:Value) (h:(Lib.byteCells (Lib.leBytes n v))[j]?=some x) :
  (((W.alloc (.cells #[] 160)).setCells g 0 (Lib.byteCells (Lib.leBytes n v))).cell? ((⟨g,0,none⟩:Addr).add j))=some x:=by
 rw[add_plain]
 have hlen:(Lib.byteCells (Lib.leBytes n v)).length=n:=by rw[Lib.byteCells_length,Lib.leBytes_length]
 obtain⟨hj,rfl⟩:=List.getElem?_eq_some_iff.1 h
 have hin:=World.cell?_setCells_in g (Lib.byteCells (Lib.leBytes n v)) 0 (W.alloc (.cells #[] 160)) (fun i hi=>by
  have hb:(W.alloc (.cells #[] 160)).heap[g]?=some (.cells (Lib.byteCells (List.replicate n 0)).toArray 5 (0,0)):=(kN _ _ _ (lt_of_block hb)).trans hb
  have hl2:(Lib.byteCells (List.replicate n (0:UInt8))).length=n:=by rw[Lib.byteCells_length,List.length_replicate]
  rw[au hb (0+i) (v:=(Lib.byteCells (List.replicate n (0:UInt8)))[0+i]'(by omega)) (by rw[List.getElem?_toArray,gQ])]
  rfl) j hj
 simpa using hin
theorem Fj {B g:Nat} (hg:B≤g):∀(vs:List Value) (o:Nat) (w:World),Below B w (w.setCells g o vs)
 |[],_,w=>Below.refl B w
 |v::r,o,w=>((Below.refl B w).setCell (p:=⟨g,o,none⟩) hg v).trans (Fj hg r (o+1) _)
theorem pU {w W:World} {g:Nat} (hB:Below w.heap.size w W) (hg:w.heap.size≤g) (vs:List Value):Below w.heap.size w ((W.alloc (.cells #[] 160)).setCells g 0 vs) :=
 (hB.alloc hB.size _).trans (Fj hg _ _ _)
theorem vM (w:World) (n:Nat):(w.alloc (.cells (Lib.byteCells (List.replicate n 0)).toArray 5)).heap[w.heap.size]?=some (.cells (Lib.byteCells (List.replicate n 0)).toArray 5 (0,0)):=aV _ _ _ rfl
theorem aco (v:Value) (w:World):(method 443 160 v "PutUint16").run prog w=.ok (264,v) w:=by kernel_rfl
theorem acp (v:Value) (w:World):(method 443 160 v "PutUint32").run prog w=.ok (265,v) w:=by kernel_rfl
theorem Tv (v:Value) (w:World):(method 443 160 v "PutUint64").run prog w=.ok (266,v) w:=by kernel_rfl
theorem call264 (a b c:Value) (w:World):(callFunc 264 #[a,b,c]).run prog w=.ok (.enter 264 #[a,b,c]) w:=by kernel_rfl
theorem call265 (a b c:Value) (w:World):(callFunc 265 #[a,b,c]).run prog w=.ok (.enter 265 #[a,b,c]) w:=by kernel_rfl
theorem call266 (a b c:Value) (w:World):(callFunc 266 #[a,b,c]).run prog w=.ok (.enter 266 #[a,b,c]) w:=by kernel_rfl
theorem Zj (b:Nat) (w:World):(callFunc 152 #[.float .f64 b]).run prog w=.ok (.value (.int .u64 b)) w:=by
 rw[run_callFunc_extern func152 (by kernel_rfl) (by kernel_rfl) (by kernel_rfl) (e:=Extern.MathFloatBits.float64bits) (by kernel_rfl)]
 rfl
theorem JU (k:Int):∃x:Nat,x<65536∧IntKind.u16.wrap k=(x:Int):=by
 have h:IntKind.u16.wrap k=k%65536:=by simp[IntKind.wrap,IntKind.bits,IntKind.signed]
 exact⟨(k%65536).toNat,by omega,by rw[h];omega⟩
theorem DI (k:Int):∃x:Nat,x<4294967296∧IntKind.u32.wrap k=(x:Int):=by
 exact⟨(k%4294967296).toNat,by omega,by rw[IntKind.wrap_u32];omega⟩
theorem Zz (k:Int):∃x:Nat,x<18446744073709551616∧IntKind.u64.wrap k=(x:Int):=by
 have h:IntKind.u64.wrap k=k%18446744073709551616:=by simp[IntKind.wrap,IntKind.bits,IntKind.signed]
 exact⟨(k%18446744073709551616).toNat,by omega,by rw[h];omega⟩
theorem Q5 {E B M:Nat} {F:EF} {W0 w:World} (h:En E B F M W0 w) (k:Int) (hM:M≤100000000) :
  Calls prog 209 #[.pointer (some ⟨E,0,none⟩),.iface 83 (.int .i16 k)] w fun e w'=>e=.returned (.tuple #[])∧En E B F (M+2) W0 w'∧Fr E B w w':=by
 obtain⟨p,hp,he⟩:=h.enc
 obtain⟨x,hx,hxk⟩:∃x:Nat,x<65536∧IntKind.u16.wrap k=(x:Int):=JU k
 have ca:∀o,(w.alloc o).cell? ⟨E,0,none⟩=some (.iface 142 (.pointer (some ⟨B,0,none⟩))):=fun o=>au ((kN w o _ (lt_of_block he)).trans he) 0 rfl
 have cb:∀o,(w.alloc o).cell? ⟨E,2,none⟩=some (.iface 160 (.agg #[])):=fun o=>au ((kN w o _ (lt_of_block he)).trans he) 2 rfl
 have HE:=ah he
 have yC:=ah h
 have nY:=ah h.size
 have hmq:∀w,(Instr.makeSlice 65 (.int .i64 2) (.int .i64 2)).run prog w=.ok (.slice (some ⟨w.heap.size,0,none⟩) 2 2) (w.alloc (.cells (Lib.byteCells (List.replicate 2 0)).toArray 5)):=fun w=>lJ 2 (by decide) w
 have hme:=ig
 have hca:=call262
 have hmp:=aco
 have hcp:=call264
 clear he h
 go_enter func209,ntmps209
 go_wp2_with (first
  |(go_at_call 264;have KR:=vM w 2;refine(binary_LE_PutUint16 w.heap.size 0 2 2 x hx _ _ _ bW (au KR 0 rfl) (au KR 1 rfl) (aI KR 0) (aI KR 1)).mono ?_;rintro e w2 ⟨rfl,hw2⟩;have hbelow:Below w.heap.size w w2:=(congrArg (Below w.heap.size w) hw2).mpr (pU (gG _) bW _);have HS:=ah (fun j v hj=>(congrArg (fun W=>World.cell? W ((⟨w.heap.size,0,none⟩:Addr).add j)=some v) hw2).mpr (vP _ w.heap.size 2 x KR j v hj):∀j v,(Lib.byteCells (Lib.leBytes 2 x))[j]?=some v→w2.cell? ((⟨w.heap.size,0,none⟩:Addr).add j)=some v);have yx:=ah (yC.o.old hbelow);have zu:=ah (Fr.below hbelow nY.o:Fr E B w w2);have ⟨c0,c1,c2,c3,f3,f1⟩:=jC ((hbelow.block _ (lt_of_block HE.o)).trans HE.o);clear hw2 ca cb hbelow KR)
  |(go_at_call 262;refine(yx.o.write (Lib.leBytes 2 x) ⟨w.heap.size,0,none⟩ 2 2 (Lib.leBytes_length _ _) (by have:=nY.o;simp;omega) HS.o (by omega)).mono ?_;rintro e w3 ⟨rfl,hen,hfr⟩;have HF:=ah hen;have BZ:=ah (zu.o.trans hfr);clear hen hfr))
 go_end0
 exact⟨rfl,HF.o,BZ.o⟩
theorem Q7 {E B M:Nat} {F:EF} {W0 w:World} (h:En E B F M W0 w) (x:Nat) (hx:x<65536) (hM:M≤100000000) :
  Calls prog 209 #[.pointer (some ⟨E,0,none⟩),.iface 84 (.int .u16 (x:Int))] w fun e w'=>e=.returned (.tuple #[])∧En E B F (M+2) W0 w'∧Fr E B w w':=by
 obtain⟨p,hp,he⟩:=h.enc
 have ca:∀o,(w.alloc o).cell? ⟨E,0,none⟩=some (.iface 142 (.pointer (some ⟨B,0,none⟩))):=fun o=>au ((kN w o _ (lt_of_block he)).trans he) 0 rfl
 have cb:∀o,(w.alloc o).cell? ⟨E,2,none⟩=some (.iface 160 (.agg #[])):=fun o=>au ((kN w o _ (lt_of_block he)).trans he) 2 rfl
 have HE:=ah he
 have yC:=ah h
 have nY:=ah h.size
 have hmq:∀w,(Instr.makeSlice 65 (.int .i64 2) (.int .i64 2)).run prog w=.ok (.slice (some ⟨w.heap.size,0,none⟩) 2 2) (w.alloc (.cells (Lib.byteCells (List.replicate 2 0)).toArray 5)):=fun w=>lJ 2 (by decide) w
 have hme:=ig
 have hca:=call262
 have hmp:=aco
 have hcp:=call264
 clear he h
 go_enter func209,ntmps209
 go_wp2_with (first
  |(go_at_call 264;have KR:=vM w 2;refine(binary_LE_PutUint16 w.heap.size 0 2 2 x hx _ _ _ bW (au KR 0 rfl) (au KR 1 rfl) (aI KR 0) (aI KR 1)).mono ?_;rintro e w2 ⟨rfl,hw2⟩;have hbelow:Below w.heap.size w w2:=(congrArg (Below w.heap.size w) hw2).mpr (pU (gG _) bW _);have HS:=ah (fun j v hj=>(congrArg (fun W=>World.cell? W ((⟨w.heap.size,0,none⟩:Addr).add j)=some v) hw2).mpr (vP _ w.heap.size 2 x KR j v hj):∀j v,(Lib.byteCells (Lib.leBytes 2 x))[j]?=some v→w2.cell? ((⟨w.heap.size,0,none⟩:Addr).add j)=some v);have yx:=ah (yC.o.old hbelow);have zu:=ah (Fr.below hbelow nY.o:Fr E B w w2);have ⟨c0,c1,c2,c3,f3,f1⟩:=jC ((hbelow.block _ (lt_of_block HE.o)).trans HE.o);clear hw2 ca cb hbelow KR)
  |(go_at_call 262;refine(yx.o.write (Lib.leBytes 2 x) ⟨w.heap.size,0,none⟩ 2 2 (Lib.leBytes_length _ _) (by have:=nY.o;simp;omega) HS.o (by omega)).mono ?_;rintro e w3 ⟨rfl,hen,hfr⟩;have HF:=ah hen;have BZ:=ah (zu.o.trans hfr);clear hen hfr))
 go_end0
 exact⟨rfl,HF.o,BZ.o⟩
theorem QZ {E B M:Nat} {F:EF} {W0 w:World} (h:En E B F M W0 w) (k:Int) (hM:M≤100000000) :
  Calls prog 209 #[.pointer (some ⟨E,0,none⟩),.iface 21 (.int .i32 k)] w fun e w'=>e=.returned (.tuple #[])∧En E B F (M+4) W0 w'∧Fr E B w w':=by
 obtain⟨p,hp,he⟩:=h.enc
 obtain⟨x,hx,hxk⟩:∃x:Nat,x<4294967296∧IntKind.u32.wrap k=(x:Int):=DI k
 have ca:∀o,(w.alloc o).cell? ⟨E,0,none⟩=some (.iface 142 (.pointer (some ⟨B,0,none⟩))):=fun o=>au ((kN w o _ (lt_of_block he)).trans he) 0 rfl
 have cb:∀o,(w.alloc o).cell? ⟨E,2,none⟩=some (.iface 160 (.agg #[])):=fun o=>au ((kN w o _ (lt_of_block he)).trans he) 2 rfl
 have HE:=ah he
 have yC:=ah h
 have nY:=ah h.size
 have hmq:∀w,(Instr.makeSlice 65 (.int .i64 4) (.int .i64 4)).run prog w=.ok (.slice (some ⟨w.heap.size,0,none⟩) 4 4) (w.alloc (.cells (Lib.byteCells (List.replicate 4 0)).toArray 5)):=fun w=>lJ 4 (by decide) w
 have hme:=ig
 have hca:=call262
 have hmp:=acp
 have hcp:=call265
 clear he h
 go_enter func209,ntmps209
 go_wp2_with (first
  |(go_at_call 265;have KR:=vM w 4;refine(binary_LE_PutUint32 w.heap.size 0 4 4 x hx _ _ _ _ _ bW (au KR 0 rfl) (au KR 1 rfl) (au KR 2 rfl) (au KR 3 rfl) (aI KR 0) (aI KR 1) (aI KR 2) (aI KR 3)).mono ?_;rintro e w2 ⟨rfl,hw2⟩;have hbelow:Below w.heap.size w w2:=(congrArg (Below w.heap.size w) hw2).mpr (pU (gG _) bW _);have HS:=ah (fun j v hj=>(congrArg (fun W=>World.cell? W ((⟨w.heap.size,0,none⟩:Addr).add j)=some v) hw2).mpr (vP _ w.heap.size 4 x KR j v hj):∀j v,(Lib.byteCells (Lib.leBytes 4 x))[j]?=some v→w2.cell? ((⟨w.heap.size,0,none⟩:Addr).add j)=some v);have yx:=ah (yC.o.old hbelow);have zu:=ah (Fr.below hbelow nY.o:Fr E B w w2);have ⟨c0,c1,c2,c3,f3,f1⟩:=jC ((hbelow.block _ (lt_of_block HE.o)).trans HE.o);clear hw2 ca cb hbelow KR)
  |(go_at_call 262;refine(yx.o.write (Lib.leBytes 4 x) ⟨w.heap.size,0,none⟩ 4 4 (Lib.leBytes_length _ _) (by have:=nY.o;simp;omega) HS.o (by omega)).mono ?_;rintro e w3 ⟨rfl,hen,hfr⟩;have HF:=ah hen;have BZ:=ah (zu.o.trans hfr);clear hen hfr))
 go_end0
 exact⟨rfl,HF.o,BZ.o⟩
theorem Fp {E B M:Nat} {F:EF} {W0 w:World} (h:En E B F M W0 w) (x:Nat) (hx:x<4294967296) (hM:M≤100000000) :
  Calls prog 209 #[.pointer (some ⟨E,0,none⟩),.iface 22 (.int .u32 (x:Int))] w fun e w'=>e=.returned (.tuple #[])∧En E B F (M+4) W0 w'∧Fr E B w w':=by
 obtain⟨p,hp,he⟩:=h.enc
 have ca:∀o,(w.alloc o).cell? ⟨E,0,none⟩=some (.iface 142 (.pointer (some ⟨B,0,none⟩))):=fun o=>au ((kN w o _ (lt_of_block he)).trans he) 0 rfl
 have cb:∀o,(w.alloc o).cell? ⟨E,2,none⟩=some (.iface 160 (.agg #[])):=fun o=>au ((kN w o _ (lt_of_block he)).trans he) 2 rfl
 have HE:=ah he
 have yC:=ah h
 have nY:=ah h.size
 have hmq:∀w,(Instr.makeSlice 65 (.int .i64 4) (.int .i64 4)).run prog w=.ok (.slice (some ⟨w.heap.size,0,none⟩) 4 4) (w.alloc (.cells (Lib.byteCells (List.replicate 4 0)).toArray 5)):=fun w=>lJ 4 (by decide) w
 have hme:=ig
 have hca:=call262
 have hmp:=acp
 have hcp:=call265
 clear he h
 go_enter func209,ntmps209
 go_wp2_with (first
  |(go_at_call 265;have KR:=vM w 4;refine(binary_LE_PutUint32 w.heap.size 0 4 4 x hx _ _ _ _ _ bW (au KR 0 rfl) (au KR 1 rfl) (au KR 2 rfl) (au KR 3 rfl) (aI KR 0) (aI KR 1) (aI KR 2) (aI KR 3)).mono ?_;rintro e w2 ⟨rfl,hw2⟩;have hbelow:Below w.heap.size w w2:=(congrArg (Below w.heap.size w) hw2).mpr (pU (gG _) bW _);have HS:=ah (fun j v hj=>(congrArg (fun W=>World.cell? W ((⟨w.heap.size,0,none⟩:Addr).add j)=some v) hw2).mpr (vP _ w.heap.size 4 x KR j v hj):∀j v,(Lib.byteCells (Lib.leBytes 4 x))[j]?=some v→w2.cell? ((⟨w.heap.size,0,none⟩:Addr).add j)=some v);have yx:=ah (yC.o.old hbelow);have zu:=ah (Fr.below hbelow nY.o:Fr E B w w2);have ⟨c0,c1,c2,c3,f3,f1⟩:=jC ((hbelow.block _ (lt_of_block HE.o)).trans HE.o);clear hw2 ca cb hbelow KR)
  |(go_at_call 262;refine(yx.o.write (Lib.leBytes 4 x) ⟨w.heap.size,0,none⟩ 4 4 (Lib.leBytes_length _ _) (by have:=nY.o;simp;omega) HS.o (by omega)).mono ?_;rintro e w3 ⟨rfl,hen,hfr⟩;have HF:=ah hen;have BZ:=ah (zu.o.trans hfr);clear hen hfr))
 go_end0
 exact⟨rfl,HF.o,BZ.o⟩
theorem Q9 {E B M:Nat} {F:EF} {W0 w:World} (h:En E B F M W0 w) (k:Int) (hM:M≤100000000) :
  Calls prog 209 #[.pointer (some ⟨E,0,none⟩),.iface 2 (.int .i64 k)] w fun e w'=>e=.returned (.tuple #[])∧En E B F (M+8) W0 w'∧Fr E B w w':=by
 obtain⟨p,hp,he⟩:=h.enc
 obtain⟨x,hx,hxk⟩:∃x:Nat,x<18446744073709551616∧IntKind.u64.wrap k=(x:Int):=Zz k
 have ca:∀o,(w.alloc o).cell? ⟨E,0,none⟩=some (.iface 142 (.pointer (some ⟨B,0,none⟩))):=fun o=>au ((kN w o _ (lt_of_block he)).trans he) 0 rfl
 have cb:∀o,(w.alloc o).cell? ⟨E,2,none⟩=some (.iface 160 (.agg #[])):=fun o=>au ((kN w o _ (lt_of_block he)).trans he) 2 rfl
 have HE:=ah he
 have yC:=ah h
 have nY:=ah h.size
 have hmq:∀w,(Instr.makeSlice 65 (.int .i64 8) (.int .i64 8)).run prog w=.ok (.slice (some ⟨w.heap.size,0,none⟩) 8 8) (w.alloc (.cells (Lib.byteCells (List.replicate 8 0)).toArray 5)):=fun w=>lJ 8 (by decide) w
 have hme:=ig
 have hca:=call262
 have hmp:=Tv
 have hcp:=call266
 clear he h
 go_enter func209,ntmps209
 go_wp2_with (first
  |(go_at_call 266;have KR:=vM w 8;refine(binary_LE_PutUint64 w.heap.size 0 8 8 x hx _ _ _ _ _ _ _ _ _ bW (au KR 0 rfl) (au KR 1 rfl) (au KR 2 rfl) (au KR 3 rfl) (au KR 4 rfl) (au KR 5 rfl) (au KR 6 rfl) (au KR 7 rfl) (aI KR 0) (aI KR 1) (aI KR 2) (aI KR 3) (aI KR 4) (aI KR 5) (aI KR 6) (aI KR 7)).mono ?_;rintro e w2 ⟨rfl,hw2⟩;have hbelow:Below w.heap.size w w2:=(congrArg (Below w.heap.size w) hw2).mpr (pU (gG _) bW _);have HS:=ah (fun j v hj=>(congrArg (fun W=>World.cell? W ((⟨w.heap.size,0,none⟩:Addr).add j)=some v) hw2).mpr (vP _ w.heap.size 8 x KR j v hj):∀j v,(Lib.byteCells (Lib.leBytes 8 x))[j]?=some v→w2.cell? ((⟨w.heap.size,0,none⟩:Addr).add j)=some v);have yx:=ah (yC.o.old hbelow);have zu:=ah (Fr.below hbelow nY.o:Fr E B w w2);have ⟨c0,c1,c2,c3,f3,f1⟩:=jC ((hbelow.block _ (lt_of_block HE.o)).trans HE.o);clear hw2 ca cb hbelow KR)
  |(go_at_call 262;refine(yx.o.write (Lib.leBytes 8 x) ⟨w.heap.size,0,none⟩ 8 8 (Lib.leBytes_length _ _) (by have:=nY.o;simp;omega) HS.o (by omega)).mono ?_;rintro e w3 ⟨rfl,hen,hfr⟩;have HF:=ah hen;have BZ:=ah (zu.o.trans hfr);clear hen hfr))
 go_end0
 exact⟨rfl,HF.o,BZ.o⟩
theorem Q8 {E B M:Nat} {F:EF} {W0 w:World} (h:En E B F M W0 w) (x:Nat) (hx:x<18446744073709551616) (hM:M≤100000000) :
  Calls prog 209 #[.pointer (some ⟨E,0,none⟩),.iface 30 (.int .u64 (x:Int))] w fun e w'=>e=.returned (.tuple #[])∧En E B F (M+8) W0 w'∧Fr E B w w':=by
 obtain⟨p,hp,he⟩:=h.enc
 have ca:∀o,(w.alloc o).cell? ⟨E,0,none⟩=some (.iface 142 (.pointer (some ⟨B,0,none⟩))):=fun o=>au ((kN w o _ (lt_of_block he)).trans he) 0 rfl
 have cb:∀o,(w.alloc o).cell? ⟨E,2,none⟩=some (.iface 160 (.agg #[])):=fun o=>au ((kN w o _ (lt_of_block he)).trans he) 2 rfl
 have HE:=ah he
 have yC:=ah h
 have nY:=ah h.size
 have hmq:∀w,(Instr.makeSlice 65 (.int .i64 8) (.int .i64 8)).run prog w=.ok (.slice (some ⟨w.heap.size,0,none⟩) 8 8) (w.alloc (.cells (Lib.byteCells (List.replicate 8 0)).toArray 5)):=fun w=>lJ 8 (by decide) w
 have hme:=ig
 have hca:=call262
 have hmp:=Tv
 have hcp:=call266
 clear he h
 go_enter func209,ntmps209
 go_wp2_with (first
  |(go_at_call 266;have KR:=vM w 8;refine(binary_LE_PutUint64 w.heap.size 0 8 8 x hx _ _ _ _ _ _ _ _ _ bW (au KR 0 rfl) (au KR 1 rfl) (au KR 2 rfl) (au KR 3 rfl) (au KR 4 rfl) (au KR 5 rfl) (au KR 6 rfl) (au KR 7 rfl) (aI KR 0) (aI KR 1) (aI KR 2) (aI KR 3) (aI KR 4) (aI KR 5) (aI KR 6) (aI KR 7)).mono ?_;rintro e w2 ⟨rfl,hw2⟩;have hbelow:Below w.heap.size w w2:=(congrArg (Below w.heap.size w) hw2).mpr (pU (gG _) bW _);have HS:=ah (fun j v hj=>(congrArg (fun W=>World.cell? W ((⟨w.heap.size,0,none⟩:Addr).add j)=some v) hw2).mpr (vP _ w.heap.size 8 x KR j v hj):∀j v,(Lib.byteCells (Lib.leBytes 8 x))[j]?=some v→w2.cell? ((⟨w.heap.size,0,none⟩:Addr).add j)=some v);have yx:=ah (yC.o.old hbelow);have zu:=ah (Fr.below hbelow nY.o:Fr E B w w2);have ⟨c0,c1,c2,c3,f3,f1⟩:=jC ((hbelow.block _ (lt_of_block HE.o)).trans HE.o);clear hw2 ca cb hbelow KR)
  |(go_at_call 262;refine(yx.o.write (Lib.leBytes 8 x) ⟨w.heap.size,0,none⟩ 8 8 (Lib.leBytes_length _ _) (by have:=nY.o;simp;omega) HS.o (by omega)).mono ?_;rintro e w3 ⟨rfl,hen,hfr⟩;have HF:=ah hen;have BZ:=ah (zu.o.trans hfr);clear hen hfr))
 go_end0
 exact⟨rfl,HF.o,BZ.o⟩
theorem QY {E B M:Nat} {F:EF} {W0 w:World} (h:En E B F M W0 w) (x:Nat) (hx:x<18446744073709551616) (hM:M≤100000000) :
  Calls prog 209 #[.pointer (some ⟨E,0,none⟩),.iface 85 (.float .f64 x)] w fun e w'=>e=.returned (.tuple #[])∧En E B F (M+8) W0 w'∧Fr E B w w':=by
 obtain⟨p,hp,he⟩:=h.enc
 have ca:∀o,(w.alloc o).cell? ⟨E,0,none⟩=some (.iface 142 (.pointer (some ⟨B,0,none⟩))):=fun o=>au ((kN w o _ (lt_of_block he)).trans he) 0 rfl
 have cb:∀o,(w.alloc o).cell? ⟨E,2,none⟩=some (.iface 160 (.agg #[])):=fun o=>au ((kN w o _ (lt_of_block he)).trans he) 2 rfl
 have HE:=ah he
 have yC:=ah h
 have nY:=ah h.size
 have hmq:∀w,(Instr.makeSlice 65 (.int .i64 8) (.int .i64 8)).run prog w=.ok (.slice (some ⟨w.heap.size,0,none⟩) 8 8) (w.alloc (.cells (Lib.byteCells (List.replicate 8 0)).toArray 5)):=fun w=>lJ 8 (by decide) w
 have hme:=ig
 have hca:=call262
 have hmp:=Tv
 have hcp:=call266
 clear he h
 go_enter func209,ntmps209
 have hfb:=Zj x
 go_wp2
 go_region_with (go_at_call 266;have KR:(w.alloc (.cells (Lib.byteCells (List.replicate 8 0)).toArray 5)).drew.heap[w.heap.size]?=some (.cells (Lib.byteCells (List.replicate 8 0)).toArray 5 (0,0)):=vM w 8;refine(binary_LE_PutUint64 w.heap.size 0 8 8 x hx _ _ _ _ _ _ _ _ _ bW (au KR 0 rfl) (au KR 1 rfl) (au KR 2 rfl) (au KR 3 rfl) (au KR 4 rfl) (au KR 5 rfl) (au KR 6 rfl) (au KR 7 rfl) (aI KR 0) (aI KR 1) (aI KR 2) (aI KR 3) (aI KR 4) (aI KR 5) (aI KR 6) (aI KR 7)).mono ?_;rintro e w2 ⟨rfl,hw2⟩;have hbelow:Below w.heap.size w w2:=(congrArg (Below w.heap.size w) hw2).mpr (pU (gG _).drew bW _);have HS:=ah (fun j v hj=>(congrArg (fun W=>World.cell? W ((⟨w.heap.size,0,none⟩:Addr).add j)=some v) hw2).mpr (vP _ w.heap.size 8 x KR j v hj):∀j v,(Lib.byteCells (Lib.leBytes 8 x))[j]?=some v→w2.cell? ((⟨w.heap.size,0,none⟩:Addr).add j)=some v);have yx:=ah (yC.o.old hbelow);have zu:=ah (Fr.below hbelow nY.o:Fr E B w w2);have ⟨c0,c1,c2,c3,f3,f1⟩:=jC ((hbelow.block _ (lt_of_block HE.o)).trans HE.o);clear hw2 ca cb hbelow KR)
 all_goals (go_wp2_with (go_at_call 262;refine(yx.o.write (Lib.leBytes 8 x) ⟨w.heap.size,0,none⟩ 8 8 (Lib.leBytes_length _ _) (by have:=nY.o;simp;omega) HS.o (by omega)).mono ?_;rintro e w3 ⟨rfl,hen,hfr⟩;have HF:=ah hen;have BZ:=ah (zu.o.trans hfr);clear hen hfr))
 all_goals (go_end0;exact⟨rfl,HF.o,BZ.o⟩)
theorem lZ (t:TypeId) (u:Value) (sg:bG) (w:World):fC 207 #[.agg #[.iface t u,.string sg]] w (.string sg):=by
 go_enter func207,ntmps207
 go_wp2
 go_ret
 exact⟨rfl,gG _⟩
theorem ahn (b:Bool) (sg:bG) (w:World):fC 208 #[.agg #[.iface 4 (.bool b),.string sg]] w (.bool b):=by
 go_enter func208,ntmps208
 go_wp2
 go_ret
 exact⟨rfl,gG _⟩
theorem akb (b:Nat) (sg:bG) (w:World):fC 210 #[.agg #[.iface 85 (.float .f64 b),.string sg]] w (.float .f64 b):=by
 go_enter func210,ntmps210
 go_wp2
 go_ret
 exact⟨rfl,gG _⟩
theorem ads (s sg:bG) (w:World):fC 211 #[.agg #[.iface 9 (.string s),.string sg]] w (.string s):=by
 go_enter func211,ntmps211
 go_wp2
 go_ret
 exact⟨rfl,gG _⟩
theorem akd (s sg:bG) (w:World):fC 211 #[.agg #[.iface 87 (.string s),.string sg]] w (.string s):=by
 go_enter func211,ntmps211
 go_wp2
 go_ret
 exact⟨rfl,gG _⟩
def ZJ (x:List UInt8):Prop:=∃n:Int,(n=1∨n=2∨n=4∨n=8)∧∀w,Calls prog 206 #[.string (bs x)] w fun e w'=>e=.returned (.int .i64 n)∧w'=w
theorem kP (c:UInt8) (hc:dM c):ZJ [c]:=by
 have ht:∀c:UInt8,(bs [c]).toList=[c]:=fun c=>bH _
 rcases hc with rfl|rfl|rfl|rfl|rfl|rfl|rfl|rfl|rfl|rfl|rfl|rfl|rfl|rfl
 ·refine⟨1,by simp,fun w=>?_⟩
  go_enter func206,ntmps206
  go_wp2_with (go_at_call 68;refine gU (dQ _ [] 7 rfl _) ?_)
  go_ret
  exact⟨rfl,rfl⟩
 ·refine⟨1,by simp,fun w=>?_⟩
  go_enter func206,ntmps206
  go_wp2_with (go_at_call 68;refine gU (dQ _ [] 1 rfl _) ?_)
  go_ret
  exact⟨rfl,rfl⟩
 ·refine⟨2,by simp,fun w=>?_⟩
  go_enter func206,ntmps206
  go_wp2_with (go_at_call 68;refine gU (dQ _ [] 3 rfl _) ?_)
  go_ret
  exact⟨rfl,rfl⟩
 ·refine⟨2,by simp,fun w=>?_⟩
  go_enter func206,ntmps206
  go_wp2_with (go_at_call 68;refine gU (dQ _ [] 8 rfl _) ?_)
  go_ret
  exact⟨rfl,rfl⟩
 ·refine⟨4,by simp,fun w=>?_⟩
  go_enter func206,ntmps206
  go_wp2_with (go_at_call 68;refine gU (dQ _ [] 4 rfl _) ?_)
  go_ret
  exact⟨rfl,rfl⟩
 ·refine⟨4,by simp,fun w=>?_⟩
  go_enter func206,ntmps206
  go_wp2_with (go_at_call 68;refine gU (dQ _ [] 9 rfl _) ?_)
  go_ret
  exact⟨rfl,rfl⟩
 ·refine⟨8,by simp,fun w=>?_⟩
  go_enter func206,ntmps206
  go_wp2_with (go_at_call 68;refine gU (dQ _ [] 5 rfl _) ?_)
  go_ret
  exact⟨rfl,rfl⟩
 ·refine⟨8,by simp,fun w=>?_⟩
  go_enter func206,ntmps206
  go_wp2_with (go_at_call 68;refine gU (dQ _ [] 10 rfl _) ?_)
  go_ret
  exact⟨rfl,rfl⟩
 ·refine⟨8,by simp,fun w=>?_⟩
  go_enter func206,ntmps206
  go_wp2_with (go_at_call 68;refine gU (dQ _ [] 11 rfl _) ?_)
  go_ret
  exact⟨rfl,rfl⟩
 ·refine⟨4,by simp,fun w=>?_⟩
  go_enter func206,ntmps206
  go_wp2_with (go_at_call 68;refine gU (dQ _ [] 17 rfl _) ?_)
  go_ret
  exact⟨rfl,rfl⟩
 ·refine⟨1,by simp,fun w=>?_⟩
  go_enter func206,ntmps206
  go_wp2_with (go_at_call 68;refine gU (dQ _ [] 18 rfl _) ?_)
  go_ret
  exact⟨rfl,rfl⟩
 ·refine⟨4,by simp,fun w=>?_⟩
  go_enter func206,ntmps206
  go_wp2_with (go_at_call 68;refine gU (dQ _ [] 17 rfl _) ?_)
  go_ret
  exact⟨rfl,rfl⟩
 ·refine⟨1,by simp,fun w=>?_⟩
  go_enter func206,ntmps206
  go_wp2_with (go_at_call 68;refine gU (dQ _ [] 18 rfl _) ?_)
  go_ret
  exact⟨rfl,rfl⟩
 ·refine⟨4,by simp,fun w=>?_⟩
  go_enter func206,ntmps206
  go_wp2_with (go_at_call 68;refine gU (dQ _ [] 9 rfl _) ?_)
  go_ret
  exact⟨rfl,rfl⟩
theorem agy (t:T) (hw:t.wf):t.ty≠[42]:=by
 cases t with
 |base c=>rintro h;simp only[T.ty,List.cons.injEq]at h;obtain⟨rfl,-⟩:=h;revert hw;simp[T.wf,dM]
 |arr t=>simp[T.ty]
 |dict k t=>simp[T.ty]
 |str ts=>simp[T.ty]
theorem aai (t:T) (hw:t.wf):ZJ (91::t.ty):=by
 have ht:(bs (91::t.ty)).toList=91::t.ty:=bH _
 have hn:=agy t hw
 have hk:=dQ 91 t.ty 16 rfl
 refine⟨4,by simp,fun w=>?_⟩
 generalize t.ty=x at *
 go_enter func206,ntmps206
 go_wp2_with (go_at_call 68;refine gU (hk _) ?_)
 all_goals (
  go_ret
  exact⟨rfl,rfl⟩)
theorem UE (x:List UInt8):ZJ (123::x):=by
 have ht:(bs (123::x)).toList=123::x:=bH _
 have hk:=dQ 123 x 14 rfl
 refine⟨4,by simp,fun w=>?_⟩
 go_enter func206,ntmps206
 go_wp2_with (go_at_call 68;refine gU (hk _) ?_)
 all_goals (
  go_ret
  exact⟨rfl,rfl⟩)
theorem aaj (x:List UInt8):ZJ (40::x):=by
 have ht:(bs (40::x)).toList=40::x:=bH _
 have hk:=dQ 40 x 18 rfl
 refine⟨8,by simp,fun w=>?_⟩
 go_enter func206,ntmps206
 go_wp2_with (go_at_call 68;refine gU (hk _) ?_)
 all_goals (
  go_ret
  exact⟨rfl,rfl⟩)
theorem ahI (t:T) (hw:t.wf):ZJ t.ty:=by
 cases t with
 |base c=>exact kP c hw
 |arr t=>exact aai t hw
 |dict k t=>exact UE _
 |str ts=>exact aaj _
section
structure Kp (E B b0:Nat) (F:EF) (M:Nat) (W0 w0:World) (cs:Array Value) (w:World):Prop where
 en:En E B F M W0 w
 fr:Fr E B w0 w
 kr:w.heap[b0]?=some (.cells cs 94 (0,0))
 ne:b0≠E∧b0≠B
section
variable {E B b0 M M':Nat} {F:EF} {W0 w0 w w':World} {cs:Array Value}
theorem En.ltE (h:En E B F M W0 w):E<w.heap.size:=by obtain⟨p,hp,he⟩:=h.enc;exact lt_of_block he
theorem Kp.new (h:En E B F M W0 w) (cs:Array Value):Kp E B w.heap.size F M W0 w cs (w.alloc (.cells cs 94)) :=
 ⟨h.old (gG _),Fr.below (gG _) h.size,aV _ _ _ rfl,by have:=h.ltE;have:=h.size;constructor<;>omega⟩
theorem Kp.old (h:Kp E B b0 F M W0 w0 cs w) (hb:Below w.heap.size w w'):Kp E B b0 F M W0 w0 cs w' :=
 ⟨h.en.old hb,h.fr.trans (Fr.below hb h.en.size),(hb.block _ (lt_of_block h.kr)).trans h.kr,h.ne⟩
theorem Kp.step (h:Kp E B b0 F M W0 w0 cs w) (he:En E B F M' W0 w') (hf:Fr E B w w'):Kp E B b0 F M' W0 w0 cs w' :=
 ⟨he,h.fr.trans hf,hf.2 _ _ h.kr h.ne.1 h.ne.2 (by simp),h.ne⟩
theorem Kp.fB (h:Kp E B b0 F M W0 w0 cs w):∃p:Nat,p≤F.k+M∧w.cell? ⟨E,0,none⟩=some (.iface 142 (.pointer (some ⟨B,0,none⟩)))∧w.cell? ⟨E,1,none⟩=some (.slice F.a F.l F.c)∧w.cell? ⟨E,2,none⟩=some (.iface 160 (.agg #[]))∧w.cell? ⟨E,3,none⟩=some (.int .i64 p)∧w.frozen? ⟨E,3,none⟩=false∧w.frozen? ⟨E,1,none⟩=false:=by
 obtain⟨p,hp,he⟩:=h.en.enc
 obtain⟨c0,c1,c2,c3,f3,f1⟩:=jC he
 exact⟨p,hp,c0,c1,c2,c3,f3,f1⟩
theorem Kp.box {v s:Value} (h:Kp E B b0 F M W0 w0 #[v,s] w):w.cell? ⟨b0,0,none⟩=some v∧w.cell? ⟨b0,1,none⟩=some s:=⟨au h.kr 0 rfl,au h.kr 1 rfl⟩
theorem Kp.fin {x:Int} {p q:Nat} (h:Kp E B b0 F M W0 w0 cs w) (hx:x=((p+q:Nat):Int)) (hp:p≤F.k+M) (hM:M+q≤M'):En E B F M' W0 (w.setCell ⟨E,3,none⟩ (.int .i64 x))∧Fr E B w0 (w.setCell ⟨E,3,none⟩ (.int .i64 x)):=by
 subst hx
 exact⟨h.en.pos (p+q) (by omega) (by omega),h.fr.trans (Fr.set h.en.lt _ _ _)⟩
end
def rP (E B:Nat) (F:EF) (M:Nat) (W0 w:World) (e:Ending) (w':World):Prop:=e=.returned (.tuple #[])∧En E B F M W0 w'∧Fr E B w w'
theorem alB {E B M:Nat} {F:EF} {W0 w:World} (h:En E B F M W0 w) (k:Int) (d:Int) (hd:d≤64) (hM:M≤90000000) :
  Calls prog 175 #[.pointer (some ⟨E,0,none⟩),.agg #[.iface 83 (.int .i16 k),.string (bs [110])],.int .i64 d] w (rP E B F (M+64) W0 w):=by
 have KP:=ah (Kp.new h #[.iface 83 (.int .i16 k),.string (bs [110])])
 have hkb:=h.kb
 have AL:=ah (kP 110 (by simp[dM]))
 obtain⟨al,hal,ql⟩:=AL.o
 have vV:=ah ql
 have ht:(bs [110]).toList=[110]:=bH _
 clear h ql AL
 obtain⟨b0,b1⟩:=KP.o.box
 obtain⟨p,hp,e0,e1,e2,e3,g3,g1⟩:=KP.o.fB
 go_enter func175,ntmps175
 go_wp2_with (first|((first|(go_at_call 207;refine(lZ _ _ _ _).mono ?_)|(go_at_call 77;refine(lN _ _ 110 _ 3 rfl _).mono ?_)|(go_at_call 110;refine(ahf k _ _).mono ?_));rintro e w1 ⟨rfl,hb⟩;have KP:=ah (KP.o.old hb);have ⟨b0,b1⟩:=KP.o.box;have ⟨p,hp,e0,e1,e2,e3,g3,g1⟩:=KP.o.fB;clear hb)|(go_at_call 206;refine gU (vV.o _) ?_)|((first|(go_at_call 143;refine(fV KP.o.en al hal (by omega)).mono ?_)|(go_at_call 209;refine(Q5 KP.o.en _ (by omega)).mono ?_));rintro e w1 ⟨rfl,h1,h2⟩;have KP:=ah (KP.o.step h1 h2);have ⟨b0,b1⟩:=KP.o.box;have ⟨p,hp,e0,e1,e2,e3,g3,g1⟩:=KP.o.fB;clear h1 h2))
 all_goals (
  go_end0
  exact⟨rfl,KP.o.fin (p:=p) (q:=2) (by omega) hp (by omega)⟩)
theorem alD {E B M:Nat} {F:EF} {W0 w:World} (h:En E B F M W0 w) (k:Int) (d:Int) (hd:d≤64) (hM:M≤90000000) :
  Calls prog 175 #[.pointer (some ⟨E,0,none⟩),.agg #[.iface 84 (.int .u16 k),.string (bs [113])],.int .i64 d] w (rP E B F (M+64) W0 w):=by
 have KP:=ah (Kp.new h #[.iface 84 (.int .u16 k),.string (bs [113])])
 have hkb:=h.kb
 have AL:=ah (kP 113 (by simp[dM]))
 obtain⟨al,hal,ql⟩:=AL.o
 have vV:=ah ql
 have ht:(bs [113]).toList=[113]:=bH _
 obtain⟨x,hx,hxk⟩:∃x:Nat,x<65536∧IntKind.u16.wrap (IntKind.u64.wrap k)=(x:Int):=JU _
 clear h ql AL
 obtain⟨b0,b1⟩:=KP.o.box
 obtain⟨p,hp,e0,e1,e2,e3,g3,g1⟩:=KP.o.fB
 go_enter func175,ntmps175
 go_wp2_with (first|((first|(go_at_call 207;refine(lZ _ _ _ _).mono ?_)|(go_at_call 77;refine(lN _ _ 113 _ 8 rfl _).mono ?_)|(go_at_call 111;refine(adl k _ _).mono ?_));rintro e w1 ⟨rfl,hb⟩;have KP:=ah (KP.o.old hb);have ⟨b0,b1⟩:=KP.o.box;have ⟨p,hp,e0,e1,e2,e3,g3,g1⟩:=KP.o.fB;clear hb)|(go_at_call 206;refine gU (vV.o _) ?_)|((first|(go_at_call 143;refine(fV KP.o.en al hal (by omega)).mono ?_)|(go_at_call 209;refine(Q7 KP.o.en x hx (by omega)).mono ?_));rintro e w1 ⟨rfl,h1,h2⟩;have KP:=ah (KP.o.step h1 h2);have ⟨b0,b1⟩:=KP.o.box;have ⟨p,hp,e0,e1,e2,e3,g3,g1⟩:=KP.o.fB;clear h1 h2))
 all_goals (
  go_end0
  exact⟨rfl,KP.o.fin (p:=p) (q:=2) (by omega) hp (by omega)⟩)
theorem alA {E B M:Nat} {F:EF} {W0 w:World} (h:En E B F M W0 w) (k:Int) (d:Int) (hd:d≤64) (hM:M≤90000000) :
  Calls prog 175 #[.pointer (some ⟨E,0,none⟩),.agg #[.iface 21 (.int .i32 k),.string (bs [105])],.int .i64 d] w (rP E B F (M+64) W0 w):=by
 have KP:=ah (Kp.new h #[.iface 21 (.int .i32 k),.string (bs [105])])
 have hkb:=h.kb
 have AL:=ah (kP 105 (by simp[dM]))
 obtain⟨al,hal,ql⟩:=AL.o
 have vV:=ah ql
 have ht:(bs [105]).toList=[105]:=bH _
 clear h ql AL
 obtain⟨b0,b1⟩:=KP.o.box
 obtain⟨p,hp,e0,e1,e2,e3,g3,g1⟩:=KP.o.fB
 go_enter func175,ntmps175
 go_wp2_with (first|((first|(go_at_call 207;refine(lZ _ _ _ _).mono ?_)|(go_at_call 77;refine(lN _ _ 105 _ 4 rfl _).mono ?_)|(go_at_call 110;refine(ahe k _ _).mono ?_));rintro e w1 ⟨rfl,hb⟩;have KP:=ah (KP.o.old hb);have ⟨b0,b1⟩:=KP.o.box;have ⟨p,hp,e0,e1,e2,e3,g3,g1⟩:=KP.o.fB;clear hb)|(go_at_call 206;refine gU (vV.o _) ?_)|((first|(go_at_call 143;refine(fV KP.o.en al hal (by omega)).mono ?_)|(go_at_call 209;refine(QZ KP.o.en _ (by omega)).mono ?_));rintro e w1 ⟨rfl,h1,h2⟩;have KP:=ah (KP.o.step h1 h2);have ⟨b0,b1⟩:=KP.o.box;have ⟨p,hp,e0,e1,e2,e3,g3,g1⟩:=KP.o.fB;clear h1 h2))
 all_goals (
  go_end0
  exact⟨rfl,KP.o.fin (p:=p) (q:=4) (by omega) hp (by omega)⟩)
theorem DV {E B M:Nat} {F:EF} {W0 w:World} (h:En E B F M W0 w) (k:Int) (d:Int) (hd:d≤64) (hM:M≤90000000) :
  Calls prog 175 #[.pointer (some ⟨E,0,none⟩),.agg #[.iface 22 (.int .u32 k),.string (bs [117])],.int .i64 d] w (rP E B F (M+64) W0 w):=by
 have KP:=ah (Kp.new h #[.iface 22 (.int .u32 k),.string (bs [117])])
 have hkb:=h.kb
 have AL:=ah (kP 117 (by simp[dM]))
 obtain⟨al,hal,ql⟩:=AL.o
 have vV:=ah ql
 have ht:(bs [117]).toList=[117]:=bH _
 obtain⟨x,hx,hxk⟩:∃x:Nat,x<4294967296∧IntKind.u32.wrap (IntKind.u64.wrap k)=(x:Int):=DI _
 clear h ql AL
 obtain⟨b0,b1⟩:=KP.o.box
 obtain⟨p,hp,e0,e1,e2,e3,g3,g1⟩:=KP.o.fB
 go_enter func175,ntmps175
 go_wp2_with (first|((first|(go_at_call 207;refine(lZ _ _ _ _).mono ?_)|(go_at_call 77;refine(lN _ _ 117 _ 9 rfl _).mono ?_)|(go_at_call 111;refine(ado k _ _).mono ?_));rintro e w1 ⟨rfl,hb⟩;have KP:=ah (KP.o.old hb);have ⟨b0,b1⟩:=KP.o.box;have ⟨p,hp,e0,e1,e2,e3,g3,g1⟩:=KP.o.fB;clear hb)|(go_at_call 206;refine gU (vV.o _) ?_)|((first|(go_at_call 143;refine(fV KP.o.en al hal (by omega)).mono ?_)|(go_at_call 209;refine(Fp KP.o.en x hx (by omega)).mono ?_));rintro e w1 ⟨rfl,h1,h2⟩;have KP:=ah (KP.o.step h1 h2);have ⟨b0,b1⟩:=KP.o.box;have ⟨p,hp,e0,e1,e2,e3,g3,g1⟩:=KP.o.fB;clear h1 h2))
 all_goals (
  go_end0
  exact⟨rfl,KP.o.fin (p:=p) (q:=4) (by omega) hp (by omega)⟩)
theorem alz {E B M:Nat} {F:EF} {W0 w:World} (h:En E B F M W0 w) (k:Int) (d:Int) (hd:d≤64) (hM:M≤90000000) :
  Calls prog 175 #[.pointer (some ⟨E,0,none⟩),.agg #[.iface 88 (.int .u32 k),.string (bs [104])],.int .i64 d] w (rP E B F (M+64) W0 w):=by
 have KP:=ah (Kp.new h #[.iface 88 (.int .u32 k),.string (bs [104])])
 have hkb:=h.kb
 have AL:=ah (kP 104 (by simp[dM]))
 obtain⟨al,hal,ql⟩:=AL.o
 have vV:=ah ql
 have ht:(bs [104]).toList=[104]:=bH _
 obtain⟨x,hx,hxk⟩:∃x:Nat,x<4294967296∧IntKind.u32.wrap (IntKind.u64.wrap k)=(x:Int):=DI _
 clear h ql AL
 obtain⟨b0,b1⟩:=KP.o.box
 obtain⟨p,hp,e0,e1,e2,e3,g3,g1⟩:=KP.o.fB
 go_enter func175,ntmps175
 go_wp2_with (first|((first|(go_at_call 207;refine(lZ _ _ _ _).mono ?_)|(go_at_call 77;refine(lN _ _ 104 _ 9 rfl _).mono ?_)|(go_at_call 111;refine(adk k _ _).mono ?_));rintro e w1 ⟨rfl,hb⟩;have KP:=ah (KP.o.old hb);have ⟨b0,b1⟩:=KP.o.box;have ⟨p,hp,e0,e1,e2,e3,g3,g1⟩:=KP.o.fB;clear hb)|(go_at_call 206;refine gU (vV.o _) ?_)|((first|(go_at_call 143;refine(fV KP.o.en al hal (by omega)).mono ?_)|(go_at_call 209;refine(Fp KP.o.en x hx (by omega)).mono ?_));rintro e w1 ⟨rfl,h1,h2⟩;have KP:=ah (KP.o.step h1 h2);have ⟨b0,b1⟩:=KP.o.box;have ⟨p,hp,e0,e1,e2,e3,g3,g1⟩:=KP.o.fB;clear h1 h2))
 all_goals (
  go_end0
  exact⟨rfl,KP.o.fin (p:=p) (q:=4) (by omega) hp (by omega)⟩)
theorem alG {E B M:Nat} {F:EF} {W0 w:World} (h:En E B F M W0 w) (k:Int) (d:Int) (hd:d≤64) (hM:M≤90000000) :
  Calls prog 175 #[.pointer (some ⟨E,0,none⟩),.agg #[.iface 2 (.int .i64 k),.string (bs [120])],.int .i64 d] w (rP E B F (M+64) W0 w):=by
 have KP:=ah (Kp.new h #[.iface 2 (.int .i64 k),.string (bs [120])])
 have hkb:=h.kb
 have AL:=ah (kP 120 (by simp[dM]))
 obtain⟨al,hal,ql⟩:=AL.o
 have vV:=ah ql
 have ht:(bs [120]).toList=[120]:=bH _
 clear h ql AL
 obtain⟨b0,b1⟩:=KP.o.box
 obtain⟨p,hp,e0,e1,e2,e3,g3,g1⟩:=KP.o.fB
 go_enter func175,ntmps175
 go_wp2_with (first|((first|(go_at_call 207;refine(lZ _ _ _ _).mono ?_)|(go_at_call 77;refine(lN _ _ 120 _ 5 rfl _).mono ?_)|(go_at_call 110;refine(ahg k _ _).mono ?_));rintro e w1 ⟨rfl,hb⟩;have KP:=ah (KP.o.old hb);have ⟨b0,b1⟩:=KP.o.box;have ⟨p,hp,e0,e1,e2,e3,g3,g1⟩:=KP.o.fB;clear hb)|(go_at_call 206;refine gU (vV.o _) ?_)|((first|(go_at_call 143;refine(fV KP.o.en al hal (by omega)).mono ?_)|(go_at_call 209;refine(Q9 KP.o.en _ (by omega)).mono ?_));rintro e w1 ⟨rfl,h1,h2⟩;have KP:=ah (KP.o.step h1 h2);have ⟨b0,b1⟩:=KP.o.box;have ⟨p,hp,e0,e1,e2,e3,g3,g1⟩:=KP.o.fB;clear h1 h2))
 all_goals (
  go_end0
  exact⟨rfl,KP.o.fin (p:=p) (q:=8) (by omega) hp (by omega)⟩)
theorem alF {E B M:Nat} {F:EF} {W0 w:World} (h:En E B F M W0 w) (x:Nat) (hx:x<18446744073709551616) (d:Int) (hd:d≤64) (hM:M≤90000000) :
  Calls prog 175 #[.pointer (some ⟨E,0,none⟩),.agg #[.iface 30 (.int .u64 (x:Int)),.string (bs [116])],.int .i64 d] w (rP E B F (M+64) W0 w):=by
 have KP:=ah (Kp.new h #[.iface 30 (.int .u64 (x:Int)),.string (bs [116])])
 have hkb:=h.kb
 have AL:=ah (kP 116 (by simp[dM]))
 obtain⟨al,hal,ql⟩:=AL.o
 have vV:=ah ql
 have ht:(bs [116]).toList=[116]:=bH _
 clear h ql AL
 obtain⟨b0,b1⟩:=KP.o.box
 obtain⟨p,hp,e0,e1,e2,e3,g3,g1⟩:=KP.o.fB
 go_enter func175,ntmps175
 go_wp2_with (first|((first|(go_at_call 207;refine(lZ _ _ _ _).mono ?_)|(go_at_call 77;refine(lN _ _ 116 _ 10 rfl _).mono ?_)|(go_at_call 111;refine(adn x _ _).mono ?_));rintro e w1 ⟨rfl,hb⟩;have KP:=ah (KP.o.old hb);have ⟨b0,b1⟩:=KP.o.box;have ⟨p,hp,e0,e1,e2,e3,g3,g1⟩:=KP.o.fB;clear hb)|(go_at_call 206;refine gU (vV.o _) ?_)|((first|(go_at_call 143;refine(fV KP.o.en al hal (by omega)).mono ?_)|(go_at_call 209;refine(Q8 KP.o.en x hx (by omega)).mono ?_));rintro e w1 ⟨rfl,h1,h2⟩;have KP:=ah (KP.o.step h1 h2);have ⟨b0,b1⟩:=KP.o.box;have ⟨p,hp,e0,e1,e2,e3,g3,g1⟩:=KP.o.fB;clear h1 h2))
 all_goals (
  go_end0
  exact⟨rfl,KP.o.fin (p:=p) (q:=8) (by omega) hp (by omega)⟩)
theorem aly {E B M:Nat} {F:EF} {W0 w:World} (h:En E B F M W0 w) (x:Nat) (hx:x<18446744073709551616) (d:Int) (hd:d≤64) (hM:M≤90000000) :
  Calls prog 175 #[.pointer (some ⟨E,0,none⟩),.agg #[.iface 85 (.float .f64 x),.string (bs [100])],.int .i64 d] w (rP E B F (M+64) W0 w):=by
 have KP:=ah (Kp.new h #[.iface 85 (.float .f64 x),.string (bs [100])])
 have hkb:=h.kb
 have AL:=ah (kP 100 (by simp[dM]))
 obtain⟨al,hal,ql⟩:=AL.o
 have vV:=ah ql
 have ht:(bs [100]).toList=[100]:=bH _
 clear h ql AL
 obtain⟨b0,b1⟩:=KP.o.box
 obtain⟨p,hp,e0,e1,e2,e3,g3,g1⟩:=KP.o.fB
 go_enter func175,ntmps175
 go_wp2_with (first|((first|(go_at_call 207;refine(lZ _ _ _ _).mono ?_)|(go_at_call 77;refine(lN _ _ 100 _ 11 rfl _).mono ?_)|(go_at_call 210;refine(akb x _ _).mono ?_));rintro e w1 ⟨rfl,hb⟩;have KP:=ah (KP.o.old hb);have ⟨b0,b1⟩:=KP.o.box;have ⟨p,hp,e0,e1,e2,e3,g3,g1⟩:=KP.o.fB;clear hb)|(go_at_call 206;refine gU (vV.o _) ?_)|((first|(go_at_call 143;refine(fV KP.o.en al hal (by omega)).mono ?_)|(go_at_call 209;refine(QY KP.o.en x hx (by omega)).mono ?_));rintro e w1 ⟨rfl,h1,h2⟩;have KP:=ah (KP.o.step h1 h2);have ⟨b0,b1⟩:=KP.o.box;have ⟨p,hp,e0,e1,e2,e3,g3,g1⟩:=KP.o.fB;clear h1 h2))
 all_goals (
  go_end0
  exact⟨rfl,KP.o.fin (p:=p) (q:=8) (by omega) hp (by omega)⟩)
end
theorem Xi (wk:World) (s:bG) (n:Nat) (hn:s.size=n) (hle:n≤1000000):∃W5,
  (Builtin.copy_ #[65,9] 3 #[.slice (some ⟨wk.heap.size,0,none⟩) (n+1) (n+1),.string s]).run prog (wk.alloc (.cells (Lib.byteCells (List.replicate (n+1) 0)).toArray 5))=.ok (.int .i64 n) W5 ∧
  W5.cell? ⟨wk.heap.size,n,none⟩=some (.int .u8 0)∧W5.frozen? ⟨wk.heap.size,n,none⟩=false ∧
  Below wk.heap.size wk (W5.setCell ⟨wk.heap.size,n,none⟩ (.int .u8 0)) ∧
  (∀j v,(Lib.byteCells (s.data.toList++[0]))[j]?=some v→(W5.setCell ⟨wk.heap.size,n,none⟩ (.int .u8 0)).cell? ((⟨wk.heap.size,0,none⟩:Addr).add j)=some v):=by
 have hb:(wk.alloc (.cells (Lib.byteCells (List.replicate (n+1) 0)).toArray 5)).heap[wk.heap.size]?=some (.cells (Lib.byteCells (List.replicate (n+1) 0)).toArray 5 (0,0)):=aV _ _ _ rfl
 have hl2:(Lib.byteCells (List.replicate (n+1) (0:UInt8))).length=n+1:=by rw[Lib.byteCells_length,List.length_replicate]
 have hsl:(Lib.byteCells s.data.toList).length=n:=by rw[Lib.byteCells_length,←Lib.size_eq,hn]
 have h:=Lib.run_copy_row_string (P:=prog) (wk.alloc (.cells (Lib.byteCells (List.replicate (n+1) 0)).toArray 5)) 65 9 3 5 wk.heap.size 0 (n+1) (n+1) s _ 5 underlying65 (by kernel_rfl) hb (by omega) (by simp[hl2];omega)
 have hz:((Lib.byteCells (List.replicate (n+1) (0:UInt8))).toArray.toList.take 0++Lib.byteCells s.data.toList++(Lib.byteCells (List.replicate (n+1) (0:UInt8))).toArray.toList.drop (0+s.size))=Lib.byteCells (s.data.toList++[0]):=by
  rw[Lib.byteCells_append,List.take_zero,List.nil_append,Nat.zero_add,hn]
  congr 1
  show(Lib.byteCells (List.replicate (n+1) (0:UInt8))).drop n=_
  unfold Lib.byteCells
  rw[←List.map_drop,List.drop_replicate,show n+1-n=1 by omega]
  rfl
 rw[hz,hn]at h
 have hrow:=setRow_heap (wk.alloc (.cells (Lib.byteCells (List.replicate (n+1) 0)).toArray 5)) wk.heap.size _ (Lib.byteCells (s.data.toList++[0])).toArray 5 (0,0) hb
 have hbel:=below_setRow ((Below.refl wk.heap.size wk).alloc bW (.cells (Lib.byteCells (List.replicate (n+1) 0)).toArray 5)) (Nat.le_refl wk.heap.size) (Lib.byteCells (s.data.toList++[0])).toArray
 refine⟨_,h,?_,aI hrow n,hbel.setCell (p:=⟨wk.heap.size,n,none⟩) bW _,fun j v hj=>?_⟩
 ·refine au hrow n ?_
  rw[List.getElem?_toArray,Lib.byteCells_append,List.getElem?_append_right (by omega),hsl,Nat.sub_self]
  rfl
 ·rw[add_plain]
  have h2:=Joins.block_setCell hrow (i:=n) (.int .u8 0)
  refine au h2 j ?_
  by_cases e:j=n
  ·subst e
   have hv:v=.int .u8 0:=by
    rw[Lib.byteCells_append,List.getElem?_append_right (by omega),hsl,Nat.sub_self]at hj
    exact(dU hj).symm
   rw[hv,Array.getElem?_setIfInBounds_self_of_lt]
   have h3:(Lib.byteCells (s.data.toList++[0])).length=j+1:=by rw[Lib.byteCells_append,dY,hsl];rfl
   simp[h3]
  ·rw[Array.getElem?_setIfInBounds_ne (fun h=>e h.symm),List.getElem?_toArray]
   exact hj
theorem adr (s sg:bG) (w:World):fC 78 #[.agg #[.iface 9 (.string s),.string sg]] w (.int .i64 s.size):=by
 go_enter func78,ntmps78
 go_wp2
 go_ret
 exact⟨rfl,gG _⟩
theorem akc (s sg:bG) (w:World):fC 78 #[.agg #[.iface 87 (.string s),.string sg]] w (.int .i64 s.size):=by
 go_enter func78,ntmps78
 go_wp2
 go_ret
 exact⟨rfl,gG _⟩
theorem index_none (c:UInt8):∀l:List UInt8,c∉l→Lib.indexByte l c=-1
 |[],_=>rfl
 |b::l,h=>by
  have h1:(b==c)=false:=by rw[kS];intro e;exact h (by simp[e])
  have h2:=index_none c l (fun hm=>h (List.mem_cons_of_mem _ hm))
  simp[Lib.indexByte,h1,h2]
theorem Xa (s:bG) (h:zI s):Lib.indexByte s.data.toList ((0:Int).toNat.toUInt8)=-1:=by
 have h0:(0:UInt8)∉s.data.toList:=by
  intro hm
  obtain⟨i,hi,he⟩:=List.getElem_of_mem hm
  have hs:i<s.size:=by rw[Array.length_toList]at hi;exact hi
  exact h.2 i hs (by rw[←he];rfl)
 exact index_none _ _ h0
theorem alE {E B M:Nat} {F:EF} {W0 w:World} (h:En E B F M W0 w) (s:bG) (hok:zI s) (hsz:s.size≤1000000) (hT:Lib.Utf8Tabs 8 9 W0) (d:Int) (hd:d≤64) (hM:M≤80000000) :
  Calls prog 175 #[.pointer (some ⟨E,0,none⟩),.agg #[.iface 9 (.string s),.string (bs [115])],.int .i64 d] w (rP E B F (M+2*s.size+256) W0 w):=by
 have KP:=ah (Kp.new h #[.iface 9 (.string s),.string (bs [115])])
 have hkb:=h.kb
 have AL:=ah (kP 115 (by simp[dM]))
 obtain⟨al,hal,ql⟩:=AL.o
 have vV:=ah ql
 have ht:(bs [115]).toList=[115]:=bH _
 have nY:=ah h.size
 obtain⟨n,hn⟩:∃n,s.size=n:=⟨_,rfl⟩
 have HN:=ah hn
 have UV:=ah (fun W hT=>utf8_ValidString s W (by omega) hT)
 have NZ:=ah (Xa s hok)
 have VD:=ah hok.1
 have PT:=ah hT
 have hmk:∀w,(Instr.makeSlice 65 (.int .i64 ((n:Int)+1)) (.int .i64 ((n:Int)+1))).run prog w=.ok (.slice (some ⟨w.heap.size,0,none⟩) (n+1) (n+1)) (w.alloc (.cells (Lib.byteCells (List.replicate (n+1) 0)).toArray 5)):=fun w=>lJ (n+1) (by omega) w
 have hme:=ig
 have hca:=call262
 clear h ql AL hT
 obtain⟨b0,b1⟩:=KP.o.box
 obtain⟨p,hp,e0,e1,e2,e3,g3,g1⟩:=KP.o.fB
 go_enter func175,ntmps175
 go_wp2_with (first|((first|(go_at_call 207;refine(lZ _ _ _ _).mono ?_)|(go_at_call 77;refine(lN _ _ 115 _ 17 rfl _).mono ?_)|(go_at_call 211;refine(ads s _ _).mono ?_)|(go_at_call 52;refine(valueOf (A.sc (.u _)) (by simp[A.dN,T.ty]) _ (fun _=>True) _ rfl).mono ?_));rintro e w1 ⟨rfl,hb⟩;have KP:=ah (KP.o.old hb);have ⟨b0,b1⟩:=KP.o.box;have ⟨p,hp,e0,e1,e2,e3,g3,g1⟩:=KP.o.fB;clear hb)|(go_at_call 206;refine gU (vV.o _) ?_)|((first|(go_at_call 143;refine(fV KP.o.en al hal (by omega)).mono ?_)|(go_at_call 175;refine(DV KP.o.en _ d hd (by omega)).mono ?_));rintro e w1 ⟨rfl,h1,h2⟩;have KP:=ah (KP.o.step h1 h2);have ⟨b0,b1⟩:=KP.o.box;have ⟨p,hp,e0,e1,e2,e3,g3,g1⟩:=KP.o.fB;clear h1 h2)|(go_at_call 150;refine(UV.o _ (Utf8Tabs_below PT.o KP.o.en.eX)).mono ?_;rintro e w1 ⟨rfl,hb⟩;rw[VD.o];have KP:=ah (KP.o.old hb);have ⟨b0,b1⟩:=KP.o.box;have ⟨p,hp,e0,e1,e2,e3,g3,g1⟩:=KP.o.fB;clear hb)|(go_at_call 212;refine gU (strings_IndexByte s 0 _) ?_;rw[NZ.o])|(go_at_call 78;refine(adr s _ _).mono ?_;rintro e w1 ⟨rfl,hb⟩;rw[HN.o];have KP:=ah (KP.o.old hb);obtain⟨W5,hcopy,hc5,hf5,hb5,hs5⟩:=Xi w1 s n HN.o (by omega);have H1:=ah KP.o.en.size;have KP:=ah (KP.o.old hb5);have HS5:=ah hs5;have ⟨b0,b1⟩:=KP.o.box;have ⟨p,hp,e0,e1,e2,e3,g3,g1⟩:=KP.o.fB;clear hb hb5 hs5)|(go_at_call 262;refine(KP.o.en.write (s.data.toList++[0]) ⟨_,0,none⟩ (n+1) (n+1) (by rw[dY,←Lib.size_eq,HN.o];rfl) (by have:=H1.o;simp;omega) HS5.o (by omega)).mono ?_;rintro e w3 ⟨rfl,h1,h2⟩;have KP:=ah (KP.o.step h1 h2);have ⟨b0,b1⟩:=KP.o.box;have ⟨p,hp,e0,e1,e2,e3,g3,g1⟩:=KP.o.fB;clear h1 h2))
 all_goals (
  go_end0
  exact⟨rfl,KP.o.fin (p:=p) (q:=n+1) (by omega) hp (by have:=HN.o;omega)⟩)
theorem alC {E B M:Nat} {F:EF} {W0 w:World} (h:En E B F M W0 w) (s:bG) (hok:zI s) (hsz:s.size≤1000000) (hT:Lib.Utf8Tabs 8 9 W0) (hpv:∀W,fC 170 #[.string s] W (.bool true)) (d:Int) (hd:d≤64) (hM:M≤80000000) :
  Calls prog 175 #[.pointer (some ⟨E,0,none⟩),.agg #[.iface 87 (.string s),.string (bs [111])],.int .i64 d] w (rP E B F (M+2*s.size+256) W0 w):=by
 have KP:=ah (Kp.new h #[.iface 87 (.string s),.string (bs [111])])
 have hkb:=h.kb
 have AL:=ah (kP 111 (by simp[dM]))
 obtain⟨al,hal,ql⟩:=AL.o
 have vV:=ah ql
 have ht:(bs [111]).toList=[111]:=bH _
 have nY:=ah h.size
 obtain⟨n,hn⟩:∃n,s.size=n:=⟨_,rfl⟩
 have HN:=ah hn
 have UV:=ah (fun W hT=>utf8_ValidString s W (by omega) hT)
 have NZ:=ah (Xa s hok)
 have VD:=ah hok.1
 have PT:=ah hT
 have hmk:∀w,(Instr.makeSlice 65 (.int .i64 ((n:Int)+1)) (.int .i64 ((n:Int)+1))).run prog w=.ok (.slice (some ⟨w.heap.size,0,none⟩) (n+1) (n+1)) (w.alloc (.cells (Lib.byteCells (List.replicate (n+1) 0)).toArray 5)):=fun w=>lJ (n+1) (by omega) w
 have hme:=ig
 have hca:=call262
 have PVW:=ah hpv
 clear hpv
 clear h ql AL hT
 obtain⟨b0,b1⟩:=KP.o.box
 obtain⟨p,hp,e0,e1,e2,e3,g3,g1⟩:=KP.o.fB
 go_enter func175,ntmps175
 go_wp2_with (first|((first|(go_at_call 207;refine(lZ _ _ _ _).mono ?_)|(go_at_call 77;refine(lN _ _ 111 _ 17 rfl _).mono ?_)|(go_at_call 211;refine(akd s _ _).mono ?_)|(go_at_call 170;refine(PVW.o _).mono ?_)|(go_at_call 52;refine(valueOf (A.sc (.u _)) (by simp[A.dN,T.ty]) _ (fun _=>True) _ rfl).mono ?_));rintro e w1 ⟨rfl,hb⟩;have KP:=ah (KP.o.old hb);have ⟨b0,b1⟩:=KP.o.box;have ⟨p,hp,e0,e1,e2,e3,g3,g1⟩:=KP.o.fB;clear hb)|(go_at_call 206;refine gU (vV.o _) ?_)|((first|(go_at_call 143;refine(fV KP.o.en al hal (by omega)).mono ?_)|(go_at_call 175;refine(DV KP.o.en _ d hd (by omega)).mono ?_));rintro e w1 ⟨rfl,h1,h2⟩;have KP:=ah (KP.o.step h1 h2);have ⟨b0,b1⟩:=KP.o.box;have ⟨p,hp,e0,e1,e2,e3,g3,g1⟩:=KP.o.fB;clear h1 h2)|(go_at_call 150;refine(UV.o _ (Utf8Tabs_below PT.o KP.o.en.eX)).mono ?_;rintro e w1 ⟨rfl,hb⟩;rw[VD.o];have KP:=ah (KP.o.old hb);have ⟨b0,b1⟩:=KP.o.box;have ⟨p,hp,e0,e1,e2,e3,g3,g1⟩:=KP.o.fB;clear hb)|(go_at_call 212;refine gU (strings_IndexByte s 0 _) ?_;rw[NZ.o])|(go_at_call 78;refine(akc s _ _).mono ?_;rintro e w1 ⟨rfl,hb⟩;rw[HN.o];have KP:=ah (KP.o.old hb);obtain⟨W5,hcopy,hc5,hf5,hb5,hs5⟩:=Xi w1 s n HN.o (by omega);have H1:=ah KP.o.en.size;have KP:=ah (KP.o.old hb5);have HS5:=ah hs5;have ⟨b0,b1⟩:=KP.o.box;have ⟨p,hp,e0,e1,e2,e3,g3,g1⟩:=KP.o.fB;clear hb hb5 hs5)|(go_at_call 262;refine(KP.o.en.write (s.data.toList++[0]) ⟨_,0,none⟩ (n+1) (n+1) (by rw[dY,←Lib.size_eq,HN.o];rfl) (by have:=H1.o;simp;omega) HS5.o (by omega)).mono ?_;rintro e w3 ⟨rfl,h1,h2⟩;have KP:=ah (KP.o.step h1 h2);have ⟨b0,b1⟩:=KP.o.box;have ⟨p,hp,e0,e1,e2,e3,g3,g1⟩:=KP.o.fB;clear h1 h2))
 all_goals (
  go_end0
  exact⟨rfl,KP.o.fin (p:=p) (q:=n+1) (by omega) hp (by have:=HN.o;omega)⟩)
end Go.Proofs.YtllcccekodcdmaaGreatDoor.Ms
