import Derived.Test.YtllcccekodcdmaaGreatDoorC14
import Derived.Test.YtllcccekodcdmaaGreatDoorC25
set_option linter.unusedVariables false
set_option linter.unusedSimpArgs false
set_option maxRecDepth 100000
set_option maxHeartbeats 32000000
open Go.Proofs.Tryz
namespace Go.Proofs.YtllcccekodcdmaaGreatDoor.Ms
open Go Go.RowKit Go.Proofs.ak.aT Go.Proofs.ak.cO Go.Proofs.YtllcccekodcdmaaGreatDoor.bK
theorem afG (p:Value) (w:World):CallsD prog 174 #[p] .returning w fun e u' w'=>e=.returned (.tuple #[])∧u'=.returning∧w'=w:=by
 refine callsD_of_wpS func174 rfl fun c₀ cs hu=>?_
 apply wpS_seq
 apply wpS_region
 simp[wpOpsS,go_sem,recoverD,hu,ntmps174,Exit.thenS]
 apply wpS_seq
 apply wpS_seq
 apply wpS_region
 simp[wpOpsS,go_sem,Exit.thenS]
 refine wpS_cond (t:=true) (by simp[Act.eval,Array.replicate]) ?_
 simp only[if_true]
 refine wpS_of_wp (wp_ret ?_)
 cases c₀
 simp_all [bodyPostS,results,results174,Exit.thenS]
def NW (W0:World) (v:Value) (C:Nat):Prop:=∃S:bG,(∀W,Below W0.heap.size W0 W→fC 52 #[v] W (.agg #[v,.string S])) ∧
 ∀E B M F w,En E B F M W0 w→F.k+M+C≤60000000→Calls prog 175 #[.pointer (some ⟨E,0,none⟩),.agg #[v,.string S],.int .i64 0] w (rP E B F (M+C) W0 w)
theorem U4 {a:A} (h:mG a) (hl:a.dN.ty.length≤1000000) (hd:a.dep≤64) {W0:World} {ok:Nat→Prop} {v:Value} (hv:HA W0 ok a v) (hT:Lib.Utf8Tabs 8 9 W0):NW W0 v a.ec :=
 ⟨bs a.dN.ty,fun W hb=>valueOf a hl _ ok W (hv.below hb),fun E B M F w hE hM=>h ok v E B M F W0 w 0 hv hT hE hM (by omega) (by omega)⟩
def tX (l:List (Value×Nat)):Nat:=(l.map Prod.snd).sum
theorem Y4 (l:List (Value×Nat)) (k:Nat) (h:k<l.length):tX (l.take (k+1))=tX (l.take k)+(l[k]).2:=by
 unfold tX;rw[lu h,List.map_append,List.sum_append];rfl
theorem Y5 (l:List (Value×Nat)) (k:Nat):tX (l.take k)≤tX l:=by
 unfold tX
 conv=>rhs;rw[←List.take_append_drop k l,List.map_append,List.sum_append]
 omega
theorem En.TI {E B M k i:Nat} {F:EF} {W0 w:World} {c:Array Value} {T:TypeId} {fz:Nat×Nat} (h:En E B F M W0 w) (hk:w.heap[k]?=some (.cells c T fz)) (hT:T≠220∧T≠151∧T≠5) (hW:W0.heap.size≤k) (v:Value):En E B F M W0 (w.setCell ⟨k,i,none⟩ v):=by
 obtain⟨⟨p,hp,he⟩,⟨l,hl,hB,v1,lr,hbk,hown,hne⟩,hbel,hle,hlt,hkb⟩:=h
 have hkE:E≠k:=by rintro rfl;rw[hk]at he;simp at he;exact hT.1 he.2.1
 have hkB:B≠k:=by rintro rfl;rw[hk]at hbk;simp at hbk;exact hT.2.1 hbk.2.1
 have hs:∀j,j≠k→(w.setCell ⟨k,i,none⟩ v).heap[j]?=w.heap[j]?:=fun j hj=>ku _ _ _ _ hj
 refine⟨⟨p,hp,(hs _ hkE).trans he⟩,⟨l,hl,hB,v1,lr,(hs _ hkB).trans hbk,⟨hown.1,?_⟩,hne⟩,hbel.setCell (p:=⟨k,i,none⟩) hW _,hle,hlt,hkb⟩
 rcases hown.2 with hn|⟨g,cap,cur,hv,h0,hg,rest⟩
 ·exact .inl hn
 ·refine .inr ⟨g,cap,cur,hv,h0,(hs g ?_).trans hg,rest⟩
  rintro rfl
  rw[hk]at hg
  simp at hg
  exact hT.2.2 hg.2.1
theorem En.stays {E B M k:Nat} {F:EF} {W0 w w':World} {c:Array Value} {T:TypeId} {fz:Nat×Nat} (h:En E B F M W0 w) (hf:Fr E B w w') (hk:w.heap[k]?=some (.cells c T fz)) (hT:T≠220∧T≠151∧T≠5):w'.heap[k]?=some (.cells c T fz):=by
 obtain⟨p,hp,he⟩:=h.enc
 obtain⟨l,hl,hB,v1,lr,hbk,-⟩:=h.buf
 refine hf.2 _ _ hk ?_ ?_ ?_
 ·rintro rfl;rw[hk]at he;simp at he;exact hT.1 he.2.1
 ·rintro rfl;rw[hk]at hbk;simp at hbk;exact hT.2.1 hbk.2.1
 ·intro c2 fz2 e;simp at e;exact hT.2.2 e.2.1
def adL (E B:Nat) (F:EF) (M:Nat) (W0 w:World) (e:Ending) (w':World):Prop:=e=.returned .nilIface∧En E B F M W0 w'∧Fr E B w w'
structure apP (K M X:Nat):Prop where
 o:K+M+X≤60000000
theorem FY (l:List (Value×Nat)) {E B M:Nat} {F:EF} {W0 w:World} (h:En E B F M W0 w) (g n c:Nat) (cs:Array Value) (T:TypeId) (fz:Nat×Nat) (hn:l.length=n) (hg:w.heap[g]?=some (.cells cs T fz)) (hT:T≠220∧T≠151∧T≠5)
  (hcs:∀i (h:i<l.length),cs[i]?=some (l[i]).1) (hv:∀i (h:i<l.length),NW W0 (l[i]).1 (l[i]).2) (hif:∀i (h:i<l.length),∃t u,(l[i]).1=.iface t u) (hM:F.k+M+tX l≤60000000) (hnm:n≤1000000) :
  Calls prog 141 #[.pointer (some ⟨E,0,none⟩),.slice (some ⟨g,0,none⟩) n c] w (adL E B F (M+tX l) W0 w):=by
 have hmf:∀(fn:Fn) (first cap:Array Value) (w:World),(Instr.makeFunc fn first cap).run prog w=.ok (.func fn first cap) w:=fun _ _ _ _=>rfl
 have hb0:Below w.heap.size w (w.alloc (.cells #[.nilIface] 48)):=gG _
 have EN0:=ah (h.old hb0)
 have FR0:=ah (Fr.below (E:=E) hb0 h.size)
 have HG0:=ah ((hb0.block _ (lt_of_block hg)).trans hg)
 have KR0:=ah (aV w (.cells #[.nilIface] 48) _ rfl)
 have nY:=ah (⟨h.size,h.eX.size,h.ltE⟩:B<w.heap.size∧W0.heap.size≤w.heap.size∧E<w.heap.size)
 have HN:=ah hn
 have HCS:=ah hcs
 have HV:=ah hv
 have ZP:=ah hif
 have HT:=ah hT
 have LM:apP F.k M (tX l):=⟨hM⟩
 clear hb0 h hg hn hcs hv hif hT hM
 go_enter_defers func141,ntmps141
 go_wp2
 go_loopw [10] (fun t wr=>∃k:Nat,k≤n∧t=.int .i64 k∧aj (En E B F (M+tX (l.take k)) W0 wr∧Fr E B w wr∧wr.heap[g]?=some (.cells cs T fz)∧wr.heap[w.heap.size]?=some (.cells #[.nilIface] 48 (0,0)))) (fun t _=>n-(intOf t).toNat)
 case atStart=>exact⟨0,jf _,rfl,⟨EN0.o,FR0.o,HG0.o,KR0.o⟩⟩
 case round =>
  clear EN0 FR0 HG0 KR0
  obtain⟨k,hkn,rfl,HR⟩:=hrel
  by_cases hk:k<n
  ·have hkl:k<l.length:=by rw[HN.o];exact hk
   have hce:=HCS.o k hkl
   obtain⟨S,hv1,hv2⟩:=HV.o k hkl
   obtain⟨t,u,htu⟩:=ZP.o k hkl
   have c1:=Y4 l k hkl
   have c2:=Y5 l (k+1)
   rw[htu]at hce hv1 hv2
   have c0:=au HR.o.2.2.1 k hce
   have V1:=ah hv1
   have V2:=ah (fun w' (hE':En E B F (M+tX (l.take k)) W0 w')=>hv2 E B _ F w' hE' (by have:=LM.o;omega))
   have LX:=ah (by omega:M+tX (l.take k)+(l[k]).2=M+tX (l.take (k+1)))
   generalize (l[k]).2=C at *
   have Jo:(k:Int)<n:=by omega
   clear c1 c2 hce hv1 hv2 htu
   go_wp2_with (first
    |(go_at_call 52;refine(V1.o _ HR.o.1.eX).mono ?_;rintro e w1 ⟨rfl,hb⟩;have HR:=aj.mk (⟨HR.o.1.old hb,HR.o.2.1.trans (Fr.below hb HR.o.1.size),(hb.block _ (lt_of_block HR.o.2.2.1)).trans HR.o.2.2.1,(hb.block _ (lt_of_block HR.o.2.2.2)).trans HR.o.2.2.2⟩:En E B F (M+tX (l.take k)) W0 w1∧Fr E B w w1∧w1.heap[g]?=some (.cells cs T fz)∧w1.heap[w.heap.size]?=some (.cells #[.nilIface] 48 (0,0)));clear hb)
    |(go_at_call 175;refine(V2.o _ HR.o.1).mono ?_;rintro e w2 ⟨rfl,h1,h2⟩;have HR:=aj.mk (⟨LX.o▸h1,HR.o.2.1.trans h2,HR.o.1.stays h2 HR.o.2.2.1 HT.o,HR.o.1.stays h2 HR.o.2.2.2 (by decide)⟩:En E B F (M+tX (l.take (k+1))) W0 w2∧Fr E B w w2∧w2.heap[g]?=some (.cells cs T fz)∧w2.heap[w.heap.size]?=some (.cells #[.nilIface] 48 (0,0)));clear h1 h2))
   go_roundw
   case rel=>exact⟨k+1,hk,by go_num,HR⟩
   case measure=>simp[intOf];omega
  ·have hke:n=k:=by omega
   subst hke
   have Jo:decide ((n:Int)<(n:Int))=false:=by simp
   have c1:=au HR.o.2.2.2 0 (v:=.nilIface) rfl
   have f1:=aI HR.o.2.2.2 0
   go_wp2
   refine leaves_cons (f:=174) (args:=#[.pointer (some ⟨w.heap.size,0,none⟩)]) (by simp) (by simp[go_sem]) ?_
   refine(afG _ _).mono ?_
   rintro e u' w'' ⟨rfl,rfl,rfl⟩
   have hE:=HR.o.1.TI (i:=0) HR.o.2.2.2 (by decide) nY.o.2.1 .nilIface
   have hF:=HR.o.2.1.other (i:=0) (k:=w.heap.size) bW nY.o.1 .nilIface
   have l1:=Joins.block_setCell HR.o.2.2.2 (i:=0) .nilIface
   rw[kT (by rw[HN.o];exact bW)]at hE
   generalize wr.setCell ⟨w.heap.size,0,none⟩ .nilIface=w4 at *
   have m1:w4.cell? ⟨w.heap.size,0,none⟩=some .nilIface:=au l1 0 rfl
   have HH:=ah (⟨hE,hF⟩:En E B F (M+tX l) W0 w4∧Fr E B w w4)
   clear hE hF
   simp[Leaves,settle,results,results141,go_sem,m1]
   exact⟨rfl,HH.o⟩
theorem W_ (o r:Value) (fa:Option Addr) (fl fc:Nat) (w:World) :
  Calls prog 140 #[.iface 142 o,.iface 160 r,.slice fa fl fc] w fun e w'=>e=.returned (.pointer (some ⟨w.heap.size,0,none⟩))∧w'.heap[w.heap.size]?=some (.cells #[.iface 142 o,.slice fa fl fc,.iface 160 r,.int .i64 0] 220 (0,0))∧Below w.heap.size w w':=by
 go_enter func140,ntmps140
 go_wp2_with (go_at_call 173;refine(Tz _ _ _ _ _ 0 _).mono ?_;rintro e w1 ⟨rfl,h1,h2⟩;have H1:=ah (And.intro h1 h2);clear h1 h2)
 go_ret
 exact⟨rfl,H1.o⟩
theorem agC (k:Int) (sg:bG) (w:World):fC 111 #[.agg #[.iface 104 (.int .u8 k),.string sg]] w (.int .u64 (IntKind.u64.wrap k)):=by
 go_enter func111,ntmps111
 go_wp2
 go_ret
 exact⟨rfl,gG _⟩
theorem agB (k:Int) (sg:bG) (w:World):fC 111 #[.agg #[.iface 105 (.int .u8 k),.string sg]] w (.int .u64 (IntKind.u64.wrap k)):=by
 go_enter func111,ntmps111
 go_wp2
 go_ret
 exact⟨rfl,gG _⟩
theorem Xm (T:TypeId) (hT:T=104∨T=105) (k:Int) (w:World):fC 52 #[.iface T (.int .u8 k)] w (.agg #[.iface T (.int .u8 k),.string (bs [121])]):=by
 have h67:∀W,fC 67 #[.iface T (.int .u8 k)] W (.string (bs [121])):=by
  intro W
  rcases hT with rfl|rfl
  all_goals (
   go_enter func67,ntmps67
   go_wp2
   go_ret
   exact⟨rfl,by first|exact jc|exact gG _⟩)
 have H67:=ah h67
 clear h67 hT
 go_enter func52,ntmps52
 go_wp2_with (go_at_call 67;refine(H67.o _).mono ?_;rintro e w1 ⟨rfl,hb1⟩;have ⟨hB,kr,hlt⟩:=dP hb1;have k4:=au kr 0 (v:=.nilIface) rfl;have k5:=aI kr 0;have k6:=au kr 1 (v:=.string ⟨#[]⟩) rfl;have k7:=aI kr 1;have HB1:=aj.mk hB;clear hb1 kr hB)
 refine iW (v:=.agg #[.iface T (.int .u8 k),.string (bs [121])]) (by simp[results,results52,go_sem,k4,k5,k6,k7]) rfl ⟨rfl,?_⟩
 exact(HB1.o.setCell bW _).setCell bW _
theorem aeB (W0:World) (k:Int):NW W0 (.iface 104 (.int .u8 k)) 64 :=
 ⟨bs [121],fun W _=>Xm 104 (.inl rfl) k W,fun E B M F w hE hM=>RJ hE 104 k (fun W=>agC k _ W) 0 (by omega) (by omega)⟩
theorem aeA (W0:World) (k:Int):NW W0 (.iface 105 (.int .u8 k)) 64 :=
 ⟨bs [121],fun W _=>Xm 105 (.inr rfl) k W,fun E B M F w hE hM=>RJ hE 105 k (fun W=>agB k _ W) 0 (by omega) (by omega)⟩
theorem Rz (u:Value) (A:Option Addr) (n c:Nat) (w:World):fC 286 #[.agg #[],.slice A n c] w (.tuple #[.int .i64 n,.nilIface]):=by
 go_enter func286,ntmps286
 go_wp2
 go_ret2
 exact⟨rfl,gG _⟩
theorem YF (v:Value) (w:World):(method 443 342 v "Write").run prog w=.ok (286,v) w:=by kernel_rfl
theorem call286 (a b:Value) (w:World):(callFunc 286 #[a,b]).run prog w=.ok (.enter 286 #[a,b]) w:=by kernel_rfl
theorem acB (w:World):(nilAhead 443 342 (.agg #[]) "Write").run prog w=.ok (some false) w:=by kernel_rfl
theorem aew (B2:Nat) (l:List UInt8) (w:World) (hbuf:Lib.IsBuffer 151 5 B2 B2 (Lib.byteCells l) w) (hl:l.length≤1000000000) :
  Calls prog 144 #[.pointer (some ⟨B2,0,none⟩),.iface 342 (.agg #[])] w fun e w'=>e=.returned (.tuple #[.int .i64 l.length,.nilIface])∧w.grownBy w' (some B2):=by
 obtain⟨n,hn⟩:∃n,l.length=n:=⟨_,rfl⟩
 obtain⟨A,cap,lr,hbk,hnc,hA⟩:∃A cap lr,w.heap[B2]?=some (.cells #[.slice A n cap,.int .i64 0,.int .i8 lr] 151 (0,0))∧n≤cap∧(n≠0→∃g,A=some ⟨g,0,none⟩):=by
  obtain⟨-,lr,hc⟩:=hbuf.cases
  rcases hc with ⟨hnil,hbk⟩|⟨g,cap,cur,hbk,-,-,hnc,-⟩
  ·have:=congrArg List.length hnil
   rw[Lib.byteCells_length,hn,kW]at this
   subst this
   exact⟨_,_,lr,hbk,bW,fun h=>absurd rfl h⟩
  ·rw[Lib.byteCells_length,hn]at hbk hnc
   exact⟨_,cap,lr,hbk,hnc,fun _=>⟨g,rfl⟩⟩
 have hb1:(w.setCell ⟨B2,2,none⟩ (.int .i8 0)).heap[B2]?=some (.cells #[.slice A n cap,.int .i64 0,.int .i8 0] 151 (0,0)):=Joins.block_setCell hbk _
 have I1:Lib.IsBuffer 151 5 B2 B2 (Lib.byteCells l) (w.setCell ⟨B2,2,none⟩ (.int .i8 0)):=hbuf.setLast 0
 have EW:=ah (Tryz.Buffer_Len B2 B2 (Lib.byteCells l) _ I1)
 rw[Lib.byteCells_length,hn]at EW
 rw[hn]at hl ⊢
 have HG0:=ah (Lib.grownBy_setCell w B2 2 (.int .i8 0))
 have c2:=au hbk 2 (v:=.int .i8 lr) rfl
 have f2:=aI hbk 2
 have HB1:=ah hb1
 clear I1 hbuf hn hbk hb1
 have hme:=YF
 have hnl:=acB
 have hca:=call286
 go_enter func144,ntmps144
 go_wp2_with (go_at_call 134;refine EW.o.mono ?_;rintro e w1 ⟨rfl,hw1⟩;have hbl:Below (w.setCell ⟨B2,2,none⟩ (.int .i8 0)).heap.size (w.setCell ⟨B2,2,none⟩ (.int .i8 0)) w1:=lG hw1;have HG:=ah (Lib.grownBy_below HG0.o hbl);have HB1:=ah ((hbl.block _ (lt_of_block HB1.o)).trans HB1.o);clear hw1 hbl;refine Hid.o ?_)
 refine ah ?_
 clear EW c2 f2 HG0
 by_cases hz:n=0
 ·subst hz
  go_wp2_with (go_at_call 85;refine(wS B2 _ 0 0 0 cap (jf _) _ HB1.o).mono ?_;rintro e w2 ⟨rfl,hw2⟩;have HG2:=ah (hw2▸Lib.grownBy_setB (Lib.grownBy_setB (Lib.grownBy_setB HG.o 0 _) 1 _) 2 _:w.grownBy w2 (some B2));clear hw2)
  go_ret2
  exact⟨rfl,HG2.o⟩
 ·obtain⟨g,rfl⟩:=hA hz
  have hz2:decide ((0:Int)<(n:Int))=true:=by simp;omega
  have hz3:0<n:=by omega
  have c0:=au (w:=w1.drew) HB1.o 0 (v:=.slice (some ⟨g,0,none⟩) n cap) rfl
  have c1:=au (w:=w1.drew) HB1.o 1 (v:=.int .i64 0) rfl
  have HG1:=ah (show w.grownBy w1.drew (some B2)from Lib.grownBy_below HG.o ((jM w1).drew))
  clear hz hA
  go_wp2
  go_region_with (go_at_call 286;refine(Rz .nilIface _ _ _ _).mono ?_;rintro e w3 ⟨rfl,hb⟩;have HG3:=ah (Lib.grownBy_below HG1.o hb);have HB3:=ah ((hb.block _ (lt_of_block (show w1.drew.heap[B2]?=_ from HB1.o))).trans HB1.o);clear hb)
  all_goals (
   have c0:=au HB3.o 0 (v:=.slice (some ⟨g,0,none⟩) n cap) rfl
   have c1:=au HB3.o 1 (v:=.int .i64 0) rfl
   have f1:=aI HB3.o 1
   have HB4:=ah (show(w3.setCell ⟨B2,1,none⟩ (.int .i64 n)).heap[B2]?=some (.cells #[.slice (some ⟨g,0,none⟩) n cap,.int .i64 n,.int .i8 0] 151 (0,0))from Joins.block_setCell HB3.o (i:=1) (.int .i64 n))
   have HG4:=ah (Lib.grownBy_setB HG3.o 1 (.int .i64 n))
   go_wp2_with (go_at_call 85;refine(wS B2 _ n 0 n cap hnc _ HB4.o).mono ?_;rintro e w2 ⟨rfl,hw2⟩;have HG2:=ah (hw2▸Lib.grownBy_setB (Lib.grownBy_setB (Lib.grownBy_setB HG4.o 0 _) 1 _) 2 _:w.grownBy w2 (some B2));clear hw2)
   go_ret2
   exact⟨rfl,HG2.o⟩)
section
theorem alM (w:World):(binOp .eql 187 (.iface 160 (.agg #[])) (.iface 160 (.agg #[]))).run prog w=.ok (.bool true) w:=by kernel_rfl
theorem amm (w:World):(Instr.makeSlice 188 (.int .i64 0) (.int .i64 0)).run prog w=.ok (.slice (some ⟨w.heap.size,0,none⟩) 0 0) (w.alloc (.cells #[] 3)):=by kernel_rfl
theorem YI {w:World} {B e s n:Nat} {v:Value} {xs:List Value} (h:w.ownsRow B e s v n xs):∃A c,v=.slice A n c:=by
 rcases h.2 with ⟨rfl,h0⟩|⟨g,cap,cur,rfl,-⟩
 ·exact⟨none,0,by rw[h0]⟩
 ·exact⟨_,cap,rfl⟩
theorem aaP (W0:World) (k:Int):NW W0 (.iface 22 (.int .u32 k)) 64 :=
 ⟨bs [117],fun W _=>valueOf (A.sc (.u k)) (by simp[A.dN,T.ty]) _ (fun _=>True) W rfl,fun E B M F w hE hM=>DV hE k 0 (by omega) (by omega)⟩
theorem aaQ (W0:World) (k:Int):NW W0 (.iface 5 (.int .u8 k)) 64 :=
 ⟨bs [121],fun W _=>valueOf (A.sc (.y k)) (by simp[A.dN,T.ty]) _ (fun _=>True) W rfl,fun E B M F w hE hM=>aaU hE k 0 (by omega) (by omega)⟩
def rY:List A→List Value→List (Value×Nat)
 |a::l,v::vs=>(v,a.ec)::rY l vs
 | _,_=>[]
theorem DU {w:World} {ok:Nat→Prop}:∀(l:List A) (vs:List Value),nX w ok l vs→(∀e∈l,mG e∧e.dN.ty.length≤1000000∧e.dep≤64)→Lib.Utf8Tabs 8 9 w →
  (rY l vs).length=vs.length∧tX (rY l vs)≤A.qM l∧∀i (h:i<(rY l vs).length),vs[i]?=some ((rY l vs)[i]).1∧NW w ((rY l vs)[i]).1 ((rY l vs)[i]).2∧∃t u,((rY l vs)[i]).1=.iface t u
 |[],vs,h,_,_=>by cases (show vs=[]from h);exact⟨rfl,bW,fun i h=>absurd h (by simp[rY])⟩
 |a::l,vs,h,he,hT=>by
  obtain⟨v,vs',rfl,ha,hl⟩:=h
  obtain⟨h1,h2,h3⟩:=DU l vs' hl (fun e hm=>he e (by simp[hm])) hT
  have h0:=he a (by simp)
  refine⟨by simp[rY,h1],by simp only[rY,tX,List.map_cons,List.sum_cons,A.qM]at h2 ⊢;omega,fun i hi=>?_⟩
  cases i with
  |zero=>exact⟨rfl,U4 h0.1 h0.2.1 h0.2.2 ha hT,ha.iface⟩
  |succ i=>exact h3 i (by simpa[rY]using hi)
structure Sv (E B V:Nat) (F:EF) (M:Nat) (W0 w0 w:World) (cs:Array Value):Prop where
 en:En E B F M W0 w
 kv:w.heap[V]?=some (.cells cs 212 (0,0))
 eX:Below w0.heap.size w0 w
 le:W0.heap.size≤V
 le0:w0.heap.size≤V
section
variable {E B V M:Nat} {F:EF} {W0 w0 w w':World} {cs:Array Value}
theorem Sv.put (h:Sv E B V F M W0 w0 w cs) (i:Nat) (v:Value):Sv E B V F M W0 w0 (w.setCell ⟨V,i,none⟩ v) (cs.setIfInBounds i v) :=
 ⟨h.en.TI h.kv (by decide) h.le v,Joins.block_setCell h.kv v,h.eX.setCell (p:=⟨V,i,none⟩) h.le0 v,h.le,h.le0⟩
theorem Sv.old (h:Sv E B V F M W0 w0 w cs) (hb:Below w.heap.size w w'):Sv E B V F M W0 w0 w' cs :=
 ⟨h.en.old hb,(hb.block _ (lt_of_block h.kv)).trans h.kv,h.eX.trans (hb.mono h.eX.size),h.le,h.le0⟩
theorem Sv.step (h:Sv E B V F M W0 w0 w cs) {M':Nat} (he:En E B F M' W0 w') (hf:Fr E B w w') (hB:w0.heap.size≤B):Sv E B V F M' W0 w0 w' cs :=
 ⟨he,h.en.stays hf h.kv (by decide),h.eX.trans (hf.eX.mono hB),h.le,h.le0⟩
theorem Sv.mono (h:Sv E B V F M W0 w0 w cs) {M':Nat} (hM:M≤M'):Sv E B V F M' W0 w0 w cs:=⟨h.en.mono hM,h.kv,h.eX,h.le,h.le0⟩
theorem Sv.bytes (h:Sv E B V F M W0 w0 w cs):Calls prog 142 #[.pointer (some ⟨B,0,none⟩)] w fun e w'=>∃A l c,e=.returned (.slice A l c)∧l≤M∧Sv E B V F M W0 w0 w' cs:=by
 obtain⟨l,hl,hb⟩:=h.en.buf
 refine(Tryz.Buffer_Bytes B B _ w hb).mono ?_
 rintro e w' ⟨v,rfl,ho,hd⟩
 obtain⟨A,c,rfl⟩:=YI ho
 exact⟨A,_,c,rfl,by rw[Lib.byteCells_length];exact hl,h.old (lG hd)⟩
end
def xK (H:Nat→Option A):Nat→List A
 |0=>[]
 |k+1=>xK H k++(match H k with|none=>[]|some a=>[.jJ [.sc (.y k),.var a.dN a]])
theorem Vp (H:Nat→Option A) (k:Nat):(xK H k).length≤k:=by
 induction k with
 |zero=>exact bW
 |succ k ih=>simp only[xK,dY];split<;>simp<;>omega
structure Lp (E B V L:Nat) (F:EF) (M:Nat) (W0 w0 w:World) (cs:Array Value) (l:List A) (s:Value):Prop where
 sv:Sv E B V F M W0 w0 w cs
 kl:w.heap[L]?=some (.cells #[.string (bs [40,121,118,41]),s] 102 (0,0))
 row:Mk (fun k=>k<V∨L<k) w l s
 own:∀b,s.ownBlock=some b→L<b
 lt:V<L
section
variable {E B V L M:Nat} {F:EF} {W0 w0 w w':World} {cs:Array Value} {l:List A} {s:Value}
theorem Lp.old (h:Lp E B V L F M W0 w0 w cs l s) (hb:Below w.heap.size w w'):Lp E B V L F M W0 w0 w' cs l s :=
 ⟨h.sv.old hb,(hb.block _ (lt_of_block h.kl)).trans h.kl,h.row.below hb,h.own,h.lt⟩
end
theorem seven (P:Nat→Value×Nat→Prop) (a b c d e f g:Value×Nat) (h0:P 0 a) (h1:P 1 b) (h2:P 2 c) (h3:P 3 d) (h4:P 4 e) (h5:P 5 f) (h6:P 6 g):∀i (h:i<[a,b,c,d,e,f,g].length),P i ([a,b,c,d,e,f,g][i])
 |0,_=>h0|1,_=>h1|2,_=>h2|3,_=>h3|4,_=>h4|5,_=>h5|6,_=>h6
 |n+7,h=>absurd h (by simp)
theorem abC {E B V L E2 B2:Nat} {F:EF} {M:Nat} {W0 w0 W5 w6:World} {l ty fl bv kG:Int} {ok:Nat→Prop} {a:A} (h:Sv E B V F M W0 w0 W5 #[.iface 5 (.int .u8 l),.iface 104 (.int .u8 ty),.iface 105 (.int .u8 fl),.iface 5 (.int .u8 1),.iface 22 (.int .u32 bv),.iface 22 (.int .u32 kG),.iface 100 (.pointer (some ⟨L,0,none⟩))])
  (he:En E2 B2 F 0 W5 w6) (hk:F.k=0) (ha:HA W5 ok a (.iface 100 (.pointer (some ⟨L,0,none⟩)))) (h1:mG a) (h2:a.ec≤20000000) (h3:a.dep≤64) (h4:a.dN.ty.length≤1000000) (hT:Lib.Utf8Tabs 8 9 W5) :
  Calls prog 141 #[.pointer (some ⟨E2,0,none⟩),.slice (some ⟨V,0,none⟩) 7 7] w6 fun e w'=>e=.returned .nilIface∧En E2 B2 F 20000400 W5 w':=by
 have hh:=seven (fun (i:Nat) (x:Value×Nat)=>(#[.iface 5 (.int .u8 l),.iface 104 (.int .u8 ty),.iface 105 (.int .u8 fl),.iface 5 (.int .u8 1),.iface 22 (.int .u32 bv),.iface 22 (.int .u32 kG),.iface 100 (.pointer (some ⟨L,0,none⟩))]:Array Value)[i]?=some x.1∧NW W5 x.1 x.2∧∃t u,x.1=.iface t u)
  (.iface 5 (.int .u8 l),64) (.iface 104 (.int .u8 ty),64) (.iface 105 (.int .u8 fl),64) (.iface 5 (.int .u8 1),64) (.iface 22 (.int .u32 bv),64) (.iface 22 (.int .u32 kG),64) (.iface 100 (.pointer (some ⟨L,0,none⟩)),a.ec)
  ⟨rfl,aaQ _ _,_,_,rfl⟩ ⟨rfl,aeB _ _,_,_,rfl⟩ ⟨rfl,aeA _ _,_,_,rfl⟩ ⟨rfl,aaQ _ _,_,_,rfl⟩ ⟨rfl,aaP _ _,_,_,rfl⟩ ⟨rfl,aaP _ _,_,_,rfl⟩ ⟨rfl,U4 h1 h4 h3 ha hT,_,_,rfl⟩
 refine(FY _ he V 7 7 _ 212 (0,0) rfl ((he.eX.block _ (lt_of_block h.kv)).trans h.kv) (by decide) (fun i hi=>(hh i hi).1) (fun i hi=>(hh i hi).2.1) (fun i hi=>(hh i hi).2.2) (by rw[hk];simp[tX];omega) (by omega)).mono ?_
 rintro e w' ⟨rfl,q1,-⟩
 exact⟨rfl,q1.mono (by simp[tX];omega)⟩
theorem En.ajF {E B M:Nat} {F:EF} {W1 W5 w:World} (h:En E B F M W5 w) (hb:Below W1.heap.size W1 W5):En E B F M W1 w :=
 ⟨h.enc,h.buf,hb.trans (h.eX.mono hb.size),Nat.le_trans hb.size h.le,h.lt,h.kb⟩
theorem aej {E B V E2 B2:Nat} {F:EF} {M M2:Nat} {W0 w0 W5 w:World} {cs:Array Value} (h:Sv E B V F M W0 w0 W5 cs) (he:En E2 B2 F M2 W5 w) (hW:W0.heap.size≤B) (h0:w0.heap.size≤B) (hM:M≤10000000) (hM2:M2≤100000000) :
  Calls prog 144 #[.pointer (some ⟨B,0,none⟩),.iface 142 (.pointer (some ⟨B2,0,none⟩))] w fun e w'=>∃n:Nat,e=.returned (.tuple #[.int .i64 n,.nilIface])∧En E2 B2 F (M2+10000000) W0 w'∧Below w0.heap.size w0 w':=by
 obtain⟨l,hl,hb⟩:=h.en.buf
 have hB2:B<B2:=Nat.lt_of_lt_of_le h.en.size he.le
 refine(Ec (W0:=W0) (P:=fun W=>Below w0.heap.size w0 W) l (he.ajF h.en.eX) (h.eX.trans (he.eX.mono h.eX.size)) (fun W i v hP=>hP.setCell (p:=⟨B,i,none⟩) h0 v) (fun _ W W' _ hP hb=>hP.trans (hb.mono hP.size)) (fun W W' hP hf _=>hP.trans (hf.eX.mono (by omega))) (by omega) hW (hb.old he.eX) (by omega) (by omega)).mono ?_
 rintro e w' ⟨rfl,h1,h2⟩
 exact⟨_,rfl,h1.mono (by omega),h2⟩
theorem En.len {E B M:Nat} {F:EF} {W0 w:World} (h:En E B F M W0 w):Calls prog 134 #[.pointer (some ⟨B,0,none⟩)] w fun e w'=>∃n:Nat,n≤M∧e=.returned (.int .i64 n)∧En E B F M W0 w'∧Below w.heap.size w w':=by
 obtain⟨l,hl,hb⟩:=h.buf
 refine(Tryz.Buffer_Len B B _ w hb).mono ?_
 rintro e w' ⟨rfl,hd⟩
 exact⟨_,by rw[Lib.byteCells_length];exact hl,rfl,h.old (lG hd),lG hd⟩
theorem En.gone {E B M:Nat} {F:EF} {W0 w w0:World} (h:En E B F M W0 w) (hM:M≤1000000000) (h0:w0.heap.size≤B) (hb:Below w0.heap.size w0 w):Calls prog 144 #[.pointer (some ⟨B,0,none⟩),.iface 342 (.agg #[])] w fun e w'=>∃n:Nat,e=.returned (.tuple #[.int .i64 n,.nilIface])∧w'.cell? ⟨E,1,none⟩=some (.slice F.a F.l F.c)∧Below w0.heap.size w0 w':=by
 obtain⟨l,hl,hbuf⟩:=h.buf
 obtain⟨p,_,he⟩:=h.enc
 refine(aew B l w hbuf (by omega)).mono ?_
 rintro e w' ⟨rfl,hg⟩
 exact⟨_,rfl,au ((hg.block E (lt_of_block he) (fun e=>by cases e;exact absurd h.lt (Nat.lt_irrefl _))).trans he) 1 rfl,hb.grown hg hb.size (fun k hk=>by cases hk;exact h0)⟩
theorem acL {w:World} {ok:Nat→Prop} {s:Value} {vs:List Value} (h:Row w ok 20 s vs) (k:Nat) (hk:s.ownBlock=some k):∃cur,w.heap[k]?=some (.cells cur 20 (0,0)):=by
 rcases h.2.2 with ⟨rfl,_⟩|⟨g,cap,cur,rfl,_,hg,_⟩
 ·simp[Value.ownBlock]at hk
 ·cases hk;exact⟨cur,hg⟩
theorem Sv.grown {E B V M:Nat} {F:EF} {W0 w0 w w':World} {cs:Array Value} {row:Option Nat} (h:Sv E B V F M W0 w0 w cs) (hg:w.grownBy w' row) (hr:∀k,row=some k→V<k∧∃c,w.heap[k]?=some (.cells c 20 (0,0))):Sv E B V F M W0 w0 w' cs:=by
 have hne:∀(k:Nat) (c:Array Value) (T:TypeId) (fz:Nat×Nat),w.heap[k]?=some (Obj.cells c T fz)→T≠20→w'.heap[k]?=some (Obj.cells c T fz):=fun k c T fz hk hT=>(hg.block k (lt_of_block hk) (fun e=>by
  obtain⟨_,c2,h2⟩:=hr k e.symm
  rw[hk]at h2
  simp at h2
  exact hT h2.2.1)).trans hk
 obtain⟨⟨⟨p,hp,he⟩,⟨l,hl,hB,v1,lr,hbk,hown,hnil⟩,hbel,hle,hlt,hkb⟩,hkv,hbel0,aqJ,hle0⟩:=h
 refine⟨⟨⟨p,hp,hne _ _ _ _ he (by decide)⟩,⟨l,hl,hB,v1,lr,hne _ _ _ _ hbk (by decide),⟨hown.1,?_⟩,hnil⟩,hbel.grown hg hbel.size (fun k hk=>by have:=(hr k hk).1;omega),hle,hlt,hkb⟩,hne _ _ _ _ hkv (by decide),hbel0.grown hg hbel0.size (fun k hk=>by have:=(hr k hk).1;omega),aqJ,hle0⟩
 rcases hown.2 with hn|⟨g,cap,cur,hv,h0,hg2,rest⟩
 ·exact .inl hn
 ·exact .inr ⟨g,cap,cur,hv,h0,hne _ _ _ _ hg2 (by decide),rest⟩
theorem Lp.kl2 {E B V L M:Nat} {F:EF} {W0 w0 w W w2:World} {cs:Array Value} {l:List A} {s:Value} (h:Lp E B V L F M W0 w0 w cs l s) (hb:Below w.heap.size w W) (hg:W.grownBy w2 s.ownBlock):w2.heap[L]?=some (.cells #[.string (bs [40,121,118,41]),s] 102 (0,0)) :=
 (hg.block L (lt_of_block ((hb.block _ (lt_of_block h.kl)).trans h.kl)) (fun e=>by have:=h.own _ e.symm;omega)).trans ((hb.block _ (lt_of_block h.kl)).trans h.kl)
theorem Lp.app {E B V L M:Nat} {F:EF} {W0 w0 w W w2:World} {cs:Array Value} {l:List A} {b:A} {s v1:Value} (h:Lp E B V L F M W0 w0 w cs l s) (hb:Below w.heap.size w W) (hm:Mk (fun k=>k<V∨L<k) w2 (l++[b]) v1) (hg:W.grownBy w2 s.ownBlock) (hat:v1.ownBlock=s.ownBlock∨∃b,v1.ownBlock=some b∧W.heap.size≤b) :
  Lp E B V L F M W0 w0 (w2.setCell ⟨L,1,none⟩ v1) cs (l++[b]) v1:=by
 have hW:=h.old hb
 have hkl:=h.kl2 hb hg
 have hlt:=h.lt
 obtain⟨vs,hr,_⟩:=hW.row
 have S2:=hW.sv.grown hg (fun k hk=>⟨by have:=hW.own k hk;omega,acL hr k hk⟩)
 refine⟨⟨S2.en.TI hkl (by decide) (by have:=S2.le;omega) _,(ku _ _ _ _ (by show V≠L;omega)).trans S2.kv,S2.eX.setCell (p:=⟨L,1,none⟩) (by have:=S2.le0;show w0.heap.size≤L;omega) _,S2.le,S2.le0⟩,Joins.block_setCell hkl _,hm.set _ _ (by show ¬(L<V∨L<L);omega),fun k hk=>?_,hlt⟩
 rcases hat with e|⟨b',e,hb'⟩
 ·exact h.own k (by rw[←e];exact hk)
 ·rw[e]at hk;cases hk;have:=lt_of_block hW.kl;omega
theorem Kr (wo:World) (X Y Z:Obj):Below wo.heap.size wo ((((wo.alloc X).alloc Y).alloc Z).drew):=(((gG _).alloc (by simp) _).alloc (by simp;omega) _).drew
theorem Lp.list {E B V L M:Nat} {F:EF} {W0 w0 w:World} {cs:Array Value} {l:List A} {s:Value} (h:Lp E B V L F M W0 w0 w cs l s) (v:Value):HA (w.setCell ⟨V,6,none⟩ v) (fun k=>k≠V) (.list (.str [.base 121,.base 118]) l) (.iface 100 (.pointer (some ⟨L,0,none⟩))):=by
 obtain⟨vs,hr,hl⟩:=h.row
 have hlt:=h.lt
 refine⟨L,s,vs,rfl,by omega,(ku _ _ _ _ (by show L≠V;omega)).trans h.kl,(hr.step (fun k hk _=>ku _ _ _ _ (by show k≠V;omega))).mono (fun k hk=>by omega),(hl.step (fun k hk _=>ku _ _ _ _ (by show k≠V;omega))).mono (fun k hk=>by omega)⟩
theorem Lp.kt {E B V L M:Nat} {F:EF} {W0 w0 w w2:World} {cs:Array Value} {l:List A} {s:Value} (h:Lp E B V L F M W0 w0 w cs l s) {X Y Z:Obj} (hg:((((w.alloc X).alloc Y).alloc Z).drew).grownBy w2 s.ownBlock):w2.heap[w.heap.size]?=some X :=
 (hg.block _ (by simp;omega) (fun e=>by have:=(h.row.lt _ e.symm).2;omega)).trans ((kN (w.alloc X |>.alloc Y) _ _ (by simp;omega)).trans ((kN (w.alloc X) _ _ (by simp)).trans (aV w X _ rfl)))
theorem YO {wo:World} {okq okr:Nat→Prop} {k:Nat} {a:A} {v:Value} (ha:HA wo okq a v) (ho:∀j,okq j→okr j) (hg:okr (wo.heap.size+1)) (X Z:Obj) :
  HA ((((wo.alloc X).alloc (.cells #[.iface 5 (.int .u8 k),.iface 70 (.agg #[.string (bs a.dN.sig),v])] 20)).alloc Z).drew) okr (.jJ [.sc (.y k),.var a.dN a]) (.iface 91 (.agg #[.slice (some ⟨wo.heap.size+1,0,none⟩) 2 2])):=by
 exact⟨_,[.iface 5 (.int .u8 k),.iface 70 (.agg #[.string (bs a.dN.sig),v])],rfl,⟨fun j hj=>by cases hj;exact hg,rfl,.inr ⟨_,2,_,rfl,jf _,(kN (wo.alloc X |>.alloc _) _ _ (by simp)).trans (aV (wo.alloc X) _ _ (by simp)),Nat.le_refl 2,by decide,rfl,rfl⟩⟩,⟨_,_,rfl,rfl,_,_,rfl,⟨_,rfl,(ha.mono ho).below (Kr wo _ _ _)⟩,rfl⟩⟩
theorem HD.bound {w:World} {ok:Nat→Prop} {D:DataW Value} {c:Nat} {x:Option A} (h:HD w ok D c x):HD w (fun k=>ok k∧k<w.heap.size) D c x:=by
 cases x with
 |none=>exact h
 |some a=>obtain⟨v,h1,h2⟩:=h;exact⟨v,h1,h2.bound⟩
theorem Mg.bound {w:World} {ok:Nat→Prop} {M mb ty fl kG:Nat} {A0:Option Addr} {n c:Nat} {H:Nat→Option A} (h:Mg w ok M mb ty fl kG A0 n c H):Mg w (fun k=>ok k∧k<w.heap.size) M mb ty fl kG A0 n c H:=by
 obtain⟨n,D,h1,h2,h3,h4⟩:=h.map
 exact⟨h.kE,⟨n,D,h1,h2,h3,fun c hc=>(h4 c hc).bound⟩,h.f_⟩
end
theorem aaO {w:World} {ok:Nat→Prop} {M mb ty fl kG:Nat} {A0:Option Addr} {n c:Nat} {H:Nat→Option A} (h:Mg w ok M mb ty fl kG A0 n c H) (hty:ty<256) (hfl:fl<256) (hn:n≤1000000)
  (hsz:∀d a s,H d=some a→(a=.sc (.s s)∨a=.sc (.o s))→s.size≤1000000) (hok:yE ty fl H n) (body:List A) (vs:List Value) (hr:Row w ok 20 (.slice A0 n c) vs) (hls:nX w ok body vs) (hbd:∀e∈body,mG e∧e.dN.ty.length≤1000000∧e.dep≤64) (hec:A.qM body≤10000000)
  (hL:mG (.list (.str [.base 121,.base 118]) (xK H 10))) (hLe:(A.list (.str [.base 121,.base 118]) (xK H 10)).ec≤20000000) (hLd:(A.list (.str [.base 121,.base 118]) (xK H 10)).dep≤64) (hT:Lib.Utf8Tabs 8 9 w):Calls prog 117 #[.pointer (some ⟨M,0,none⟩),.iface 342 (.agg #[]),.iface 160 (.agg #[])] w fun e w'=>(∃v,e=.returned (.tuple #[v,.nilIface]))∧Below w.heap.size w w':=by
 have hvl:vs.length=n:=by
  obtain⟨A1,c1,e,_⟩:=hr.cell
  injection e with _ e _
  exact e.symm
 have hRW:=hr.2.2
 have BF:=ah (fun W (hb:Below w.heap.size w W)=>DU body vs (hls.below hb) hbd (Utf8Tabs_below hT hb))
 have HVL:=ah hvl
 have alX:n≠0→∃g cur,A0=some ⟨g,0,none⟩∧w.heap[g]?=some (.cells cur 20 (0,0))∧∀(i:Nat) (v:Value),vs[i]?=some v→cur[i]?=some v:=by
  intro h0
  rcases hRW with ⟨_,e⟩|⟨g,cap,cur,e,_,hg,h1,h2,h3,h4⟩
  ·exact absurd e (by rw[hvl];exact h0)
  ·injection e with e1 e2 e3
   refine⟨g,cur,e1,hg,fun i v hv=>?_⟩
   rw[←h4,List.getElem?_take]at hv
   split at hv
   ·rw[←qV];exact hv
   ·cases hv
 have HRW:=ah alX
 clear alX
 have HEC:=ah hec
 have VH:=ah (Xp h hty hfl hn hsz)
 have HM:=ah h.bound
 have DL:=ah hok
 have HL:=ah (⟨hL,hLe,hLd⟩:mG (.list (.str [.base 121,.base 118]) (xK H 10))∧(A.list (.str [.base 121,.base 118]) (xK H 10)).ec≤20000000∧(A.list (.str [.base 121,.base 118]) (xK H 10)).dep≤64)
 have HT:=ah hT
 have hMw:=lt_of_block h.kE
 have he1:=alM
 have hmk:=amm
 obtain⟨Cb,hCb⟩:∃C,A.qM body=C:=⟨_,rfl⟩
 have HCB:=ah hCb
 rw[hCb]at HEC
 clear h hok hsz hvl hRW hr hls hbd hec hT hCb hL hLe hLd
 go_enter func117,ntmps117
 go_wp2_with (first
  |(go_at_call 138;refine VH.o.mono ?_;rintro e w1 ⟨hb,h1⟩;have HB:=ah hb;obtain⟨rfl,-⟩:=(h1.resolve_right fun h=>h.2 DL.o);have MG:=ah (HM.o.below hb);have ⟨d0,d1,d2,d3,d4⟩:=MG.o.cells;clear hb h1)
  |(go_at_call 140;refine(W_ _ _ _ _ _ _).mono ?_;rintro e w2 ⟨rfl,h1,h2⟩;refine Hid.o ?_))
 refine ah ?_
 have hM1:M<w1.heap.size:=Nat.lt_of_lt_of_le hMw HB.o.size
 obtain⟨hB2,kV,kB,kF⟩:=wI h2
 have h1':w2.heap[w1.heap.size+1+1+1]?=some (.cells #[.iface 142 (.pointer (some ⟨w1.heap.size+1,0,none⟩)),.slice (some ⟨w1.heap.size+1+1,0,none⟩) 0 0,.iface 160 (.agg #[]),.int .i64 0] 220 (0,0)):=by simpa using h1
 have EN:=ah (⟨⟨0,by simp,h1'⟩,⟨[],jf _,bW,.slice none 0 0,0,kB,World.ownsRow_nil _ _ _ _,by simp[Value.ownBlock]⟩,hB2,by omega,by omega,by simp⟩:En (w1.heap.size+1+1+1) (w1.heap.size+1) ⟨some ⟨w1.heap.size+1+1,0,none⟩,0,0,0⟩ 0 w1 w2)
 have KV:=ah kV
 have HB2:=ah (HB.o.trans (hB2.mono HB.o.size))
 have MG:=ah (HM.o.below HB2.o)
 have ⟨d0,d1,d2,d3,d4⟩:=MG.o.cells
 have HB1:=HB
 clear hB2 kV kB kF h1 h1' h2 HB
 obtain⟨V,hV⟩:∃V,w1.heap.size=V:=⟨_,rfl⟩
 have HV:=ah hV
 rw[hV]at EN KV hM1 ⊢
 clear hV
 have HVW:=ah (by have:=HB1.o.size;rw[HV.o]at this;exact this:w.heap.size≤V)
 have SV:=ah (⟨EN.o,KV.o,HB2.o,by rw[HV.o];exact bW,HVW.o⟩:Sv (V+1+1+1) (V+1) V ⟨some ⟨V+1+1,0,none⟩,0,0,0⟩ 0 w1 w w2 #[.iface 5 (.int .u8 108),.nilIface,.nilIface,.nilIface,.nilIface,.nilIface,.nilIface])
 clear EN KV HB2 MG
 by_cases h0:n=0
 case' neg =>
  obtain⟨g,cur,rfl,hg,hcur⟩:=HRW.o h0
  have hn0:((n:Int) != 0)=true:=by simp;omega
  obtain⟨b1,b2,b3⟩:=BF.o w1 HB1.o
  have EA:=ah (FY (rY body vs) SV.o.en g n c cur 20 (0,0) (b1.trans HVL.o) ((SV.o.eX.block _ (lt_of_block hg)).trans hg) (by decide) (fun i h=>hcur i _ (b3 i h).1) (fun i h=>(b3 i h).2.1) (fun i h=>(b3 i h).2.2) (by have:=HEC.o;have:=HCB.o;show 0+0+_≤_;omega) hn)
  have HS:=ah (by have:=HCB.o;omega:0+tX (rY body vs)≤Cb)
  clear b1 b2 b3 hg hcur h0
  go_wp2_with (go_at_call 141;refine EA.o.mono ?_;rintro e w2 ⟨rfl,h1,h2⟩;have SV:=ah ((SV.o.step h1 h2 (by have:=HVW.o;omega)).mono HS.o);clear h1 h2;refine Hid.o ?_)
  refine ah ?_
  clear d0 d1 d2 d3 d4
 case' pos =>
  have hn0:((n:Int) != 0)=false:=by subst h0;rfl
  have SV:=ah (SV.o.mono (jf Cb))
  clear h0
 all_goals (
  have MG:=ah (HM.o.below SV.o.eX)
  have ⟨d0,d1,d2,d3,d4⟩:=MG.o.cells
  have f1:=aI SV.o.kv 1
  have f2:=aI SV.o.kv 2
  have f3:=aI SV.o.kv 3
  have k1:=au SV.o.kv 1 (v:=.nilIface) rfl
  have k2:=au SV.o.kv 2 (v:=.nilIface) rfl
  have k3:=au SV.o.kv 3 (v:=.nilIface) rfl
  have hVM:V≠M:=by omega
  have hMV:M≠V:=by omega
  have SV:=ah (((SV.o.put 1 (.iface 104 (.int .u8 ty))).put 2 (.iface 105 (.int .u8 fl))).put 3 (.iface 5 (.int .u8 1)))
  go_wp2_with (go_at_call 142;refine SV.o.bytes.mono ?_;rintro e w3 ⟨BA,bl,bc,rfl,hbl,h1⟩;have SV:=ah h1;clear h1;refine Hid.o ?_)
  refine ah ?_
  clear d0 d1 d2 d3 d4 f1 f2 f3 k1 k2 k3
  have MG:=ah (HM.o.below SV.o.eX)
  have ⟨d0,d1,d2,d3,d4⟩:=MG.o.cells
  have f4:=aI SV.o.kv 4
  have f5:=aI SV.o.kv 5
  have k4:=au SV.o.kv 4 (v:=.nilIface) rfl
  have k5:=au SV.o.kv 5 (v:=.nilIface) rfl
  go_wp2
  have SV:=ah (show Sv (V+1+1+1) (V+1) V ⟨some ⟨V+1+1,0,none⟩,0,0,0⟩ Cb w1 w ((w3.setCell ⟨V,4,none⟩ (.iface 22 (.int .u32 (IntKind.u32.wrap bl)))).setCell ⟨V,5,none⟩ (.iface 22 (.int .u32 kG))) #[.iface 5 (.int .u8 108),.iface 104 (.int .u8 ty),.iface 105 (.int .u8 fl),.iface 5 (.int .u8 1),.iface 22 (.int .u32 (IntKind.u32.wrap bl)),.iface 22 (.int .u32 kG),.nilIface]from (SV.o.put 4 (.iface 22 (.int .u32 (IntKind.u32.wrap bl)))).put 5 (.iface 22 (.int .u32 kG)))
  clear d0 d1 d2 d3 d4 f4 f5 k4 k5 MG
  have hsz:((w3.setCell ⟨V,4,none⟩ (.iface 22 (.int .u32 ((bl:Int)%4294967296)))).setCell ⟨V,5,none⟩ (.iface 22 (.int .u32 kG))).heap.size=w3.heap.size:=by simp
  have SV:=ah (by have h:=SV.o;rw[IntKind.wrap_u32]at h;exact h)
  generalize ((w3.setCell ⟨V,4,none⟩ (.iface 22 (.int .u32 ((bl:Int)%4294967296)))).setCell ⟨V,5,none⟩ (.iface 22 (.int .u32 kG)))=W4 at hsz SV ⊢
  rw[←hsz]
  obtain⟨L,hL⟩:∃L,W4.heap.size=L:=⟨_,rfl⟩
  rw[hL]
  have LP:=ah (⟨SV.o.old (gG _),aV W4 _ _ hL.symm,Mk.nil _ _,fun b hb=>by simp[Value.ownBlock]at hb,by have:=lt_of_block SV.o.kv;omega⟩:Lp (V+1+1+1) (V+1) V L ⟨some ⟨V+1+1,0,none⟩,0,0,0⟩ Cb w1 w (W4.alloc (.cells #[.string (bs [40,121,118,41]),.slice none 0 0] 102)) #[.iface 5 (.int .u8 108),.iface 104 (.int .u8 ty),.iface 105 (.int .u8 fl),.iface 5 (.int .u8 1),.iface 22 (.int .u32 ((bl:Int)%4294967296)),.iface 22 (.int .u32 kG),.nilIface] (xK H 0) (.slice none 0 0))
  clear SV hL hsz
  obtain⟨bv,hbv⟩:∃bv:Int,(bl:Int)%4294967296=bv:=⟨_,rfl⟩
  rw[hbv]at LP
  clear hbv hbl
  go_loopw [13] (fun t wr=>∃(k:Nat) (s:Value),k≤10∧t=.int .u8 k∧aj (Lp (V+1+1+1) (V+1) V L ⟨some ⟨V+1+1,0,none⟩,0,0,0⟩ Cb w1 w wr #[.iface 5 (.int .u8 108),.iface 104 (.int .u8 ty),.iface 105 (.int .u8 fl),.iface 5 (.int .u8 1),.iface 22 (.int .u32 bv),.iface 22 (.int .u32 kG),.nilIface] (xK H k) s)) (fun t _=>10-(intOf t).toNat)
  case atStart=>exact⟨0,_,by omega,rfl,⟨LP.o⟩⟩
  case round =>
   clear LP
   obtain⟨k,s,hk,rfl,LP0⟩:=hrel
   have LP:=ah LP0.o
   clear LP0
   obtain⟨wo,rfl⟩:∃wo:World,wo=wr:=⟨_,rfl⟩
   by_cases hk9:k<10
   ·have hd:decide ((k:Int)<10)=true:=by simp;omega
    have MG:=ah (HM.o.below LP.o.sv.eX)
    have ⟨d0,d1,d2,d3,d4⟩:=MG.o.cells
    go_wp2_with (at_lookup;refine Hm.wp rfl (.tmp 97) (.tmp 98) rfl MG.o.map k (by omega) rfl rfl ?_ ?_)
    ·intro h0
     have HK:=ah (by simp[xK,h0]:xK H (k+1)=xK H k)
     clear h0
     go_wp2
     go_roundw
     case rel=>exact⟨k+1,s,hk9,by go_num,⟨by rw[HK.o];exact LP.o.old (gG _)⟩⟩
     case measure=>simp[intOf];omega
    ·intro a v he ha
     obtain⟨tv,uv,rfl⟩:=ha.iface
     have HK:=ah (by simp[xK,he]:xK H (k+1)=xK H k++[.jJ [.sc (.y k),.var a.dN a]])
     have HA1:=ah ha
     have LP5:=ah (LP.o.old (gG (.cells #[.string (bs a.dN.sig),.iface tv uv] 70)))
     have XD:=ah (by have:=lt_of_block LP.o.kl;have:=LP.o.lt;omega:L<wo.heap.size∧V<L)
     clear he ha
     go_wp2
     have c0:=au LP5.o.kl 1 (v:=s) rfl
     have zq:=ah (aV wo (.cells #[.string (bs a.dN.sig),.iface tv uv] 70) _ rfl)
     have c1:=au zq.o 0 (v:=.string (bs a.dN.sig)) rfl
     have c2:=au zq.o 1 (v:=.iface tv uv) rfl
     refine lgo [16] ((fun w'=>w'.cell? ⟨L,1,none⟩=some s∧w'.cell? ⟨wo.heap.size,0,none⟩=some (.string (bs a.dN.sig))∧w'.cell? ⟨wo.heap.size,1,none⟩=some (.iface tv uv))) fun hHeld=>?_
     refine jS 0 ?_
     refine jS 1 ?_
     refine jS 2 ?_
     refine jS 3 ?_
     refine jS 4 ?_
     refine jS 5 ?_
     refine jS 6 ?_
     refine jS 7 ?_
     refine jS 8 ?_
     refine ln 9 fun K hK=>?_
     go_simp
     refine ji hK ?_;clear hK K hHeld;intro hHeld
     refine jS 10 ?_
     refine jS 11 ?_
     refine ln 12 fun K hK=>?_
     go_simp
     refine ji hK ?_;clear hK K hHeld;intro hHeld
     refine ln 13 fun K hK=>?_
     refine Mk.yR (iR:=fun k=>k<V∨L<k) 0 rfl (.tmp 107) (.tmp 115) rfl s (xK H k) (.jJ [.sc (.y k),.var a.dN a]) _ _ rfl rfl (aV (wo.alloc _ |>.alloc _) _ _ (by simp)) (fun j hj=>jf _) (fun j hj=>.inr (by have:=XD.o;simp at hj;omega)) (LP.o.row.below (Kr wo _ _ _)) (YO HA1.o (fun j hj=>⟨.inl (by have:=HVW.o;omega),fun e=>by have:=LP.o.own _ e.symm;have:=XD.o;have:=HVW.o;omega⟩) ⟨.inr (by have:=XD.o;omega),fun e=>by have:=LP.o.row.lt _ e.symm;omega⟩ _ _) (jf _) (by have:=Vp H k;omega) ?_;intro v2 w2 hm2 hg2 _ hat;have ⟨A2,c2,hv2,_⟩:=hm2.len;generalize (xK H k++[A.jJ [.sc (.y k),.var a.dN a]]).length=m2 at hv2;subst hv2;have hkl:=LP.o.kl2 (Kr wo _ _ _) hg2;have e0:=au hkl 1 (v:=s) rfl;have e5:=aI hkl 1;have hkt:=LP.o.kt hg2;have e6:=au hkt 0 (v:=.string (bs a.dN.sig)) rfl;have e7:=au hkt 1 (v:=.iface tv uv) rfl;have LP6:=ah (LP.o.app (Kr wo _ _ _) hm2 hg2 hat);clear hkl hkt hm2 hg2 hat
     refine ji hK ?_;clear hK K hHeld;intro hHeld
     refine EJ 14 ?_
     refine EJ 15 ?_
     refine PG 16 fun K hK=>?_
     go_simp
     refine Qe hK ?_
     clear hK K
     refine uJ ?_
     go_wp2
     go_roundw
     case rel=>exact⟨k+1,_,hk9,by go_num,⟨by rw[HK.o];exact LP6.o⟩⟩
     case measure=>simp[intOf];omega
   ·have hke:k=10:=by omega
    subst hke
    have hd:decide (((10:Nat):Int)<10)=false:=rfl
    have k6:=au LP.o.sv.kv 6 (v:=.nilIface) rfl
    have f6:=aI LP.o.sv.kv 6
    have hEV:¬(V+1+1+1=V):=by omega
    have SV:=ah (show Sv (V+1+1+1) (V+1) V ⟨some ⟨V+1+1,0,none⟩,0,0,0⟩ Cb w1 w (wo.setCell ⟨V,6,none⟩ (.iface 100 (.pointer (some ⟨L,0,none⟩)))) #[.iface 5 (.int .u8 108),.iface 104 (.int .u8 ty),.iface 105 (.int .u8 fl),.iface 5 (.int .u8 1),.iface 22 (.int .u32 bv),.iface 22 (.int .u32 kG),.iface 100 (.pointer (some ⟨L,0,none⟩))]from LP.o.sv.put 6 (.iface 100 (.pointer (some ⟨L,0,none⟩))))
    have vV:=ah (LP.o.list (.iface 100 (.pointer (some ⟨L,0,none⟩))))
    obtain⟨p1,-,he⟩:=SV.o.en.enc
    have e1:=au (aQ he (.cells #[.slice none 0 0,.int .i64 0,.int .i8 0] 151)) 1 (v:=.slice (some ⟨V+1+1,0,none⟩) 0 0) rfl
    clear he LP
    go_wp2_with (go_at_call 140;refine(W_ _ _ _ _ _ _).mono ?_;rintro e w6 ⟨rfl,hn6,hb6⟩;refine Hid.o ?_)
    refine ah ?_
    have hsz:(wo.setCell ⟨V,6,none⟩ (.iface 100 (.pointer (some ⟨L,0,none⟩)))).heap.size=wo.heap.size:=by simp
    generalize (wo.setCell ⟨V,6,none⟩ (.iface 100 (.pointer (some ⟨L,0,none⟩))))=W5 at hsz SV vV hn6 hb6 e1
    rw[←hsz]at hn6 ⊢
    have EN:=ah (En.fresh (W:=W5) (some ⟨V+1+1,0,none⟩) 0 0 0 (by omega) (by simpa using hn6) hb6)
    obtain⟨B2,hB2⟩:∃B2,W5.heap.size=B2:=⟨_,rfl⟩
    rw[hB2]at EN ⊢
    have HB2:=ah (by have:=HVW.o;have:=SV.o.eX.size;omega:w.heap.size≤B2)
    have HE1:=ah (abC SV.o EN.o rfl vV.o HL.o.1 HL.o.2.1 HL.o.2.2 (by simp[A.dN,T.ty,T.nI]) (Utf8Tabs_below HT.o SV.o.eX))
    clear hn6 hb6 e1 hsz hB2 vV k6 f6 hEV hd
    go_wp2_with (first
     |(go_at_call 141;refine HE1.o.mono ?_;rintro e w7 ⟨rfl,h1⟩;have EN:=ah h1;clear h1)
     |(go_at_call 143;refine(fV EN.o 8 (by omega) (by omega)).mono ?_;rintro e w8 ⟨rfl,h1,-⟩;have BT:=ah (aej SV.o h1 (by rw[HV.o];omega) (by have:=HVW.o;omega) HEC.o (by omega));clear h1)
     |(go_at_call 144;(with_reducible refine BT.o.mono ?_);rintro e w9 ⟨n9,rfl,h1,h2⟩;have EN:=ah h1;have HP:=ah h2;clear h1 h2)
     |(go_at_call 134;refine EN.o.len.mono ?_;rintro e w10 ⟨n2,hn2,rfl,h1,h2⟩;have EN:=ah h1;have HP:=ah (HP.o.trans (h2.mono HP.o.size));have hgt:decide ((134217728:Int)<(n2:Int))=false:=(by simp;omega);clear h1 h2 hn2)
     |(go_at_call 144;(with_reducible refine(EN.o.gone (by omega) HB2.o HP.o).mono ?_);rintro e w11 ⟨n11,rfl,hc,h2⟩;have HP:=ah h2;clear h2))
    go_ret2
    exact⟨⟨_,rfl⟩,HP.o⟩)
section
structure MOk (w:World) (ok:Nat→Prop) (M mb ty fl kG:Nat) (A0:Option Addr) (n c:Nat) (H:Nat→Option A) (body:List A) (vs:List Value):Prop where
 mg:Mg w ok M mb ty fl kG A0 n c H
 tyb:ty<256
 flb:fl<256
 nb:n≤1000000
 sz:∀d a s,H d=some a→(a=.sc (.s s)∨a=.sc (.o s))→s.size≤1000000
 row:Row w ok 20 (.slice A0 n c) vs
 has:nX w ok body vs
 bd:∀e∈body,mG e∧e.dN.ty.length≤1000000∧e.dep≤64
 ec:A.qM body≤10000000
 hL:mG (.list (.str [.base 121,.base 118]) (xK H 10))
 hLe:(A.list (.str [.base 121,.base 118]) (xK H 10)).ec≤20000000
 hLd:(A.list (.str [.base 121,.base 118]) (xK H 10)).dep≤64
 tabs:Lib.Utf8Tabs 8 9 w
def EfP (P:Prop) (w:World) (e:Ending) (w':World):Prop:=Below w.heap.size w w'∧(((∃v,e=.returned (.tuple #[v,.nilIface]))∧P)∨((∃v s,e=.returned (.tuple #[v,.iface 224 (.string s)]))∧¬P))
section
variable {w:World} {ok:Nat→Prop} {M mb ty fl kG:Nat} {A0:Option Addr} {n c:Nat} {H:Nat→Option A} {body:List A} {vs:List Value}
theorem ap9 (h:MOk w ok M mb ty fl kG A0 n c H body vs):Calls prog 117 #[.pointer (some ⟨M,0,none⟩),.iface 342 (.agg #[]),.iface 160 (.agg #[])] w (EfP (yE ty fl H n) w):=by
 by_cases hok:yE ty fl H n
 ·refine(aaO h.mg h.tyb h.flb h.nb h.sz hok body vs h.row h.has h.bd h.ec h.hL h.hLe h.hLd h.tabs).mono ?_
  rintro e w' ⟨h1,h2⟩
  exact⟨h2,.inl ⟨h1,hok⟩⟩
 ·have VH:=ah (Xp h.mg h.tyb h.flb h.nb h.sz)
  have DL:=ah hok
  clear h hok
  go_enter func117,ntmps117
  go_wp2_with (go_at_call 138;refine VH.o.mono ?_;rintro e w1 ⟨hb,h1⟩;have HB:=ah hb;obtain⟨⟨s,rfl⟩,-⟩:=(h1.resolve_left fun h=>DL.o h.2);clear hb h1)
  go_ret2
  exact⟨HB.o,.inr ⟨⟨_,_,rfl⟩,DL.o⟩⟩
theorem alv (h:MOk w ok M mb ty fl kG A0 n c H body vs):Calls prog 90 #[.pointer (some ⟨M,0,none⟩),.iface 342 (.agg #[]),.iface 160 (.agg #[])] w (VhP (yE ty fl H n) w):=by
 have EF:=ah (ap9 h)
 clear h
 go_enter func90,ntmps90
 go_wp2_with (go_at_call 117;refine EF.o.mono ?_;rintro e w1 ⟨hb,h1⟩;have HB:=ah hb;clear hb;rcases h1 with ⟨⟨v,rfl⟩,h1⟩|⟨⟨v,s,rfl⟩,h1⟩)
 ·go_ret
  exact⟨HB.o,.inl ⟨rfl,h1⟩⟩
 ·go_ret
  exact⟨HB.o,.inr ⟨⟨_,rfl⟩,h1⟩⟩
theorem isValid (h:MOk w ok M mb ty fl kG A0 n c H body vs) (h2:w.cell? ⟨2,0,none⟩=some (.iface 342 (.agg #[]))):Calls prog 56 #[.pointer (some ⟨M,0,none⟩)] w (VhP (yE ty fl H n) w):=by
 have EF:=ah (alv h)
 clear h
 go_enter func56,ntmps56
 go_wp2_with (go_at_call 90;refine EF.o.mono ?_;rintro e w1 ⟨hb,h1⟩;have HB:=ah hb;clear hb;rcases h1 with ⟨rfl,h1⟩|⟨⟨s,rfl⟩,h1⟩)
 ·go_ret
  exact⟨HB.o,.inl ⟨rfl,h1⟩⟩
 ·go_ret
  exact⟨HB.o,.inr ⟨⟨_,rfl⟩,h1⟩⟩
end
end
end Go.Proofs.YtllcccekodcdmaaGreatDoor.Ms
