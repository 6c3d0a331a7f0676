/- For every message of at most 1048576 values and letters, laws.FnMsText answers true, and the message reads afterwards as it read before. Conditions: the row's own (the listed variables hold what the program's text lays; the bound on the argument's bulk). -/
import Derived.ChangeSame
import Derived.Deep.DeepHandedRow
import Derived.Deep.Slices
import Derived.Lay
import Derived.Lib.LaidPrint
import Derived.Lib.LaidTab
import Derived.Lib.LaidU8T
import Derived.MakeChecks
import Derived.OpenShut
import Derived.PinnedBridge
import Derived.ProofKit
import Derived.ReadAgain
import Derived.Test.YtllcccekodcdmaaGreatDoorCards
import Derived.Test.YtllcccekodcdmaaGreatDoorRows
import Derived.Test.YtllcccekodcdmaaGreatDoorTie
import Derived.Test.YtllcccekodcdmaaGreatDoorC27
set_option linter.unusedVariables false
set_option linter.unusedSimpArgs false
set_option maxRecDepth 100000
set_option maxHeartbeats 32000000
open Go.Proofs.Tryz
namespace Go.Proofs.YtllcccekodcdmaaGreatDoor.Ms
open Go Go.RowKit Go.Proofs.ak.aT Go.Proofs.YtllcccekodcdmaaGreatDoor.bK
theorem ami (s:Nat) (F:List jB) (H:Nat→Option A) (hr:∀c:Nat,Rel (findF (c:Int) F) (H c)) (hk:∀c a,c<256→H c=some a→FOk c a) (c:Nat) (nm:bG) (h1:1≤c) (h9:c≤9) (h8:c≠8):Md s F (nm,(c:Int))=BQ nm (H c):=by
 have h:=hr c
 unfold Md
 rw[if_neg (show ¬(nm,(c:Int)).2=0 by simp;omega)]
 simp only
 cases hx:findF (c:Int) F with
 |none =>
  cases ha:H c with
  |none=>rfl
  |some a=>rw[hx,ha]at h;exact h.elim
 |some x =>
  cases ha:H c with
  |none=>rw[hx,ha]at h;exact h.elim
  |some a =>
   rw[hx,ha]at h
   have h:FT x a:=h
   obtain⟨-,-,g⟩:=hk c a (by omega) ha
   obtain⟨k1,k2⟩:=Dh c h1 h9
   have k3:=(h.kind _ k2).2 g
   have hlk:oI x.f0:=by rw[k3];rcases k2 with e|e|e|e<;>rw[e]<;>simp[oI]
   obtain⟨e1,e2⟩:=h.sc hlk
   have hb:=h.jv
   rw[jF]at hb
   have h4:=(Bj x hlk h.rn (by omega) h.td).2.1
   subst e1
   have hq:uz c=111∨uz c=115∨uz c=117:=by
    unfold uz
    rcases nine h1 h9 with rfl|rfl|rfl|rfl|rfl|rfl|rfl|rfl|rfl<;>first|exact absurd rfl h8|decide
   have hin:=h.td
   obtain⟨f0,f1,f2,f3⟩:=x
   have hin:=hin.1
   simp only at *
   rcases hq with e|e|e
   ·rw[e]at k3
    have k3:f0=111:=k3
    subst k3
    rfl
   ·rw[e]at k3
    have k3:f0=115:=k3
    subst k3
    rfl
   ·rw[e]at k3
    have k3:f0=117:=k3
    subst k3
    have hlt:f1<4294967296:=by simpa[iw.f]using hin
    have hw:IntKind.u32.wrap f1=f1:=by rw[IntKind.wrap_u32];have:=h.rn;simp only at this;omega
    show nm++bs (Lib.decDigits f1.toNat)=nm++bs (nU (IntKind.u32.wrap f1))
    rw[hw]
    rfl
theorem adx (t s:Nat) (F:List jB) (H:Nat→Option A) (hr:∀c:Nat,Rel (findF (c:Int) F) (H c)) (hk:∀c a,c<256→H c=some a→FOk c a):w_ t s F=vZ t s H:=by
 have e:=fun c nm h1 h9 h8=>ami s F H hr hk c nm h1 h9 h8
 show(((((((((Zm t++Md s F (nm7,((7:Nat):Int)))++Md s F (nm6,((6:Nat):Int)))++Md s F (nm0,0))++Md s F (nm5,((5:Nat):Int)))++Md s F (nm9,((9:Nat):Int)))++Md s F (nm1,((1:Nat):Int)))++Md s F (nm2,((2:Nat):Int)))++Md s F (nm4,((4:Nat):Int)))++Md s F (nm3,((3:Nat):Int)))=_
 rw[e 7 nm7 (by decide) (by decide) (by decide),e 6 nm6 (by decide) (by decide) (by decide),e 5 nm5 (by decide) (by decide) (by decide),e 9 nm9 (by decide) (by decide) (by decide),e 1 nm1 (by decide) (by decide) (by decide),e 2 nm2 (by decide) (by decide) (by decide),e 4 nm4 (by decide) (by decide) (by decide),e 3 nm3 (by decide) (by decide) (by decide)]
 rfl
def CJ (X:bG) (l:List A) (k:Nat):bG:=(l.take k).foldl (fun x a=>x++((⟨#[10,32,32]⟩:bG)++bs a.str)) X
theorem CO (X:bG) (l:List A) (k:Nat) (h:k<l.length):CJ X l (k+1)=CJ X l k++((⟨#[10,32,32]⟩:bG)++bs (l[k]).str):=by
 unfold CJ
 rw[lu h,List.foldl_append]
 rfl
theorem aap (X:bG) (l:List A) (n:Nat) (hn:l.length=n) (h0:0<n):∀k,k≤n→X++(⟨#[10]⟩:bG)++o7 l n k=CJ X l k++(if k=n then(⟨#[]⟩:bG)else⟨#[10]⟩):=by
 intro k
 induction k with
 |zero =>
  intro _
  rw[if_neg (by omega)]
  show X++(⟨#[10]⟩:bG)++(⟨#[]⟩:bG)=_
  rw[jG]
  rfl
 |succ k ih =>
  intro hk
  have h:=ih (by omega)
  rw[if_neg (show ¬k=n by omega)]at h
  have hkl:k<l.length:=by omega
  simp only[o7,gQ hkl]
  rw[←pK,←pK,h,CO X l k hkl,show(⟨#[10,32,32]⟩:bG)=(⟨#[10]⟩:bG)++(⟨#[32,32]⟩:bG)from rfl]
  simp only[pK]
theorem af2 (t s:Nat) (H:Nat→Option A) (l:List A):ai6 t s H l=CJ (vZ t s H) l l.length:=by
 unfold ai6 TB
 by_cases h:l.length=0
 ·have:l=[]:=List.length_eq_zero_iff.1 h
  subst this
  show vZ t s H++(⟨#[]⟩:bG)++(⟨#[]⟩:bG)=_
  rw[jG,jG]
  rfl
 ·rw[if_neg h,aap _ l l.length rfl (by omega) l.length bW,if_pos rfl,jG]
theorem Qc (a:A) (h:ZB a):a.str.length≤20000000:=by
 have h1:=a.agq h.wQ
 have h2:=h.tl
 have h3:=h.f_.2.2.1
 omega
theorem XR (X:bG) (l:List A) (h:∀a∈l,ZB a):∀k,k≤l.length→(CJ X l k).size≤X.size+k*20000003:=by
 intro k
 induction k with
 |zero=>intro _;exact bW
 |succ k ih =>
  intro hk
  have h1:=ih (by omega)
  have h2:=Qc _ (h _ (nZ (show k<l.length by omega)))
  rw[CO X l k (by omega),gK,gK,aH]
  have:(⟨#[10,32,32]⟩:bG).size=3:=rfl
  omega
structure Law (t f s:Nat) (fs:List jB) (vs:List dS) (l:List (Nat×A)) (body:List A):Prop where
 fl:fs.length=l.length
 fd:∀(i:Nat) (h:i<fs.length) (h':i<l.length),adO (RX fs[i]) l[i]
 dv:Doors (jw vs) body
 bok:BOk l body
 cf:∀(i:Nat) (h:i<fs.length),kZ (fs[i]).f1≤1000000
 bt:∀(i:Nat) (h:i<vs.length) (h':i<body.length),FT vs[i] body[i]
 aqd:ahu (dF fs)
 fsw:FsW (dF fs)
 snd:tV t f (dF fs) vs.length=true↔yE t f (Ee l) body.length
 wd:yE t f (Ee l) body.length→w_ t s (dF fs)=vZ t s (Ee l)
theorem ai2 (t f s:Nat) (fs:List jB) (vs:List dS) (hm:Oc fs vs) (hc:∀y∈fs,0≤y.f0∧y.f0<256) (hr:∀y∈fs,Rn y.f1) (hv:ZE vs):∃l body,Law t f s fs vs l body∧body.length=vs.length:=by
 obtain⟨h20,hw,hf,-⟩:=hm
 obtain⟨l,hl,hfl⟩:=Ji fs hf hr
 obtain⟨body,hb,hbt,hec⟩:=aei vs hw hv
 have hll:=fK vs
 have hcn:=hw.1.1
 have rel:∀c:Nat,Rel (findF (c:Int) (dF fs)) (Ee l c):=fun c=>by
  have:=acI fs l hl hfl (fun y hy=>(hc y hy).1) c fs.length bW
  rwa [List.take_length,hl,List.take_length]at this
 have snd:=Y2 t f vs.length (dF fs) (Ee l) (fun y hy=>⟨hc y (vO fs y hy).1,(vO fs y hy).2⟩) rel
 have mem:∀y∈fs,∃a,FT y.f1 a:=fun y hy=>by
  obtain⟨i,hi,rfl⟩:=List.getElem_of_mem hy
  exact⟨_,(hfl i hi (by omega)).2⟩
 refine⟨l,body,⟨hl,fun i h h'=>?_,⟨by rw[oN,hb],fun i h h'=>?_⟩,⟨by omega,fun p hp=>?_,fun e he=>?_,by omega,hec⟩,fun i h=>?_,hbt,fun y hy=>?_,fun y hy=>?_,?_,fun h=>adx t s _ _ rel h.kinds⟩,hb⟩
 ·obtain⟨e1,e2⟩:=hfl i h h'
  have h0:=hc _ (nZ h)
  exact⟨by show(fs[i]).f0=_;rw[e1];omega,by rw[e1];omega,e2.door,e2.ok.f_⟩
 ·have hi:i<vs.length:=by omega
  rw[Hl vs i hi]
  exact(hbt i hi h).door
 ·obtain⟨i,hi,rfl⟩:=List.getElem_of_mem hp
  have hi2:i<fs.length:=by omega
  obtain⟨e1,e2⟩:=hfl i hi2 hi
  have h0:=hc _ (nZ hi2)
  exact⟨by rw[e1];omega,e2.ok⟩
 ·obtain⟨i,hi,rfl⟩:=List.getElem_of_mem he
  exact(hbt i (by omega) hi).ok
 ·have:=(hfl i h (by omega)).2.kZ
  omega
 ·obtain⟨a,ha⟩:=mem y (vO fs y hy).1
  have h1:=ha.jv
  rw[jF]at h1
  refine⟨by omega,fun _ Af=>?_⟩
  have ht:=ha.td
  generalize y.f1=x at *
  obtain⟨f0,f1,f2,f3⟩:=x
  obtain⟨-,-,-,-,t5,-⟩:=ht
  obtain⟨k,hk⟩:=(t5 Af).1.2.2
  rw[o8]at hk
  exact⟨k,hk⟩
 ·obtain⟨a,ha⟩:=mem y (vO fs y hy).1
  have h1:=ha.jv
  rw[jF]at h1
  exact⟨by omega,ha.rn⟩
 ·rw[hb];exact snd
end Go.Proofs.YtllcccekodcdmaaGreatDoor.Ms
namespace Go.Proofs.YtllcccekodcdmaaGreatDoor.Ms
open Go Go.RowKit Go.Proofs.ak.aT Go.Proofs.ak.cO Go.Proofs.YtllcccekodcdmaaGreatDoor.bK
theorem Qj {t s:Nat} {F:List jB} (hs:s<4294967296) (hw:FsW F):(w_ t s F).size≤10000000:=by
 have:=Jz t s F hs hw 9 bW
 unfold w_
 omega
theorem OJ (t f s:Nat) (ht:t<256) (hf:f<256) (hs:s<4294967296) (fs:List jB) (vs:List dS) (A1 A2:Option Addr) (c1 c2:Nat) (w:World) (h1:Kd.C wG w A1 fs.length fs) (hc1:fs.length≤c1) (hl:fs.length≤10000000) (h2:Kd.C qx w A2 vs.length vs) (hc2:vs.length≤c2)
  (hb1:∀y∈fs,kZ y.f1≤2000000∧jv y.f1≤2000000) (hb2:eu vs≤2000000∧dJ vs≤2000000) (hcd:∀y∈fs,0≤y.f0∧y.f0<256) (hr:∀y∈fs,Rn y.f1) (hv:ZE vs) (hg:w.cell? ⟨2,0,none⟩=some (.iface 342 (.agg #[]))) (pt:l7 w) :
  fC 3 #[.agg #[.int .u8 t,.int .u8 f,.int .u32 s,.slice A1 fs.length c1,.slice A2 vs.length c2]] w (.bool true):=by
 have hvl:=fK vs
 have FI:=ah (fun (W:World)=>Yf t f s A1 A2 fs.length c1 vs.length c2 (by omega) (by omega) W)
 have GO:=ah (fun (W:World) (hb:Below w.heap.size w W)=>Yk t f s fs vs A1 A2 c1 c2 W (Kd.bQ h1 hb) hl (Kd.bQ h2 hb) hc2 hb1 hb2 (Utf8Tabs_below pt.ut hb))
 have SO:=ah (fun (h20:fs.length≤20) (W:World) (hb:Below w.heap.size w W)=>JE t f s fs A1 A2 c1 vs.length c2 W (Kd.xu (Kd.C_F Ph h1) hb) (by omega))
 have LW:=ah (fun (hm:Oc fs vs)=>ai2 t f s fs vs hm hcd hr hv)
 have HN:=ah (fun (W:World) (hb:Below w.heap.size w W) (i:Nat) (hi:i<vs.length)=>uY h2 hb i hi)
 have VT:=ah (fun (x:dS) (a:A) (h:FT x a) (A0:Option Addr) (c:Nat) (W:World) (hb:Below w.heap.size w W) (hc:Kd.C qx W A0 x.f3.length x.f3) (hcc:x.f3.length≤c)=>adu x a h.door h.ok.f_ h.ok.wQ h.ok.tl (by have:=h.kZ;omega) A0 c W hc hcc (pt.below hb))
 have MT:=ah (fun (hcv:eu vs≤1000000) (l:List (Nat×A)) (body:List A) (L:Law t f s fs vs l body) (W:World) (hb:Below w.heap.size w W)=>ai4 t f s ht hf hs fs l L.fl L.fd body vs L.dv L.bok hcv L.cf A1 A2 c1 c2 W (Kd.bQ h1 hb) hc1 (Kd.bQ h2 hb) hc2 ((hb.cell (p:=⟨2,0,none⟩) (fA w _ hg)).trans hg) (pt.below hb))
 have HS:=ah hs
 obtain⟨n1,hn1⟩:∃n1,fs.length=n1:=⟨_,rfl⟩
 obtain⟨n2,hn2⟩:∃n2,vs.length=n2:=⟨_,rfl⟩
 have B_:=ah hn1
 have HN2:=ah hn2
 rw[hn1,hn2]at FI GO MT ⊢
 rw[hn2]at SO
 have HB0:=ah ((jM w).alloc bW (.cells #[.int .u8 t,.int .u8 f,.int .u32 s,.slice A1 n1 c1,.slice A2 n2 c2] 26))
 have pI:=ah (aV w (.cells #[.int .u8 t,.int .u8 f,.int .u32 s,.slice A1 n1 c1,.slice A2 n2 c2] 26) _ rfl)
 clear h1 hn1 h2 hn2 hb1 hb2 hc1 hc2 pt hg hcd hr hv hvl hs
 go_enter func3,ntmps3
 go_wp2_with (first
  |(go_at_call 4;refine(FI.o _).mono ?_;rintro e w1 ⟨rfl,hb⟩;have HB1:=ah (HB0.o.trans (hb.mono HB0.o.size));have J7:=ah ((hb.block _ (lt_of_block pI.o)).trans pI.o);have ⟨r0,r1,r2,r3,r4⟩:=jQ J7.o;clear hb)
  |(go_at_call 5;refine(GO.o _ HB1.o).mono ?_;rintro e w2 ⟨r,rfl,hb,hr⟩;have HB2:=ah (HB1.o.trans (hb.mono HB1.o.size));have Ic:=ah ((hb.block _ (lt_of_block J7.o)).trans J7.o);have HR:=ah hr;have ⟨r0,r1,r2,r3,r4⟩:=jQ Ic.o;clear hb hr;cases r))
 ·go_ret
  exact⟨rfl,HB2.o⟩
 have HMG:=ah (HR.o (by trivial))
 clear HR HB0 pI HB1 J7 FI GO
 obtain⟨l,body,L,hbl⟩:=LW.o HMG.o
 have HL:=ah L
 have rU:=ah hbl
 have SOR:=ah (SO.o HMG.o.1)
 rw[B_.o]at SOR
 have SN:=ah (fun (A':Option Addr) (c':Nat) (W:World) (hc:Kd.C wG W A' (dF fs).length (dF fs))=>Ub t f s (dF fs) A' A2 c' n2 c2 W hc (by have:=sQ fs;have:=HMG.o.1;omega) HL.o.aqd (by have:=HN2.o;have:=rU.o;have:=HL.o.bok.lb;omega))
 have MTT:=ah (MT.o (by have:=HMG.o.2.1.1.1;omega) l body HL.o)
 clear MT SO LW L hbl
 have HSB:=ah HL.o.snd
 rw[HN2.o]at HSB
 by_cases hok:yE t f (Ee l) body.length
 ·have hsb:=HSB.o.2 hok
  rw[hsb]at SN
  have HW:=ah (HL.o.wd hok)
  have WO:=ah (fun (A':Option Addr) (c':Nat) (W:World) (hc:Kd.C wG W A' (dF fs).length (dF fs))=>ady t f s hok.type.1 hok.type.2 HS.o (dF fs) A' A2 c' n2 c2 W hc (by have:=sQ fs;have:=HMG.o.1;omega) HL.o.fsw)
  have MT2:=ah (fun (W:World) (hb:Below w.heap.size w W)=>(MTT.o W hb).mono (fun e w' h=>(by
   obtain⟨⟨X,he,hx⟩,h2⟩:=h
   rcases hx with ⟨-,rfl⟩|⟨hx,-⟩
   ·rw[af2,←HW.o]at he
    exact⟨he,h2⟩
   ·exact absurd hok hx:e=.returned (.tuple #[.string (CJ (w_ t s (dF fs)) body body.length),.bool true])∧Below W.heap.size W w')))
  have hbn:body.length=n2:=rU.o.trans HN2.o
  have nY:=ah (fun k (hk:k≤body.length)=>XR (w_ t s (dF fs)) body HL.o.bok.bd k hk)
  have HSX:=ah (Qj (t:=t) HS.o HL.o.fsw)
  have HLB:=ah HL.o.bok.lb
  rw[hbn]at MT2 nY HLB
  obtain⟨m1,hm1⟩:∃m1,(dF fs).length=m1:=⟨_,rfl⟩
  rw[hm1]at SOR SN WO
  clear hsb hok MTT HSB
  generalize w_ t s (dF fs)=X0 at *
  go_wp2_with (first
   |(go_at_call 6;refine(SOR.o _ HB2.o).mono ?_;rintro e w3 ⟨A',c',rfl,hle,hF,hb⟩;have HB3:=ah ((HB2.o.trans (hb.mono HB2.o.size)).alloc (HB2.o.trans (hb.mono HB2.o.size)).size (.cells #[.int .u8 t,.int .u8 f,.int .u32 s,.slice A' m1 c',.slice A2 n2 c2] 26));have Hz:=ah (aQ ((hb.block _ (lt_of_block Ic.o)).trans Ic.o) (.cells #[.int .u8 t,.int .u8 f,.int .u32 s,.slice A' m1 c',.slice A2 n2 c2] 26));have KS3:=ah (aV w3 (.cells #[.int .u8 t,.int .u8 f,.int .u32 s,.slice A' m1 c',.slice A2 n2 c2] 26) _ rfl);have HC3:=ah (Kd.jE (Kd.ET hF) (.cells #[.int .u8 t,.int .u8 f,.int .u32 s,.slice A' m1 c',.slice A2 n2 c2] 26));have ⟨s0,s1,s2,s3,s4⟩:=jQ KS3.o;clear hb hF)
   |(go_at_call 7;refine(SN.o _ _ _ HC3.o).mono ?_;rintro e w4 ⟨rfl,hb⟩;have HB4:=ah (HB3.o.trans (hb.mono HB3.o.size));have KB4:=ah ((hb.block _ (lt_of_block Hz.o)).trans Hz.o);have KS4:=ah ((hb.block _ (lt_of_block KS3.o)).trans KS3.o);have HC4:=ah (Kd.bQ HC3.o hb);have ⟨s0,s1,s2,s3,s4⟩:=jQ KS4.o;clear hb)
   |(go_at_call 8;refine(WO.o _ _ _ HC4.o).mono ?_;rintro e w5 ⟨rfl,hb⟩;have zq:=ah (HB4.o.trans (hb.mono HB4.o.size));have ZC:=ah ((hb.block _ (lt_of_block KB4.o)).trans KB4.o);have KS5:=ah ((hb.block _ (lt_of_block KS4.o)).trans KS4.o);have ⟨r0,r1,r2,r3,r4⟩:=jQ ZC.o;clear hb))
  clear HB2 Ic HB3 Hz KS3 HC3 HB4 KB4 KS4 HC4 KS5
  go_loopw [4,26] (fun v4 v26 wr=>∃(k:Nat),k≤n2∧v26=.int .i64 (k:Nat)∧v4=.string (CJ X0 body k)∧aj (Below w5.heap.size w5 wr)) (fun _ v26 _=>n2-(intOf v26).toNat)
  case atStart=>exact⟨0,jf _,rfl,rfl,⟨jc⟩⟩
  case round =>
   obtain⟨k,hk,rfl,rfl,HB⟩:=hrel
   have BO:=ah (zq.o.trans (HB.o.mono zq.o.size))
   have HSK:=ah (nY.o k hk)
   by_cases hlt:k<n2
   ·have hd:decide ((k:Int)<(n2:Int))=true:=by simp;omega
    have hk9:k+1≤1000000:=by have:=HLB.o;omega
    have hkv:k<vs.length:=by have:=HN2.o;omega
    have hkb:k<body.length:=by have:=rU.o;omega
    obtain⟨ad,A4,c4,hA,h0,h1,h2,h3,h4,h5⟩:=HN.o wr BO.o k hkv
    subst hA
    have HT:=ah (CO X0 body k hkb)
    have hss:=Qc _ (HL.o.bok.bd _ (nZ hkb))
    have sA:=fun w=>oZ w ⟨#[10,32,32]⟩ (bs (body[k]).str) (by rw[aH];have:(⟨#[10,32,32]⟩:bG).size=3:=rfl;omega)
    have sB:=fun w=>oZ w (CJ X0 body k) ((⟨#[10,32,32]⟩:bG)++bs (body[k]).str) (by rw[gK,aH];have:=HSK.o;have:=HSX.o;have:(⟨#[10,32,32]⟩:bG).size=3:=rfl;omega)
    have HQ:=ah (BO.o.alloc BO.o.size (.cells #[.int .u8 (vs[k]).f0,.int .u64 (vs[k]).f1,.string (vs[k]).f2,.slice A4 (vs[k]).f3.length c4] 32))
    have HQ5:=ah (HB.o.alloc HB.o.size (.cells #[.int .u8 (vs[k]).f0,.int .u64 (vs[k]).f1,.string (vs[k]).f2,.slice A4 (vs[k]).f3.length c4] 32))
    have VTK:=ah (VT.o vs[k] body[k] (HL.o.bt k hkv hkb) A4 c4 _ HQ.o (Kd.bQ h5 HQ.o) h4)
    generalize vs[k]=x at *
    generalize CJ X0 body k=X at *
    generalize bs (body[k]).str=S at *
    clear h5 hss hkb hkv
    go_wp2_with (go_at_call 9;refine VTK.o.mono ?_;rintro e w6 ⟨rfl,hb⟩;have JW:=ah (HQ5.o.trans (hb.mono HQ5.o.size));clear hb)
    go_roundw
    case rel=>exact⟨k+1,hlt,by go_num,by rw[HT.o],⟨JW.o⟩⟩
    case measure=>simp[intOf];omega
   ·have hd:decide ((k:Int)<(n2:Int))=false:=by simp;omega
    have hkn:k=n2:=by omega
    subst hkn
    obtain⟨r0,r1,r2,r3,r4⟩:=jQ ((HB.o.block _ (lt_of_block ZC.o)).trans ZC.o)
    have hq:((CJ X0 body k).toList==(CJ X0 body k).toList)=true:=by simp
    generalize CJ X0 body k=X at *
    go_wp2_with (go_at_call 10;refine(MT2.o _ BO.o).mono ?_;rintro e w6 ⟨rfl,hb⟩;have JW:=ah (BO.o.trans (hb.mono BO.o.size));clear hb)
    go_ret
    exact⟨rfl,JW.o⟩
 ·have hsb:tV t f (dF fs) n2=false:=by
   cases h:tV t f (dF fs) n2
   ·rfl
   ·exact absurd (HSB.o.1 h) hok
  rw[hsb]at SN
  have MT2:=ah (fun (W:World) (hb:Below w.heap.size w W)=>(MTT.o W hb).mono (fun e w' h=>(by
   obtain⟨⟨X,he,hx⟩,h2⟩:=h
   rcases hx with ⟨hx,-⟩|⟨-,rfl⟩
   ·exact absurd hx hok
   ·exact⟨he,h2⟩:e=.returned (.tuple #[.string A_,.bool true])∧Below W.heap.size W w')))
  have hq:(A_.toList==[60,105,110,118,97,108,105,100,62])=true:=by rw[ByteArray.toList_eq];rfl
  obtain⟨m1,hm1⟩:∃m1,(dF fs).length=m1:=⟨_,rfl⟩
  rw[hm1]at SOR SN
  clear hsb hok MTT HSB
  generalize A_=X at *
  go_wp2_with (first
   |(go_at_call 6;refine(SOR.o _ HB2.o).mono ?_;rintro e w3 ⟨A',c',rfl,hle,hF,hb⟩;have HB3:=ah ((HB2.o.trans (hb.mono HB2.o.size)).alloc (HB2.o.trans (hb.mono HB2.o.size)).size (.cells #[.int .u8 t,.int .u8 f,.int .u32 s,.slice A' m1 c',.slice A2 n2 c2] 26));have Hz:=ah (aQ ((hb.block _ (lt_of_block Ic.o)).trans Ic.o) (.cells #[.int .u8 t,.int .u8 f,.int .u32 s,.slice A' m1 c',.slice A2 n2 c2] 26));have KS3:=ah (aV w3 (.cells #[.int .u8 t,.int .u8 f,.int .u32 s,.slice A' m1 c',.slice A2 n2 c2] 26) _ rfl);have HC3:=ah (Kd.jE (Kd.ET hF) (.cells #[.int .u8 t,.int .u8 f,.int .u32 s,.slice A' m1 c',.slice A2 n2 c2] 26));have ⟨s0,s1,s2,s3,s4⟩:=jQ KS3.o;clear hb hF)
   |(go_at_call 7;refine(SN.o _ _ _ HC3.o).mono ?_;rintro e w4 ⟨rfl,hb⟩;have HB4:=ah (HB3.o.trans (hb.mono HB3.o.size));have ⟨r0,r1,r2,r3,r4⟩:=jQ ((hb.block _ (lt_of_block Hz.o)).trans Hz.o);clear hb)
   |(go_at_call 10;refine(MT2.o _ HB4.o).mono ?_;rintro e w6 ⟨rfl,hb⟩;have JW:=ah (HB4.o.trans (hb.mono HB4.o.size));clear hb))
  go_ret
  exact⟨rfl,JW.o⟩
end Go.Proofs.YtllcccekodcdmaaGreatDoor.Ms
namespace Go.Proofs.YtllcccekodcdmaaGreatDoor.Ms
open Go Go.RowKit Go.Proofs.ak.aT Go.Proofs.YtllcccekodcdmaaGreatDoor.bK Go.ChangeShapes Go.WideShapes
section
theorem Ru:prog.cellsOf 5=1:=by kernel_rfl
theorem aep:prog.cellsOf 22=1:=by kernel_rfl
theorem aeu:prog.cellsOf 30=1:=by kernel_rfl
theorem ahT:prog.cellsOf 9=1:=by kernel_rfl
theorem UO:prog.cellsOf 24=1:=by kernel_rfl
theorem aer:prog.cellsOf 23=1:=by kernel_rfl
theorem EC:prog.cellsOf 32=4:=by kernel_rfl
theorem UQ:prog.cellsOf 38=5:=by kernel_rfl
theorem aes:prog.cellsOf 26=5:=by kernel_rfl
theorem XW {w:World} {base:Nat} {a:Addr} {n:Nat} {cs:List Value} (h:w.cells? base a n=some cs):cs.length=n∧∀i u,cs[i]?=some u→w.cell? (a.add i)=some u:=by
 unfold World.cells? at h
 split at h
 ·have hl:cs.length=n:=by simpa using mapM_some_length h
  refine⟨hl,fun i u hu=>?_⟩
  have hi:i<n:=by
   have:=(List.getElem?_eq_some_iff.1 hu).1
   omega
  exact(mapM_some_get h i i (by simp[hi])).trans hu
 ·cases h
theorem afY {α:Type} (n:Nat) (P:Nat→α→Prop) (h:∀i,i<n→∃y,P i y):∃l:List α,l.length=n∧∀(i:Nat) (h:i<l.length),P i l[i]:=by
 induction n with
 |zero=>exact⟨[],rfl,fun i h=>by simp at h⟩
 |succ n ih =>
  obtain⟨l,h1,h2⟩:=ih (fun i hi=>h i (by omega))
  obtain⟨y,hy⟩:=h n (by omega)
  refine⟨l++[y],by simp[h1],fun i hi=>?_⟩
  by_cases e:i<l.length
  ·rw[List.getElem_append_left e];exact h2 i e
  ·have e2:i=n:=by simp at hi;omega
   subst e2
   rw[List.getElem_append_right (by omega)]
   simpa using hy
theorem ams {α:Type} (k:Kd α) (W:World) (a:Addr) (len:Nat) (l:List α) (hl:l.length=len) (hm:len≤9223372036854775807) (h:∀(i:Nat) (hi:i<l.length),∃cs',W.cells? 0 (a.add (i*k.sz)) k.sz=some cs'∧k.K W l[i] cs'):k.C W (some a) len l :=
 ⟨hl,hm,fun _=>⟨a,rfl,fun j p hp=>by
   obtain⟨hj,rfl⟩:=List.getElem?_eq_some_iff.1 hp
   obtain⟨cs',h1,h2⟩:=h j hj
   obtain⟨h3,h4⟩:=XW h1
   exact⟨cs',h3,h2,fun i u hu=>by rw[←add_add];exact h4 i u hu⟩⟩⟩
theorem G9 {H:Type}:∀(l:List dS) (D:Nat→DataW H),(∀(i:Nat) (h:i<l.length),kZ l[i]+jv l[i]≤Rows.uptoBulk (D i))→eu l+dJ l≤Rows.uptoBulkAll ((List.range l.length).map D)
 |[],D,h=>jf _
 |x::l,D,h=>by
  have h0:=h 0 (by simp)
  have h1:=G9 l (fun i=>D (i+1)) (fun i hi=>h (i+1) (by simpa using hi))
  rw[d_,List.range_succ_eq_map,List.map_cons,List.map_map]
  simp only[eu,dJ,Rows.uptoBulkAll]
  simp only[List.getElem_cons_zero]at h0
  have e:(fun i=>D (i+1))=D ∘ Nat.succ:=rfl
  rw[e]at h1
  omega
theorem Om {H:Type} (n:Nat) (D:Nat→DataW H) (i:Nat) (h:i<n):Rows.uptoBulk (D i)≤Rows.uptoBulkAll ((List.range n).map D):=by
 have gen:∀(l:List (DataW H)) (d:DataW H),d∈l→Rows.uptoBulk d≤Rows.uptoBulkAll l:=by
  intro l
  induction l with
  |nil=>intro d h;simp at h
  |cons x l ih =>
   intro d h
   simp only[Rows.uptoBulkAll]
   rcases List.mem_cons.1 h with rfl|h
   ·omega
   ·have:=ih d h;omega
 exact gen _ _ (List.mem_map.2 ⟨i,by simpa using h,rfl⟩)
theorem TS:∀l:List dS,(∀(i:Nat) (h:i<l.length),Rn l[i])→ZE l
 |[],_=>trivial
 |x::l,h=>⟨h 0 (by simp),TS l (fun i hi=>h (i+1) (by simpa using hi))⟩
theorem PE {H:Type} (n:Nat) (D:Nat→DataW H):n≤Rows.uptoBulkAll ((List.range n).map D):=by
 have one:∀d:DataW H,1≤Rows.uptoBulk d:=by
  intro d
  cases d with
  |lit l=>cases l<;>simp[Rows.uptoBulk]
  | _=>simp[Rows.uptoBulk]
 have gen:∀(l:List (DataW H)),l.length≤Rows.uptoBulkAll l:=by
  intro l
  induction l with
  |nil=>exact bW
  |cons x l ih=>have:=one x;simp only[Rows.uptoBulkAll,d_];omega
 have:=gen ((List.range n).map D)
 simpa using this
section
variable {H:Type} {enc:TypeId×Value→H} {W:World} {sp:Nat→Bool} {hd:Bool}
theorem GI {α:Type} (k:Kd α) (t e:TypeId) (ht:prog.underlying t=some (.slice e)) (hc:prog.cellsOf e=k.sz) (Q:DataW H→α→Prop) (N:Nat)
  (hel:∀(fuel:Nat) (cs:List Value) (d:DataW H) (ps:List MemPlace),Rows.uptoBulk d<N→DataW.trod enc prog W 0 sp hd fuel e cs=some (d,ps)→∃y,k.K W y cs∧Q d y)
  {fuel:Nat} {cs:List Value} {d:DataW H} {ps:List MemPlace} (hN:Rows.uptoBulk d≤N) (h:DataW.trod enc prog W 0 sp hd fuel t cs=some (d,ps)) :
  ∃(A:Option Addr) (c:Nat) (l:List α) (D:Nat→DataW H),cs=[.slice A l.length c]∧l.length≤c∧k.C W A l.length l∧(∀(i:Nat) (h:i<l.length),Q (D i) l[i])∧Rows.uptoBulkAll ((List.range l.length).map D)+1≤Rows.uptoBulk d:=by
 rcases Deep.open_slice ht h with ⟨rfl,hx⟩|⟨a,len,cap,m,n,D,Pl,rfl,-,hlc,hcm,hm,hx,aqv⟩
 ·injection hx with hx _
  subst hx
  exact⟨none,0,[],fun _=>.nil,rfl,bW,⟨rfl,by simp,fun h=>absurd h (Nat.lt_irrefl 0)⟩,fun i h=>by simp at h,by simp[Rows.uptoBulk,Rows.uptoBulkAll]⟩
 ·injection hx with hx _
  subst hx
  have hb:Rows.uptoBulkAll ((List.range len).map D)+1≤Rows.uptoBulk (.slice ((List.range len).map D) ((List.range (m-len)).map fun j=>D (len+j))):=by
   simp only[Rows.uptoBulk];omega
  obtain⟨l,hl,hP⟩:=afY len (fun i y=>∃cs',W.cells? 0 (a.add (i*k.sz)) k.sz=some cs'∧k.K W y cs'∧Q (D i) y) (fun i hi=>by
   obtain⟨cs',h1,h2⟩:=aqv i (by rw[hm];split<;>omega)
   rw[hc]at h1
   have:=Om len D i hi
   obtain⟨y,hy,hq⟩:=hel n cs' (D i) (Pl i) (by omega) h2
   exact⟨y,cs',h1,hy,hq⟩)
  subst hl
  exact⟨some a,cap,l,D,rfl,hlc,ams k W a _ l rfl (by have:=PE l.length D;unfold maxLen at hcm;omega) (fun i hi=>by
   obtain⟨cs',h1,h2,-⟩:=hP i hi
   exact⟨cs',h1,h2⟩),fun i hi=>(hP i hi).choose_spec.2.2,hb⟩
theorem aj2 {n:Int} (h:(Lit.int .u64 n).wf=true):0≤n∧n<18446744073709551616:=by
 simp only[Lit.wf,Bool.and_eq_true,decide_eq_true_eq]at h
 have h1:IntKind.u64.min=0:=rfl
 have h2:IntKind.u64.max=18446744073709551615:=rfl
 omega
theorem aj1 {n:Int} (h:(Lit.int .u32 n).wf=true):0≤n∧n<4294967296:=by
 simp only[Lit.wf,Bool.and_eq_true,decide_eq_true_eq]at h
 have h1:IntKind.u32.min=0:=rfl
 have h2:IntKind.u32.max=4294967295:=rfl
 omega
theorem adi {n:Int} (h:(Lit.int .u8 n).wf=true):0≤n∧n<256:=by
 simp only[Lit.wf,Bool.and_eq_true,decide_eq_true_eq]at h
 have h1:IntKind.u8.min=0:=rfl
 have h2:IntKind.u8.max=255:=rfl
 omega
theorem PW (N:Nat):∀(fuel:Nat) (cs:List Value) (d:DataW H) (ps:List MemPlace),Rows.uptoBulk d≤N→DataW.trod enc prog W 0 sp hd fuel 32 cs=some (d,ps)→∃y:dS,qx.K W y cs∧kZ y+jv y≤Rows.uptoBulk d∧Rn y:=by
 induction N with
 |zero =>
  intro fuel cs d ps hN h
  obtain⟨y0,y1,y2,y3,n,hx,-⟩:=Joins.trod_struct4 underlying32 h
  injection hx with hx _
  subst hx
  simp[Rows.uptoBulk]at hN
 |succ N ih =>
  intro fuel cs d ps hN h
  obtain⟨y0,y1,y2,y3,n,hx,hl,t0,t1,t2,t3⟩:=Joins.trod_struct4 underlying32 h
  injection hx with hx _
  subst hx
  rw[EC]at hl
  match cs,hl with
  |[c0,c1,c2,c3],_ =>
   simp only[Ru,aeu,ahT,UO,List.drop,List.take]at t0 t1 t2 t3
   obtain⟨k,e0,rfl,w0⟩:=DataW.trod_int underlying5 t0
   obtain⟨v,e1,rfl,w1⟩:=DataW.trod_int underlying30 t1
   obtain⟨s,e2,rfl,w2⟩:=DataW.trod_string underlying9 t2
   simp only[List.cons.injEq,and_true]at e0 e1 e2
   subst e0 e1 e2
   simp only[Rows.uptoBulk,Rows.uptoBulkAll]at hN
   obtain⟨d3,p3⟩:=y3
   simp only at hN
   obtain⟨A,c,l,D,e3,hlc,hC,hQ,hb⟩:=GI qx 24 32 underlying24 EC (fun d y=>kZ y+jv y≤Rows.uptoBulk d∧Rn y) N (fun fuel cs d ps hlt h=>ih fuel cs d ps (by omega) h) (by omega) t3
   simp only[List.cons.injEq,and_true]at e3
   subst e3
   have hs:=G9 l D (fun i h=>(hQ i h).1)
   refine⟨⟨k,v,s,l⟩,Tf W ⟨k,v,s,l⟩ hlc hC,?_,⟨aj2 w1,TS l (fun i h=>(hQ i h).2)⟩⟩
   have e1:kZ ⟨k,v,s,l⟩=1+eu l:=iG _
   have e2:jv ⟨k,v,s,l⟩=s.size+dJ l:=by rw[jF]
   simp only[Rows.uptoBulk,Rows.uptoBulkAll,Array.length_toList]
   have e3:s.data.size=s.size:=rfl
   omega
theorem TG (fuel:Nat) (cs:List Value) (d:DataW H) (ps:List MemPlace) (h:DataW.trod enc prog W 0 sp hd fuel 38 cs=some (d,ps)):∃y:jB,wG.K W y cs∧((0≤y.f0∧y.f0<256)∧Rn y.f1∧kZ y.f1+jv y.f1≤Rows.uptoBulk d):=by
 obtain⟨y0,y1,n,hx,hl,t0,t1⟩:=trod_struct2 underlying38 h
 injection hx with hx _
 subst hx
 rw[UQ]at hl
 match cs,hl with
 |[c0,c1,c2,c3,c4],_ =>
  simp only[Ru,EC,List.drop,List.take]at t0 t1
  obtain⟨k,e0,rfl,w0⟩:=DataW.trod_int underlying5 t0
  obtain⟨d1,p1⟩:=y1
  obtain⟨y,hK,hb,hr⟩:=PW _ n _ d1 p1 bW t1
  obtain⟨A,c,e1,hlc,hC⟩:=Gv hK
  simp only[List.cons.injEq,and_true]at e0 e1
  obtain⟨rfl,rfl,rfl,rfl⟩:=e1
  subst e0
  exact⟨⟨k,y⟩,abX W ⟨k,y⟩ hlc hC,adi w0,hr,by simp only[Rows.uptoBulk,Rows.uptoBulkAll];omega⟩
theorem acD {cs:List Value} {fuel:Nat} {d:DataW H} {ps:List MemPlace} (hd1:Rows.uptoBulk d≤1048576) (h:DataW.trod enc prog W 0 sp hd fuel 26 cs=some (d,ps)) :
  ∃(t f s:Nat) (A1 A2:Option Addr) (c1 c2:Nat) (fs:List jB) (vs:List dS),cs=[.int .u8 t,.int .u8 f,.int .u32 s,.slice A1 fs.length c1,.slice A2 vs.length c2]∧t<256∧f<256∧s<4294967296 ∧
   (Kd.C wG W A1 fs.length fs∧fs.length≤c1∧fs.length≤10000000)∧(Kd.C qx W A2 vs.length vs∧vs.length≤c2)∧(∀y∈fs,kZ y.f1≤2000000∧jv y.f1≤2000000)∧(eu vs≤2000000∧dJ vs≤2000000)∧(∀y∈fs,0≤y.f0∧y.f0<256)∧(∀y∈fs,Rn y.f1)∧ZE vs:=by
 obtain⟨xs,n,-,hx,hl,hlen,hf⟩:=DataW.trod_struct underlying26 h
 injection hx with hx _
 subst hx
 rw[aes]at hl
 match xs,hlen with
 |[y0,y1,y2,y3,y4],_ =>
 match cs,hl with
 |[v0,v1,v2,v3,v4],_ =>
  have t0:=hf 0 _ rfl
  have t1:=hf 1 _ rfl
  have t2:=hf 2 _ rfl
  have t3:=hf 3 _ rfl
  have t4:=hf 4 _ rfl
  simp[Ru,aep,aer,UO]at t0 t1 t2 t3 t4
  obtain⟨t,e0,rfl,w0⟩:=DataW.trod_int underlying5 t0
  obtain⟨f,e1,rfl,w1⟩:=DataW.trod_int underlying5 t1
  obtain⟨s,e2,rfl,w2⟩:=DataW.trod_int underlying22 t2
  obtain⟨d3,p3⟩:=y3
  obtain⟨d4,p4⟩:=y4
  simp only[Rows.uptoBulk,Rows.uptoBulkAll,List.map_cons,List.map_nil]at hd1
  obtain⟨A1,c1,fs,D1,e3,aqH,hC1,hQ1,hb1⟩:=GI wG 23 38 underlying23 UQ (fun d (y:jB)=>(0≤y.f0∧y.f0<256)∧Rn y.f1∧kZ y.f1+jv y.f1≤Rows.uptoBulk d) _ (fun fuel cs d ps _ h=>TG fuel cs d ps h) bW t3
  obtain⟨A2,c2,vs,D2,e4,aqI,hC2,hQ2,hb2⟩:=GI qx 24 32 underlying24 EC (fun d y=>kZ y+jv y≤Rows.uptoBulk d∧Rn y) _ (fun fuel cs d ps _ h=>PW _ fuel cs d ps bW h) bW t4
  simp only[List.cons.injEq,and_true]at e0 e1 e2 e3 e4
  subst e0 e1 e2 e3 e4
  obtain⟨a0,b0⟩:=adi w0
  obtain⟨a1,b1⟩:=adi w1
  obtain⟨a2,b2⟩:=aj1 w2
  have l1:=PE fs.length D1
  have s2:=G9 vs D2 (fun i h=>(hQ2 i h).1)
  have m1:∀y∈fs,((0≤y.f0∧y.f0<256)∧Rn y.f1)∧kZ y.f1+jv y.f1≤1048576:=fun y hy=>by
   obtain⟨i,hi,rfl⟩:=List.getElem_of_mem hy
   obtain⟨q1,q2,q3⟩:=hQ1 i hi
   have:=Om fs.length D1 i hi
   exact⟨⟨q1,q2⟩,by omega⟩
  obtain⟨t',rfl⟩:∃t':Nat,t=t':=⟨t.toNat,by omega⟩
  obtain⟨f',rfl⟩:∃f':Nat,f=f':=⟨f.toNat,by omega⟩
  obtain⟨s',rfl⟩:∃s':Nat,s=s':=⟨s.toNat,by omega⟩
  exact⟨t',f',s',A1,A2,c1,c2,fs,vs,rfl,by omega,by omega,by omega,⟨hC1,aqH,by omega⟩,⟨hC2,aqI⟩,fun y hy=>by have:=(m1 y hy).2;omega,by omega,fun y hy=>(m1 y hy).1.1,fun y hy=>(m1 y hy).1.2,TS vs (fun i h=>(hQ2 i h).2)⟩
end
end
end Go.Proofs.YtllcccekodcdmaaGreatDoor.Ms
namespace Go.Proofs.YtllcccekodcdmaaGreatDoor.Ms
open Go Go.RowKit Go.Lib Go.Proofs.YtllcccekodcdmaaGreatDoor.Fl
theorem JG {W:World} {name:String} {k:IntKind} {zs:List Int} {g:Nat} {t e:TypeId} {n:Nat} (hg:prog.globalNamed name=some g) (hty:(prog.globals[g]?).map (·.type)=some t) (ht:prog.underlying t=some (.array n e)) (he:prog.underlying e=some (.int k)) (hce:prog.cellsOf e=1) (hct:prog.cellsOf t=n)
  (h:VarReads prog W name (tabData k zs)):TabIs prog W name k zs:=by
 obtain⟨g',t',cs,fuel,p,hg',ht',hvar,hd⟩:=h
 obtain rfl:=dU (hg.symm.trans hg')
 obtain rfl:=dU (hty.symm.trans ht')
 unfold TabIs
 rw[hvar,←cells_of_tab ht he hce hct hd]
def apW:List Int:=[0,1,56,2,57,49,28,3,61,58,42,50,38,29,17,4,62,47,59,36,45,43,51,22,53,39,33,30,24,18,12,5,63,55,48,27,60,41,37,16,46,35,44,21,52,32,23,11,54,26,40,15,34,20,31,10,25,14,19,9,13,8,7,6]
theorem O7 {W:World} {cs:List Value} {fuel:Nat} {p:List MemPlace} (h:DataW.trod (fun _=>()) prog W 0 (fun _=>true) false fuel 158 cs=some (.iface "io.discard" (.agg []),p)):cs=[.iface 342 (.agg #[])]:=by
 have hall:((List.range prog.types.size).all fun u=>decide (prog.typeName? 3 u=some "io.discard"→u=342))=true:=by kernel_rfl
 cases fuel with
 |zero=>simp[DataW.trod]at h
 |succ n =>
  unfold DataW.trod at h
  rw[underlying158]at h
  split at h<;>first|(rename_i heq;cases heq;done)|skip
  ·cases h
  ·rename_i u v heq
   split at h
   ·rename_i hu;cases hu
   ·rename_i name hn
    obtain⟨x,hx,hy⟩:=Option.map_eq_some_iff.1 h
    injection hy with h1 h2
    injection h1 with h1 h3
    subst h1
    have hu:u=342:=by
     by_cases hlt:u<prog.types.size
     ·have:=List.all_eq_true.1 hall u (by simpa using hlt)
      exact of_decide_eq_true this hn
     ·exfalso
      unfold Program.typeName? at hn
      cases hi:prog.info? u with
      |none=>simp[hi]at hn
      |some i =>
       have hb:=Tables.info?_beyond hlt hi
       simp only[hi]at hn
       cases hd:i.desc<;>simp only[hd,TypeDesc.tableOnly]at hn hb<;>try cases hb
       all_goals try cases hn
       rename_i e
       simp only[Option.map_eq_some_iff]at hn
       obtain⟨n',-,hn'⟩:=hn
       have:=congrArg (fun s=>s.toList.head?) hn'
       simp[String.toList_append]at this
    subst hu
    have hv:v.cells.toList=[]:=by
     obtain⟨d,q⟩:=x
     simp only at h3 hx
     subst h3
     obtain⟨xs,m,-,-,hl,-⟩:=DataW.trod_struct underlying342 hx
     rw[(by kernel_rfl:prog.cellsOf 342=0)]at hl
     exact List.length_eq_zero_iff.1 hl
    cases v<;>simp[Value.cells]at hv ⊢
    subst hv
    rfl
   ·cases h
  all_goals cases h
theorem RD {W:World} (h:VarReads prog W "io.Discard" Rows.laid_io_Discard):W.cell? ⟨2,0,none⟩=some (.iface 342 (.agg #[])):=by
 obtain⟨g',t',cs,fuel,p,hg',ht',hvar,hd⟩:=h
 obtain rfl:=dU ((by kernel_rfl:prog.globalNamed "io.Discard"=some 2).symm.trans hg')
 obtain rfl:=dU ((by kernel_rfl:(prog.globals[2]?).map (·.type)=some 158).symm.trans ht')
 rw[World.var?_cell hg' hvar 0,←qV,O7 hd]
 rfl
theorem YM {W:World} (h:VarReads prog W "internal/strconv.pow10Tab" Pinned.pow10Tab):ou W:=by
 obtain⟨g',t',cs,fuel,p,hg',ht',hvar,hd⟩:=h
 obtain rfl:=dU ((by kernel_rfl:prog.globalNamed "internal/strconv.pow10Tab"=some 18).symm.trans hg')
 obtain rfl:=dU ((by kernel_rfl:(prog.globals[18]?).map (·.type)=some 315).symm.trans ht')
 have hlen:Pinned.pow10Rows.length=696:=by kernel_rfl
 have h30:prog.cellsOf 30=1:=by kernel_rfl
 have alU:prog.cellsOf 314=2:=by kernel_rfl
 intro i hi
 obtain⟨fuel',d,q,hdi,ht⟩:=array_elem underlying315 hd i hi
 rw[List.getElem?_map,gQ (by omega)]at hdi
 cases hdi
 rw[alU]at ht
 have e:=ints_of_struct (zs:=[(Pinned.pow10Rows[i]'(by omega)).1,(Pinned.pow10Rows[i]'(by omega)).2]) underlying314 (fun j f hf=>by
  match j,hf with
  |0,hf=>cases hf;exact⟨underlying30,rfl,h30⟩
  |1,hf=>cases hf;exact⟨underlying30,rfl,h30⟩
  |j+2,hf=>simp at hf) alU ht
 have e0:=congrArg (fun l=>l[0]?) e
 have e1:=congrArg (fun l=>l[1]?) e
 simp[List.getElem?_take,List.getElem?_drop]at e0 e1
 have g:Pinned.pow10Rows.getD i (0,0)=Pinned.pow10Rows[i]'(by omega):=by simp[wC,gQ (show i<Pinned.pow10Rows.length by omega)]
 unfold oJ oK
 rw[g,World.var?_cell hg' hvar,World.var?_cell hg' hvar,←qV,←qV]
 exact⟨by simpa using e0,by simpa using e1⟩
theorem tables {W:World} (h:laidMet prog Rows.fnMsTextUptoRow.laid W):l7 W∧W.cell? ⟨2,0,none⟩=some (.iface 342 (.agg #[])):=by
 have R:∀(i:Nat) (n:String) (d:DataW Unit),Rows.fnMsTextUptoRow.laid[i]?=some (n,d)→VarReads prog W n d:=fun i n d e=>laidMet.reads h (List.mem_of_getElem? e)
 have c5:prog.cellsOf 5=1:=by kernel_rfl
 have pow:=YM (R 10 _ _ rfl)
 have t64:TabIs prog W "math/bits.deBruijn64tab" .u8 apW:=JG (g:=12) (by kernel_rfl) (by kernel_rfl) underlying291 underlying5 c5 (by kernel_rfl) (R 1 _ _ rfl)
 have t10:TabIs prog W "internal/strconv.uint64pow10" .u64 pow10Tab:=JG (g:=6) (by kernel_rfl) (by kernel_rfl) underlying226 underlying30 (by kernel_rfl) (by kernel_rfl)
  ((by kernel_rfl:(Rows.laid_internal_strconv_uint64pow10:DataW Unit)=tabData .u64 pow10Tab)▸R 3 _ _ rfl)
 refine⟨⟨⟨pow,t10,?_⟩,?_,?_,?_⟩,RD (R 6 _ _ rfl)⟩
 ·exact fA W _ (pow 0 (by omega)).1
 ·exact t64.cell (by kernel_rfl) 15 (by decide)
 ·exact printTabs_of_reads afV ⟨by kernel_rfl,by kernel_rfl,by kernel_rfl,by kernel_rfl,by kernel_rfl,by kernel_rfl,by kernel_rfl,by kernel_rfl,by kernel_rfl,by kernel_rfl⟩
   (Pinned.isPrint16_eq▸R 14 _ _ rfl) (Pinned.isNotPrint16_eq▸R 12 _ _ rfl) (Pinned.isPrint32_eq▸R 15 _ _ rfl) (Pinned.isNotPrint32_eq▸R 13 _ _ rfl)
 ·exact utf8Tabs_of_readsT (U8Types.of196 Py) ⟨by kernel_rfl,by kernel_rfl,by kernel_rfl,by kernel_rfl,by kernel_rfl,by kernel_rfl,by kernel_rfl⟩
   (Pinned.utf8First_eq▸R 16 _ _ rfl) ((by kernel_rfl:(Rows.laid_unicode_utf8_acceptRanges:DataW Unit)=acceptData)▸R 4 _ _ rfl)
end Go.Proofs.YtllcccekodcdmaaGreatDoor.Ms
namespace Go.Proofs.YtllcccekodcdmaaGreatDoor
open Go Go.ChangeShapes Go.WideShapes Go.ChangeAt Go.RowKit Ms
theorem own:ownKnob prog.godebug=none:=by kernel_rfl
theorem kids:Kids prog (·<prog.types.size):=kids_rows (by kernel_rfl) (by kernel_rfl)
theorem full:∀t e,t<prog.types.size→prog.underlying t=some (.slice e)→0<prog.cellsOf e:=slices_full_of prog (by kernel_rfl)
def yu:Value:=.agg #[.int .u8 0,.int .u8 0,.int .u32 0,.slice none 0 0,.slice none 0 0]
theorem ab4 (os:Os):laidMetH prog Rows.fnMsTextUptoRow.laid ((World.laidAll prog os Rows.fnMsTextUptoRow.laid).forCall (fun _ _=>0) ⟨#[],#[yu],[]⟩).memory:=by
 rw[MakeChecks.laidMetH_plain _ _ _ (by kernel_rfl)]
 exact laidMet_laidAll _ (by kernel_rfl) (by kernel_rfl)
theorem reads (os:Os) {H:Type} (enc:TypeId×Value→H):∃places,DataW.whole enc prog ((World.laidAll prog os Rows.fnMsTextUptoRow.laid).forCall (fun _ _=>0) ⟨#[],#[yu],[]⟩).memory f3.params.toList Rows.fnMsTextSpec.vars false #[yu].toList 8=some ([.agg [.lit (.int .u8 0),.lit (.int .u8 0),.lit (.int .u32 0),.nil,.nil]],[],places) :=
 ⟨[],by kernel_rfl⟩
theorem aef {H:Type} {enc:TypeId×Value→H} {P:Program} {W W':World} {base:Nat} {sp:Nat→Bool} {hd:Bool} {t:TypeId} {v:Value} {d:DataW H} {ps:List MemPlace}
  (hB:Below W.heap.size W W') (h:DataW.Trod enc P W base sp hd t v d ps):DataW.Trod enc P W' base sp hd t v d ps:=by
 obtain⟨n,hn⟩:=h
 exact⟨n,DataW.trod_carry n _ _ _ hn (fun p hp=>hB.same (DataW.trod_lt n _ _ _ hn p hp))⟩
theorem aaD (H:Type) (enc:TypeId×Value→H) (W:World) (base:Nat) (args:Array Value) (ds gs:List (DataW H)) (before:List MemPlace)
  (hval:∀(j:Nat) t v,f3.params[j]?=some t→args[j]?=some v→Value.okWide prog W .any base t v)
  (hW:DataW.Whole enc prog f3.params.toList Rows.fnMsTextSpec.vars false W args.toList ds gs before) (hk:Rows.uptoSmall H (ds++gs)=true) (hL:laidMetH prog Rows.fnMsTextUptoRow.laid W) :
  Calls prog 3 args W fun e W'=>∃v,e=.returned v∧Rows.fnMsTextSpec.post enc prog f3 false true false false W args v W':=by
 have hW':=hW
 obtain⟨p,q,hA0,hV,rfl,hfz,hnd⟩:=hW
 have hA:DataW.TrodAll enc prog W 0 (fun _=>true) true f3.params.toList args.toList ds p:=hA0
 rw[params3]at hA hval
 obtain⟨v0,d0,rfl,rfl,h0⟩:=trodAll_one hA
 obtain⟨rfl,rfl⟩:=trodVars_none hV
 obtain⟨cs,rfl,hsz⟩:=okWide_struct underlying26 (hval 0 26 v0 rfl rfl)
 have alY:Rows.uptoBulk d0≤1048576:=by
  have h:Rows.uptoBulkAll ([d0]++[])≤1048576:=of_decide_eq_true hk
  simp only[List.append_nil,Rows.uptoBulkAll]at h
  omega
 have h1:=h0
 obtain⟨fuel,h1⟩:=h1
 obtain⟨t,f,s,A1,A2,c1,c2,fs,vs,hcs,ht,hf,hs,⟨hC1,hc1,hl⟩,⟨hC2,hc2⟩,hb1,hb2,hcd,hr,hv⟩:=acD alY (show DataW.trod enc prog W 0 (fun _=>true) true fuel 26 cs.toList=some (d0,p)from h1)
 obtain⟨l⟩:=cs
 simp only at hcs
 subst hcs
 have hlm:laidMet prog Rows.fnMsTextUptoRow.laid W:=by rwa [MakeChecks.laidMetH_plain _ _ _ (by kernel_rfl)]at hL
 obtain⟨pt,hg⟩:=tables hlm
 refine(OJ t f s ht hf hs fs vs A1 A2 c1 c2 W hC1 hc1 hl hC2 hc2 hb1 hb2 hcd hr hv hg pt).mono fun e W' ⟨he,hb⟩=>?_
 subst he
 exact⟨_,rfl,_,_,_,[],_,[],hW',trodAll_mk1 (shut_bool underlying4 _),
  trodAll_mk1 (aef hb (DataW.Trod.respare kids full (by decide +kernel) h0 (fun x hx=>by simpa using hW'.lt x (by simpa using hx)))),rfl,hb.frame _,fun h=>by cases h⟩
theorem Tm (os:Os) (started:os.Started) (H:Type) (enc:TypeId×Value→H) (F:Stop.Interp) :
  ReturnsInHanded {} checked os 3 .any ((Rows.OpenSpec.upto Rows.fnMsTextSpec).preRow enc prog f3 Rows.fnMsTextUptoRow.domain false Rows.fnMsTextUptoRow.laid) (((Rows.OpenSpec.upto Rows.fnMsTextSpec).at F).post enc prog f3 false true false false):=by
 obtain⟨places,hx⟩:=reads os enc
 have hok:Input.okWideB checked.prog ((World.laidAll prog os Rows.fnMsTextUptoRow.laid).forCall (fun _ _=>0) ⟨#[],#[yu],[]⟩) 3 ⟨#[],#[yu],[]⟩=true:=by kernel_rfl
 refine returnsInHanded_of_row (C:=checked) (s:=Rows.OpenSpec.upto Rows.fnMsTextSpec) own started (by kernel_rfl) func3
  ⟨World.laidAll prog os Rows.fnMsTextUptoRow.laid,fun _ _=>0,⟨#[],#[yu],[]⟩,World.laidAll_os _ _ _,World.shaped_of_ZipB (by kernel_rfl) (by kernel_rfl),(Input.okWide_of_okWideB (base:=0) hok).1,(Input.okWide_of_okWideB hok).2,
    OpenSpec.preRow_of_cond 8 hx (by kernel_rfl) (fun k hk=>by cases hk;kernel_rfl) (by kernel_rfl) (ab4 os),by
    simp only[Assume.holds]
    exact⟨by simp,by simp,fun _=>Modest.zero,by simp,by simp⟩⟩ ?_
 intro W base args ds gs before hval hW _ hcond _ hL _ _
 exact aaD H enc W base args ds gs before hval hW (hcond _ rfl) hL
theorem amu:Tryz.pinned.checked.prog.funcNamed Rows.fnMsTextUptoRow.func=some 3:=by kernel_rfl
theorem agf:joinedFacts Tryz.pinned.checked.prog 3 f3 (Rows.OpenSpec.upto Rows.fnMsTextSpec).bare Rows.fnMsTextUptoRow=true:=by kernel_rfl
theorem amv:Func.isInstance Tryz.pinned.checked.prog f3 Rows.fnMsTextUptoRow.origin Rows.fnMsTextUptoRow.targs:=of_decide_eq_true (by kernel_rfl)
theorem amw:Func.isWrapper Tryz.pinned.checked.prog f3 Rows.fnMsTextUptoRow.wrapper Rows.fnMsTextUptoRow.mainSum:=by
 unfold Func.isWrapper
 first|(rw[if_pos (by decide +kernel)];kernel_rfl)|(rw[if_neg (by decide +kernel)];exact⟨rfl,rfl⟩)
theorem acO:Rows.FnMsTextUptoSaid :=
 OpenClaim.holds_of_cond 3 f3 rfl rfl rfl rfl rfl rfl rfl ⟨rfl,rfl,rfl,rfl,rfl⟩ rfl rfl rfl rfl rfl amu func3 agf amv amw
  (fun os started H enc _ F=>by rw[OpenClaim.pre_eq_preRow];exact Tm os started H enc F)
theorem plain (f:FuncId) (fn:Func) (hf:Tryz.pinned.checked.prog.funcNamed "pub-barouche/laws.FnMsText"=some f) (hfn:Tryz.pinned.checked.prog.funcs[f]?=some fn) :
  true=Tryz.pinned.checked.prog.looks []∧∀(j:Nat) t,fn.params[j]?=some t→Tryz.pinned.checked.prog.wantsStandIn t=false:=by
 obtain rfl:f=3:=dU ((show prog.funcNamed "pub-barouche/laws.FnMsText"=some 3 by kernel_rfl).symm.trans hf) |>.symm
 obtain rfl:fn=f3:=(dU (func3.symm.trans hfn)).symm
 refine⟨by kernel_rfl,fun j t ht=>?_⟩
 rw[params3]at ht
 obtain rfl:t=26:=by simpa using Array.mem_of_getElem? ht
 exact(show prog.wantsStandIn 26=false by kernel_rfl)
theorem fnMsText_card:Rows.FnMsTextUptoCardSaid :=
 Claim7.holds_tied_plain_at .later [] _ _ _ _ acO (fun _ h=>by cases h) (by kernel_rfl) (fun _ h=>by cases h) fnMsTextUpto_row_tie rfl ⟨rfl,rfl⟩ (by kernel_rfl) rfl plain (by kernel_rfl)
#print axioms fnMsText_card
end Go.Proofs.YtllcccekodcdmaaGreatDoor
