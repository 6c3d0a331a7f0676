import Derived.Test.YtllcccekodcdmaaGreatDoorC10
set_option linter.unusedVariables false
set_option linter.unusedSimpArgs false
set_option maxRecDepth 100000
set_option maxHeartbeats 32000000
open Go.Proofs.Tryz
namespace Go.Proofs.YtllcccekodcdmaaGreatDoor.bK
open Go.Proofs.YtllcccekodcdmaaGreatDoor.Xs Go.RowKit Go.Proofs.ak.aT Go.Proofs.ak.cO Go.Proofs.ak.lQ
section
attribute [local go_sem] mW qc
def bJ.l0:Nat→List (l9)→List (dS)→Int→Int→Option ((List (l9)))
 |0,_,_,_,_=>none
 |k+1,x3,x6,x7,x8=>if x8<x7 then(if 0≤x8 then(if x8<(x6.length:Int)then((aZ.f k ((aA x6 x8).f0) ((aA x6 x8).f1) ((aA x6 x8).f2) ((aA x6 x8).f3)).bind fun UJ=>(if x3.length<2513169434916 then(bJ.l0 k (x3++[(⟨UJ.1,UJ.2.1,UJ.2.2.1,UJ.2.2.2⟩:l9)]) x6 x7 (wrap64 (x8+1)))else(none)))else(none))else(none))else(some x3)
def bJ.f (k:Nat) (l0:List (dS)):Option ((List (l9))):=bJ.l0 k ([]:List (l9)) l0 (l0.length:Int) 0
theorem bJ.dZ:∀k,(∀y0 y1 y2 y3,fE (bJ.l0 k y0 y1 y2 y3) (bJ.l0 (k+1) y0 y1 y2 y3))
 |0=>fun _ _ _ _ r h=>by simp[bJ.l0]at h
 |k+1=>by
  have pO:=bJ.dZ k
  ·intro y0 y1 y2 y3
   unfold bJ.l0
   repeat' first
   |(with_reducible exact pO _ _ _ _)
   |(with_reducible exact aZ.mono _ _ _ _ _)
   |(with_reducible exact fE.refl _)
   |(with_reducible exact fE.none _)
   |(with_reducible refine fE.ite ?_ ?_)
   |(with_reducible refine fE.bind ?_ (fun _=>?_))
   |exact pO _ _ _ _
   |exact aZ.mono _ _ _ _ _
   |exact fE.none _
   |refine fE.ite ?_ ?_
   |refine fE.bind ?_ (fun _=>?_)
theorem bJ.mono:∀a0 k,fE (bJ.f k a0) (bJ.f (k+1) a0):=by
 intro a0 k
 have pO:=bJ.dZ k
 unfold bJ.f
 repeat' first
  |(with_reducible exact pO _ _ _ _)
  |(with_reducible exact aZ.mono _ _ _ _ _)
  |(with_reducible exact fE.refl _)
  |(with_reducible exact fE.none _)
  |(with_reducible refine fE.ite ?_ ?_)
  |(with_reducible refine fE.bind ?_ (fun _=>?_))
  |exact pO _ _ _ _
  |exact aZ.mono _ _ _ _ _
  |exact fE.none _
  |refine fE.ite ?_ ?_
  |refine fE.bind ?_ (fun _=>?_)
theorem bJ.calls (k:Nat) (A0:Option Addr) (c0:Nat) (l0:List (dS)) (r:List (l9)) (w:World) (hr0:Kd.C qx w A0 l0.length l0) (hc0:l0.length≤c0) (h:bJ.f k l0=some r) :
  Calls prog 36 #[.slice A0 l0.length c0] w fun e w'=>∃v0_:Value,e=.returned (v0_)∧Kd.R ug 53 w' w.heap.size (fun _=>True) v0_ r∧Below w.heap.size w w':=by
 have OZ:=underlying32
 have HR0:=aj.mk hr0
 have HC0:=aj.mk hc0
 clear hr0 hc0
 have HB:=aj.mk (jM w)
 have H:(bJ.l0 k ([]:List (l9)) l0 (l0.length:Int) 0)=some r:=h
 clear h
 have H':=aj.mk H
 clear H
 go_enter func36,ntmps36
 go_wp2
 go_loopg [3,8] k (fun kq v3 v8 w'=>∃(jr:List (l9)) (b_:Int),v8=.int .i64 b_∧aj (bJ.l0 kq jr l0 (l0.length:Int) b_=some r)∧aj (kq≤k)∧aj (Kd.R ug 53 w' w.heap.size (fun _=>True) v3 jr)∧aj (Below w.heap.size w w'))
 case atStart=>exact⟨(([]:List (l9))),(0),rf,H',⟨bW⟩,⟨kn⟩,⟨ab⟩⟩
 case round =>
  clear H'
  obtain⟨jr,b_,rfl,HA,pX,J3,HB⟩:=hrel
  cases gk with
  |zero=>exact absurd HA.o (by simp[bJ.l0])
  |succ k1 =>
   have H:=HA.o
   clear HA
   simp only[bJ.l0]at H
   replace H:=di H;obtain⟨Eh,H⟩|⟨Eh,H⟩:=H
   ·replace H:=dn H;obtain⟨yU,-,H⟩:=H
    replace H:=dn H;obtain⟨u_,-,H⟩:=H
    replace H:=Option.bind_eq_some_iff.mp H
    obtain⟨⟨Y_,Za,Zb,Zc⟩,A50,H⟩:=H
    replace H:(if jr.length<2513169434916 then(bJ.l0 k1 (jr++[(⟨Y_,Za,Zb,Zc⟩:l9)]) l0 (l0.length:Int) (wrap64 (b_+1)))else(none))=some r:=H
    have A5:=aj.mk A50
    clear A50
    by_cases c6:jr.length<2513169434916
    ·rw[if_pos c6]at H
     have apN:=aj.mk c6
     clear c6
     obtain⟨amT,O4⟩:∃y_:List (l9),y_=(jr++[(⟨Y_,Za,Zb,Zc⟩:l9)]):=⟨_,rfl⟩
     replace H:(bJ.l0 k1 amT l0 (l0.length:Int) (wrap64 (b_+1)))=some r:=by first|(rw[O4];with_reducible exact H)|(have EU:=(Option.bind_some _ _).symm.trans H;rw[O4];with_reducible exact EU)|(have EU:=(Option.bind_some _ _).symm.trans H;with_reducible exact EU)|with_reducible exact H|(rw[O4];exact H)|exact H
     have akM:=aj.mk O4
     clear O4
     have H':=aj.mk H
     clear H
     have ajn:0≤(b_:Int):=od
     have ajC:b_<(l0.length:Int):=od
     obtain⟨arS,EO,Fz,ap7,Wy,WA,WE,WG,VP,VK⟩:=mD HR0.o b_ ajn ajC
     cases ap7
     replace Wy:=up HB.o Wy
     replace WA:=up HB.o WA
     replace WE:=up HB.o WE
     replace WG:=up HB.o WG
     have ad6:=aj.mk VK
     have adU:=aj.mk VP
     clear VK VP
     replace ajn:=eq_true ajn
     replace ajC:=eq_true ajC
     go_wp2_with (first|((with_reducible refine gI (N:=5) rfl ?_);refine NS (N:=5) (cs:=#[.int .u8 0,.int .u64 0,.string (⟨#[]⟩:bG),.slice none 0 0]) (t:=32) ?_;intro qE hg w7 hbox hb;have J3:=aj.mk (Kd.uX (kr J3.o) hb);have HB:=aj.mk (bT ab hb);have rQ:=aj.mk (hbox);have arI:aj (w.heap.size≤qE):=sz hg;have arp:aj (w.heap.size≤qE):=sz hg;clear hb hbox hg;have aby:w7.cell? ⟨qE,0,none⟩=some (.int .u8 0):=(aC rQ.o 0).trans rfl;have abz:w7.cell? ⟨qE,1,none⟩=some (.int .u64 0):=(aC rQ.o 1).trans rfl;have abA:w7.cell? ⟨qE,2,none⟩=some (.string (⟨#[]⟩:bG)):=(aC rQ.o 2).trans rfl;have abB:w7.cell? ⟨qE,3,none⟩=some (.slice none 0 0):=(aC rQ.o 3).trans rfl;have abG:=aK rQ.o 0;have abH:=aK rQ.o 1;have abI:=aK rQ.o 2;have abJ:=aK rQ.o 3)|((with_reducible refine dG (f:=19) rfl ?_);refine iU (some 14) rfl rfl func19 (by kernel_rfl) rfl #[.agg #[.int .u8 ((aA l0 b_).f0),.int .u64 ((aA l0 b_).f1),.string ((aA l0 b_).f2),.slice EO ((aA l0 b_).f3).length Fz]] rfl mt ?_;(with_reducible refine(aZ.calls k1 ((aA l0 b_).f0) ((aA l0 b_).f1) ((aA l0 b_).f2) _ _ ((aA l0 b_).f3) Y_ Za Zb Zc _ ?jK ?jL A5.o).mono ?_);(case jK=>exact Kd.bQ ad6.o ab);(case jL=>exact adU.o);rintro e w9 ⟨auT,rfl,ho0,hb⟩;refine⟨_,rfl,?_⟩;have ML:=aj.mk (Kd.zG (by(with_reducible repeat (first|apply Kd.kL|apply Kd.jU|apply Kd.kM));exact(Kd.gX (Kd.fZ (p:=⟨qE,3,none⟩) (Kd.fZ (p:=⟨qE,2,none⟩) (Kd.fZ (p:=⟨qE,1,none⟩) (Kd.fZ (p:=⟨qE,0,none⟩) (Kd.pY J3.o rQ.o (by decide)) (fun _ hk=>hk.2) (.int .u8 ((aA l0 b_).f0))) (fun _ hk=>hk.2) (.int .u64 ((aA l0 b_).f1))) (fun _ hk=>hk.2) (.string ((aA l0 b_).f2))) (fun _ hk=>hk.2) (.slice EO ((aA l0 b_).f3).length Fz)) (fun _ h_=>h_.1))) (Kd.E5 ho0) hb);have MN:=aj.mk (Kd.qF (Kd.QO ho0 (Kd.aec (by(with_reducible repeat (first|apply Kd.kL|apply Kd.jU|apply Kd.kM));exact(Kd.gX (Kd.fZ (p:=⟨qE,3,none⟩) (Kd.fZ (p:=⟨qE,2,none⟩) (Kd.fZ (p:=⟨qE,1,none⟩) (Kd.fZ (p:=⟨qE,0,none⟩) (Kd.pY J3.o rQ.o (by decide)) (fun _ hk=>hk.2) (.int .u8 ((aA l0 b_).f0))) (fun _ hk=>hk.2) (.int .u64 ((aA l0 b_).f1))) (fun _ hk=>hk.2) (.string ((aA l0 b_).f2))) (fun _ hk=>hk.2) (.slice EO ((aA l0 b_).f3).length Fz)) (fun _ h_=>h_.1))))) (iF ab));have MO:=aj.mk (bM (g:=qE) (o:=.cells #[.int .u8 ((aA l0 b_).f0),.int .u64 ((aA l0 b_).f1),.string ((aA l0 b_).f2),.slice EO ((aA l0 b_).f3).length Fz] 32 (0,0)) bz hb);have MP:=aj.mk (bT ab hb);clear J3;clear rQ;clear HB;have J3:=ML;have agM:=MN;have rQ:=MO;have HB:=MP;clear ML MN MO MP;obtain⟨apt,apT,aqa⟩:=Kd.oz agM.o;subst aqa)|((with_reducible refine jH (b:=.append) (xs:=#[.tmp 12,.tmp 15]) rfl ?_);at_builtin;refine Kd.zF ug (w0:=w) w.heap.size rfl (.tmp 12) (.tmp 15) 51 53 (.agg #[(.int .u8 0),(.int .u64 0),(.string ⟨#[]⟩),(.slice none 0 0)]) 56 rfl underlying51 abR rfl (by decide) (by omega) u3 jr (⟨Y_,Za,Zb,Zc⟩:l9) [.int .u8 Y_,.int .u64 Za,.string Zb,.slice apt Zc.length apT] (fun _=>True) (fun k_=>((fun _=>True)) k_∧some k_≠(u3:Value).ownBlock) rfl rfl ?aP (fun _ hk=>hk) ?aF ?aO ?aB ?aS ?aL ?_;(case aP=>exact Me _ _ _ (⟨Y_,Za,Zb,Zc⟩:l9) (Kd.gX (agM.o) (fun k_ hk=>⟨trivial,hk.2⟩)));(case aB=>exact ab);(case aF=>exact(fun _ _=>trivial));(case aO=>exact(by(with_reducible repeat (first|apply Kd.kL|apply Kd.jU|apply Kd.kM));exact Kd.gX J3.o (fun _ hk=>trivial)));(case aS=>exact(iF ab));(case aL=>have:=apN.o;omega);intro auU w10 ho hb hg hat;rw[←akM.o]at ho;have rQ:=aj.mk (lS (g:=qE) (o:=.cells #[.int .u8 ((aA l0 b_).f0),.int .u64 ((aA l0 b_).f1),.string ((aA l0 b_).f2),.slice EO ((aA l0 b_).f3).length Fz] 32 (0,0)) bk hg (Kd.QN J3.o rQ.o (by decide)));have HB:=aj.mk (hb);have akB:=aj.mk (ho);clear ho hb hg hat))
     go_roundg k1
     case measure=>have:=pX.o;omega
     case rel=>exact⟨(amT),(wrap64 (b_+1)),rf,H',⟨by have:=pX.o;omega⟩,⟨kr akB.o⟩,⟨ab⟩⟩
    ·rw[if_neg c6]at H
     exact absurd H (by simp)
   ·obtain rfl:=dU H
    go_wp2
    go_ret
    exact⟨_,re,kr J3.o,ab⟩
def dB.l0:Nat→List (jB)→Int→Int→Int→Int→Int→List (BP)→List (l9)→Option (Int×Int×Int×(List (BP))×(List (l9)))
 |0,_,_,_,_,_,_,_,_=>none
 |k+1,x17,x18,x19,Xw,Xx,Xy,NQ,Xz=>if x19<x18 then(if 0≤x19 then(if x19<(x17.length:Int)then((aZ.f k ((bC x17 x19).f1.f0) ((bC x17 x19).f1.f1) ((bC x17 x19).f1.f2) ((bC x17 x19).f1.f3)).bind fun UK=>(if NQ.length<2199023255552 then(dB.l0 k x17 x18 (wrap64 (x19+1)) Xw Xx Xy (NQ++[(⟨(bC x17 x19).f0,(⟨UK.1,UK.2.1,UK.2.2.1,UK.2.2.2⟩:l9)⟩:BP)]) Xz)else(none)))else(none))else(none))else(some (Xw,Xx,Xy,NQ,Xz))
def dB.f (k:Nat) (aY:Int) (bF:Int) (bn:Int) (aG:List (jB)) (lC:List (dS)):Option (Int×Int×Int×(List (BP))×(List (l9))):=(bJ.f k lC).bind fun lU=>(dB.l0 k aG (aG.length:Int) 0 aY bF bn ([]:List (BP)) lU)
theorem dB.dZ:∀k,(∀y0 y1 y2 y3 y4 y5 y6 y7,fE (dB.l0 k y0 y1 y2 y3 y4 y5 y6 y7) (dB.l0 (k+1) y0 y1 y2 y3 y4 y5 y6 y7))
 |0=>fun _ _ _ _ _ _ _ _ r h=>by simp[dB.l0]at h
 |k+1=>by
  have pO:=dB.dZ k
  ·intro y0 y1 y2 y3 y4 y5 y6 y7
   unfold dB.l0
   repeat' first
   |(with_reducible exact pO _ _ _ _ _ _ _ _)
   |(with_reducible exact aZ.mono _ _ _ _ _)
   |(with_reducible exact bJ.mono _ _)
   |(with_reducible exact fE.refl _)
   |(with_reducible exact fE.none _)
   |(with_reducible refine fE.ite ?_ ?_)
   |(with_reducible refine fE.bind ?_ (fun _=>?_))
   |exact pO _ _ _ _ _ _ _ _
   |exact aZ.mono _ _ _ _ _
   |exact bJ.mono _ _
   |exact fE.none _
   |refine fE.ite ?_ ?_
   |refine fE.bind ?_ (fun _=>?_)
theorem dB.calls (k:Nat) (aY:Int) (bF:Int) (bn:Int) (eH:Option Addr) (dI:Nat) (aG:List (jB)) (oP:Option Addr) (oV:Nat) (lC:List (dS)) (r1:Int) (r2:Int) (r3:Int) (r4:List (BP)) (r5:List (l9)) (w:World) (mV:Kd.C wG w eH aG.length aG) (mQ:aG.length≤dI) (ahc:Kd.C qx w oP lC.length lC) (aha:lC.length≤oV) (h:dB.f k aY bF bn aG lC=some (r1,r2,r3,r4,r5)) :
  Calls prog 21 #[.agg #[.int .u8 aY,.int .u8 bF,.int .u32 bn,.slice eH aG.length dI,.slice oP lC.length oV]] w fun e w'=>∃v3_ v4_:Value,e=.returned (.agg #[.int .u8 r1,.int .u8 r2,.int .u32 r3,v3_,v4_])∧Kd.R k78 78 w' w.heap.size (fun k_=>some k_≠(v4_:Value).ownBlock) v3_ r4∧Kd.R ug 53 w' w.heap.size (fun _=>True) v4_ r5∧Below w.heap.size w w':=by
 have at1:=underlying26
 have aua:=underlying58
 have at6:=underlying38
 have OZ:=underlying32
 have aub:=underlying78
 have qh:=aj.mk mV
 have IG:=aj.mk mQ
 clear mV mQ
 have agP:=aj.mk ahc
 have agI:=aj.mk aha
 clear ahc aha
 have HB:=aj.mk (jM w)
 have H:((bJ.f k lC).bind fun lU=>(dB.l0 k aG (aG.length:Int) 0 aY bF bn ([]:List (BP)) lU))=some (r1,r2,r3,r4,r5):=h
 clear h
 replace H:=Option.bind_eq_some_iff.mp H
 obtain⟨lU,A20,H⟩:=H
 replace H:(dB.l0 k aG (aG.length:Int) 0 aY bF bn ([]:List (BP)) lU)=some (r1,r2,r3,r4,r5):=H
 have A2:=aj.mk A20
 clear A20
 have H':=aj.mk H
 clear H
 go_enter func21,ntmps21
 try go_wp2_with (first|((with_reducible refine gI (N:=1) rfl ?_);refine NS (N:=1) (cs:=#[.int .u8 aY,.int .u8 bF,.int .u32 bn,.slice eH aG.length dI,.slice oP lC.length oV]) (t:=26) ?_;intro fF hg w3 hbox hb;have HB:=aj.mk (bT ab hb);have fO:=aj.mk (hbox);have arJ:aj (w.heap.size≤fF):=sz hg;have arq:aj (w.heap.size≤fF):=sz hg;clear hb hbox hg)|((with_reducible refine gI (N:=2) rfl ?_);refine NS (N:=2) (cs:=#[.int .u8 0,.int .u8 0,.int .u32 0,.slice none 0 0,.slice none 0 0]) (t:=58) ?_;intro gB hg w4 hbox hb;have fO:=aj.mk (bM (g:=fF) (o:=.cells #[.int .u8 aY,.int .u8 bF,.int .u32 bn,.slice eH aG.length dI,.slice oP lC.length oV] 26 (0,0)) bk hb);have HB:=aj.mk (bT ab hb);have lW:=aj.mk (hbox);have arK:aj (w.heap.size≤gB):=sz hg;have ars:aj (w.heap.size≤gB):=sz hg;have IW:=aj.mk ((by rw[hg];exact Nat.ne_of_lt (eP (g:=fF) (o:=.cells #[.int .u8 aY,.int .u8 bF,.int .u32 bn,.slice eH aG.length dI,.slice oP lC.length oV] 26 (0,0)) bk):fF≠gB));have IZ:=aj.mk ((by rw[hg];exact Nat.ne_of_gt (eP (g:=fF) (o:=.cells #[.int .u8 aY,.int .u8 bF,.int .u32 bn,.slice eH aG.length dI,.slice oP lC.length oV] 26 (0,0)) bk):gB≠fF));clear hb hbox hg))
 have fO:=aj.mk (jk fO.o)
 have lW:=aj.mk (jk lW.o)
 have HB:=aj.mk (nK HB.o)
 refine G8 (n:=12) (S:=fun w'=>w'.cell? ⟨fF,0,none⟩=some (.int .u8 aY)∧w'.cell? ⟨fF,1,none⟩=some (.int .u8 bF)∧w'.cell? ⟨fF,2,none⟩=some (.int .u32 bn)∧w'.cell? ⟨fF,3,none⟩=some (.slice eH aG.length dI)∧w'.cell? ⟨fF,4,none⟩=some (.slice oP lC.length oV)) (ds:=[]) #[false,false,false,false,false,false,false,false,false,false,false,false] (by kernel_rfl) rfl rfl ⟨(aC fO.o 0).trans rfl,(aC fO.o 1).trans rfl,(aC fO.o 2).trans rfl,(aC fO.o 3).trans rfl,(aC fO.o 4).trans rfl⟩ (fun hHeld=>?_)
 generalize w4.drew=w5 at fO lW HB hHeld ⊢
 refine pk 0 ?_
 refine pk 2 ?_
 refine pk 4 ?_
 refine pk 6 ?_
 refine tk 1 ?_
 refine tk 3 ?_
 refine tk 5 ?_
 refine tk 7 ?_
 refine amj (σ:=Value×Nat) 1 #[true,true,true,true,true,true,true,true,true,true,true,false] (fun s_=>[(14,s_.1),(3,.pointer (some ⟨s_.2,0,none⟩)),(15,.agg #[.int .u8 aY,.int .u8 bF,.int .u32 bn,.slice none 0 0,s_.1])]) (fun s_ w'=>(w'.cell? ⟨fF,0,none⟩=some (.int .u8 aY)∧w'.cell? ⟨fF,1,none⟩=some (.int .u8 bF)∧w'.cell? ⟨fF,2,none⟩=some (.int .u32 bn)∧w'.cell? ⟨fF,3,none⟩=some (.slice eH aG.length dI)∧w'.cell? ⟨fF,4,none⟩=some (.slice oP lC.length oV))∧(Kd.R ug 53 w' w.heap.size (fun _=>True) s_.1 lU)∧(w'.heap[fF]?=some (.cells #[.int .u8 aY,.int .u8 bF,.int .u32 bn,.slice eH aG.length dI,.slice oP lC.length oV] 26 (0,0)))∧(w'.heap[gB]?=some (.cells #[.int .u8 0,.int .u8 0,.int .u32 0,.slice none 0 0,.slice none 0 0] 58 (0,0)))∧(w'.heap[s_.2]?=some (.cells #[.int .u8 0,.int .u8 0,.int .u32 0,.slice none 0 0,.slice none 0 0] 58 (0,0)))∧(w.heap.size≤s_.2)∧(w.heap.size≤s_.2)∧(fF≠s_.2)∧(s_.2≠fF)∧(gB≠s_.2)∧(s_.2≠gB)∧(Below w.heap.size w w')) ?_ ?_
 rotate_left
 ·intro ag8
  refine aq5 (i:=8) (j:=10) (Ni:=some 14) (Nj:=some 3) #[true,true,true,true,true,true,true,true,true,false,false,false] #[true,true,true,true,true,true,true,true,false,false,true,false] rfl rfl rfl rfl (by kernel_rfl) (by decide) (by decide) (fun K hK=>?_) (fun K hK=>?_)
  ·skip
   refine DZ func36 (by kernel_rfl) rfl #[.slice oP lC.length oV] (by rfl) rfl rfl mt ?_
   with_reducible refine(bJ.calls k _ _ lC lU _ ?jK ?jL A2.o).mono ?_
   (case jK=>repeat (first|exact(Kd.bQ agP.o HB.o)|(with_reducible refine Kd.jE ?_ _)|(with_reducible refine Kd.kY ?_ _)|(with_reducible refine Kd.n_ ?_)))
   (case jL=>exact agI.o)
   rintro e w6 ⟨aj9,rfl,ho0,hb⟩
   refine⟨_,rfl,?_⟩
   have yD:=aj.mk (Kd.qF ho0 (iF ab))
   have fO:=aj.mk (bM (g:=fF) (o:=.cells #[.int .u8 aY,.int .u8 bF,.int .u32 bn,.slice eH aG.length dI,.slice oP lC.length oV] 26 (0,0)) bk hb)
   have lW:=aj.mk (bM (g:=gB) (o:=.cells #[.int .u8 0,.int .u8 0,.int .u32 0,.slice none 0 0,.slice none 0 0] 58 (0,0)) bk hb)
   have HB:=aj.mk (bT ab hb)
   obtain⟨Ao7,co7,eo7⟩:=Kd.oz yD.o
   (first|subst eo7|(injection eo7 with Jf Yb Jg;have Yc:=Jf.symm;have Yd:=Jg.symm;clear Jf Yb Jg;subst Yc;subst Yd))
   refine hK.o _ _ ⟨(aC fO.o 0).trans rfl,(aC fO.o 1).trans rfl,(aC fO.o 2).trans rfl,(aC fO.o 3).trans rfl,(aC fO.o 4).trans rfl⟩ (fun hHeld=>?_)
   clear hK K
   refine qm (a':=?_) ?_ ?_
   rotate_left
   ·show Act.put _ (some 14) _=_
    simp only[Act.put,List.setIfInBounds_toArray,List.set_cons_zero,List.set_cons_succ,gZ,iK]
    rfl
   refine pk 9 ?_
   refine on 10 fun K hK=>?_
   refine Ol ?hg (N:=3) ?hd (cs:=#[.int .u8 0,.int .u8 0,.int .u32 0,.slice none 0 0,.slice none 0 0]) (t:=58) ?hr ?_;(case hd=>rfl);(case hg=>rfl);(case hr=>first|(go_simp;done)|(go_simp;rfl))
   intro dH hg w8 hbox hb
   have yD:=aj.mk (Kd.uX (kr yD.o) hb)
   have fO:=aj.mk (bM (g:=fF) (o:=.cells #[.int .u8 aY,.int .u8 bF,.int .u32 bn,.slice eH aG.length dI,.slice oP lC.length oV] 26 (0,0)) bk hb)
   have lW:=aj.mk (bM (g:=gB) (o:=.cells #[.int .u8 0,.int .u8 0,.int .u32 0,.slice none 0 0,.slice none 0 0] 58 (0,0)) bk hb)
   have HB:=aj.mk (bT ab hb)
   have fD:=aj.mk (hbox)
   have Ur:aj (w.heap.size≤dH):=sz hg
   have Uo:aj (w.heap.size≤dH):=sz hg
   have bZ:=aj.mk ((by rw[hg];exact Nat.ne_of_lt (eP (g:=fF) (o:=.cells #[.int .u8 aY,.int .u8 bF,.int .u32 bn,.slice eH aG.length dI,.slice oP lC.length oV] 26 (0,0)) bk):fF≠dH))
   have jA:=aj.mk ((by rw[hg];exact Nat.ne_of_gt (eP (g:=fF) (o:=.cells #[.int .u8 aY,.int .u8 bF,.int .u32 bn,.slice eH aG.length dI,.slice oP lC.length oV] 26 (0,0)) bk):dH≠fF))
   have jY:=aj.mk ((by rw[hg];exact Nat.ne_of_lt (eP (g:=gB) (o:=.cells #[.int .u8 0,.int .u8 0,.int .u32 0,.slice none 0 0,.slice none 0 0] 58 (0,0)) bk):gB≠dH))
   have jZ:=aj.mk ((by rw[hg];exact Nat.ne_of_gt (eP (g:=gB) (o:=.cells #[.int .u8 0,.int .u8 0,.int .u32 0,.slice none 0 0,.slice none 0 0] 58 (0,0)) bk):dH≠gB))
   clear hb hbox hg
   refine hK.o _ _ ⟨(aC fO.o 0).trans rfl,(aC fO.o 1).trans rfl,(aC fO.o 2).trans rfl,(aC fO.o 3).trans rfl,(aC fO.o 4).trans rfl⟩ (fun hHeld=>?_)
   clear hK K
   refine qm (a':=?_) ?_ ?_
   rotate_left
   ·show Act.put _ (some 3) _=_
    simp only[Act.put,List.setIfInBounds_toArray,List.set_cons_zero,List.set_cons_succ,gZ,iK]
    rfl
   exact qm (by simp only[Dq,Act.put,List.setIfInBounds_toArray,List.set_cons_zero,List.set_cons_succ]) (ag8 (.slice Ao7 lU.length co7,dH) _ ⟨hHeld,(kr yD.o),bk,bk,bk,Ur.o,Uo.o,bZ.o,jA.o,jY.o,jZ.o,ab⟩)
  ·skip
   refine Ol ?hg (N:=3) ?hd (cs:=#[.int .u8 0,.int .u8 0,.int .u32 0,.slice none 0 0,.slice none 0 0]) (t:=58) ?hr ?_;(case hd=>rfl);(case hg=>rfl);(case hr=>first|(go_simp;done)|(go_simp;rfl))
   intro dH hg w6 hbox hb
   have fO:=aj.mk (bM (g:=fF) (o:=.cells #[.int .u8 aY,.int .u8 bF,.int .u32 bn,.slice eH aG.length dI,.slice oP lC.length oV] 26 (0,0)) bk hb)
   have lW:=aj.mk (bM (g:=gB) (o:=.cells #[.int .u8 0,.int .u8 0,.int .u32 0,.slice none 0 0,.slice none 0 0] 58 (0,0)) bk hb)
   have HB:=aj.mk (bT ab hb)
   have fD:=aj.mk (hbox)
   have Ur:aj (w.heap.size≤dH):=sz hg
   have Uo:aj (w.heap.size≤dH):=sz hg
   have bZ:=aj.mk ((by rw[hg];exact Nat.ne_of_lt (eP (g:=fF) (o:=.cells #[.int .u8 aY,.int .u8 bF,.int .u32 bn,.slice eH aG.length dI,.slice oP lC.length oV] 26 (0,0)) bk):fF≠dH))
   have jA:=aj.mk ((by rw[hg];exact Nat.ne_of_gt (eP (g:=fF) (o:=.cells #[.int .u8 aY,.int .u8 bF,.int .u32 bn,.slice eH aG.length dI,.slice oP lC.length oV] 26 (0,0)) bk):dH≠fF))
   have jY:=aj.mk ((by rw[hg];exact Nat.ne_of_lt (eP (g:=gB) (o:=.cells #[.int .u8 0,.int .u8 0,.int .u32 0,.slice none 0 0,.slice none 0 0] 58 (0,0)) bk):gB≠dH))
   have jZ:=aj.mk ((by rw[hg];exact Nat.ne_of_gt (eP (g:=gB) (o:=.cells #[.int .u8 0,.int .u8 0,.int .u32 0,.slice none 0 0,.slice none 0 0] 58 (0,0)) bk):dH≠gB))
   clear hb hbox hg
   refine hK.o _ _ ⟨(aC fO.o 0).trans rfl,(aC fO.o 1).trans rfl,(aC fO.o 2).trans rfl,(aC fO.o 3).trans rfl,(aC fO.o 4).trans rfl⟩ (fun hHeld=>?_)
   clear hK K
   refine qm (a':=?_) ?_ ?_
   rotate_left
   ·show Act.put _ (some 3) _=_
    simp only[Act.put,List.setIfInBounds_toArray,List.set_cons_zero,List.set_cons_succ,gZ,iK]
    rfl
   refine on 8 fun K hK=>?_
   refine DZ func36 (by kernel_rfl) rfl #[.slice oP lC.length oV] (by rfl) rfl rfl mt ?_
   with_reducible refine(bJ.calls k _ _ lC lU _ ?jK ?jL A2.o).mono ?_
   (case jK=>repeat (first|exact(Kd.bQ agP.o HB.o)|(with_reducible refine Kd.jE ?_ _)|(with_reducible refine Kd.kY ?_ _)|(with_reducible refine Kd.n_ ?_)))
   (case jL=>exact agI.o)
   rintro e w7 ⟨aj9,rfl,ho0,hb⟩
   refine⟨_,rfl,?_⟩
   have yD:=aj.mk (Kd.qF ho0 (iF ab))
   have fO:=aj.mk (bM (g:=fF) (o:=.cells #[.int .u8 aY,.int .u8 bF,.int .u32 bn,.slice eH aG.length dI,.slice oP lC.length oV] 26 (0,0)) bk hb)
   have lW:=aj.mk (bM (g:=gB) (o:=.cells #[.int .u8 0,.int .u8 0,.int .u32 0,.slice none 0 0,.slice none 0 0] 58 (0,0)) bk hb)
   have fD:=aj.mk (bM (g:=dH) (o:=.cells #[.int .u8 0,.int .u8 0,.int .u32 0,.slice none 0 0,.slice none 0 0] 58 (0,0)) bk hb)
   have HB:=aj.mk (bT ab hb)
   obtain⟨Ao8,co8,eo8⟩:=Kd.oz yD.o
   (first|subst eo8|(injection eo8 with Jf Yb Jg;have Yc:=Jf.symm;have Yd:=Jg.symm;clear Jf Yb Jg;subst Yc;subst Yd))
   refine hK.o _ _ ⟨(aC fO.o 0).trans rfl,(aC fO.o 1).trans rfl,(aC fO.o 2).trans rfl,(aC fO.o 3).trans rfl,(aC fO.o 4).trans rfl⟩ (fun hHeld=>?_)
   clear hK K
   refine qm (a':=?_) ?_ ?_
   rotate_left
   ·show Act.put _ (some 14) _=_
    simp only[Act.put,List.setIfInBounds_toArray,List.set_cons_zero,List.set_cons_succ,gZ,iK]
    rfl
   refine pk 9 ?_
   exact qm (by simp only[Dq,Act.put,List.setIfInBounds_toArray,List.set_cons_zero,List.set_cons_succ]) (ag8 (.slice Ao8 lU.length co8,dH) _ ⟨hHeld,(kr yD.o),bk,bk,bk,Ur.o,Uo.o,bZ.o,jA.o,jY.o,jZ.o,ab⟩)
 rintro⟨aj9,dH⟩ w9 ⟨hS_,h0_,h1_,h2_,h3_,h4_,h5_,h6_,h7_,h8_,h9_,alT⟩
 have ML:aj (Kd.R ug 53 w9 w.heap.size (fun _=>True) aj9 lU):=⟨h0_⟩
 have MN:aj (w9.heap[fF]?=some (.cells #[.int .u8 aY,.int .u8 bF,.int .u32 bn,.slice eH aG.length dI,.slice oP lC.length oV] 26 (0,0))):=⟨h1_⟩
 have MO:aj (w9.heap[gB]?=some (.cells #[.int .u8 0,.int .u8 0,.int .u32 0,.slice none 0 0,.slice none 0 0] 58 (0,0))):=⟨h2_⟩
 have MP:aj (w9.heap[dH]?=some (.cells #[.int .u8 0,.int .u8 0,.int .u32 0,.slice none 0 0,.slice none 0 0] 58 (0,0))):=⟨h3_⟩
 have Qu:aj (w.heap.size≤dH):=⟨h4_⟩
 have Qv:aj (w.heap.size≤dH):=⟨h5_⟩
 have ZF:aj (fF≠dH):=⟨h6_⟩
 have n7_:aj (dH≠fF):=⟨h7_⟩
 have n8_:aj (gB≠dH):=⟨h8_⟩
 have n9_:aj (dH≠gB):=⟨h9_⟩
 have amn:aj (Below w.heap.size w w9):=⟨alT⟩
 clear fO
 clear lW
 clear HB
 clear h0_ h1_ h2_ h3_ h4_ h5_ h6_ h7_ h8_ h9_ alT
 have yD:=ML
 have fO:=MN
 have lW:=MO
 have fD:=MP
 have Ur:=Qu
 have Uo:=Qv
 have bZ:=ZF
 have jA:=n7_
 have jY:=n8_
 have jZ:=n9_
 have HB:=amn
 clear ML MN MO MP Qu Qv ZF n7_ n8_ n9_ amn
 have hHeld:w9.cell? ⟨fF,0,none⟩=some (.int .u8 aY)∧w9.cell? ⟨fF,1,none⟩=some (.int .u8 bF)∧w9.cell? ⟨fF,2,none⟩=some (.int .u32 bn)∧w9.cell? ⟨fF,3,none⟩=some (.slice eH aG.length dI)∧w9.cell? ⟨fF,4,none⟩=some (.slice oP lC.length oV):=hS_
 obtain⟨wz,wE,alH⟩:=Kd.oz yD.o
 (first|subst alH|(injection alH with Jf Yb Jg;have Yc:=Jf.symm;have Yd:=Jg.symm;clear Jf Yb Jg;subst Yc;subst Yd))
 refine qm (a':=?_) ?_ ?_
 rotate_left
 ·simp only[Dq,Act.put,List.setIfInBounds_toArray,List.set_cons_zero,List.set_cons_succ]
  rfl
 refine aqX (i:=11) (N:=none) #[true,true,true,true,true,true,true,true,true,true,true,true] rfl rfl (by kernel_rfl) (by decide) (fun K hK=>?_)
 have hs11:w9.cell? ⟨dH,0,none⟩=some (.int .u8 0):=(aC fD.o 0).trans rfl
 have asn:=aK fD.o 0
 have aoY:=bZ.o
 have aoZ:=jY.o
 have aoI:=jA.o
 have aoJ:=jZ.o
 have atU:w9.cell? ⟨dH,1,none⟩=some (.int .u8 0):=(aC fD.o 1).trans rfl
 have aso:=aK fD.o 1
 have ao0:=bZ.o
 have ao1:=jY.o
 have aoK:=jA.o
 have aoL:=jZ.o
 have atV:w9.cell? ⟨dH,2,none⟩=some (.int .u32 0):=(aC fD.o 2).trans rfl
 have asq:=aK fD.o 2
 have ao2:=bZ.o
 have ao3:=jY.o
 have aoM:=jA.o
 have aoN:=jZ.o
 have atW:w9.cell? ⟨dH,3,none⟩=some (.slice none 0 0):=(aC fD.o 3).trans rfl
 have asr:=aK fD.o 3
 have ao4:=bZ.o
 have ao5:=jY.o
 have aoO:=jA.o
 have aoP:=jZ.o
 have atX:w9.cell? ⟨dH,4,none⟩=some (.slice none 0 0):=(aC fD.o 4).trans rfl
 have asu:=aK fD.o 4
 have ao6:=bZ.o
 have ao7:=jY.o
 have aoQ:=jA.o
 have aoR:=jZ.o
 refine acS (w1:=?_) (by rfl) rfl ?_ ?_
 rotate_left
 ·go_simp
  rfl
 refine hK.o _ _ ⟨((cell_far (p:=⟨dH,_,none⟩) bZ.o _).trans (((cell_far (p:=⟨dH,_,none⟩) bZ.o _).trans (((cell_far (p:=⟨dH,_,none⟩) bZ.o _).trans (((cell_far (p:=⟨dH,_,none⟩) bZ.o _).trans (((cell_far (p:=⟨dH,_,none⟩) bZ.o _).trans (hHeld.1)))))))))),((cell_far (p:=⟨dH,_,none⟩) bZ.o _).trans (((cell_far (p:=⟨dH,_,none⟩) bZ.o _).trans (((cell_far (p:=⟨dH,_,none⟩) bZ.o _).trans (((cell_far (p:=⟨dH,_,none⟩) bZ.o _).trans (((cell_far (p:=⟨dH,_,none⟩) bZ.o _).trans (hHeld.2.1)))))))))),((cell_far (p:=⟨dH,_,none⟩) bZ.o _).trans (((cell_far (p:=⟨dH,_,none⟩) bZ.o _).trans (((cell_far (p:=⟨dH,_,none⟩) bZ.o _).trans (((cell_far (p:=⟨dH,_,none⟩) bZ.o _).trans (((cell_far (p:=⟨dH,_,none⟩) bZ.o _).trans (hHeld.2.2.1)))))))))),((cell_far (p:=⟨dH,_,none⟩) bZ.o _).trans (((cell_far (p:=⟨dH,_,none⟩) bZ.o _).trans (((cell_far (p:=⟨dH,_,none⟩) bZ.o _).trans (((cell_far (p:=⟨dH,_,none⟩) bZ.o _).trans (((cell_far (p:=⟨dH,_,none⟩) bZ.o _).trans (hHeld.2.2.2.1)))))))))),((cell_far (p:=⟨dH,_,none⟩) bZ.o _).trans (((cell_far (p:=⟨dH,_,none⟩) bZ.o _).trans (((cell_far (p:=⟨dH,_,none⟩) bZ.o _).trans (((cell_far (p:=⟨dH,_,none⟩) bZ.o _).trans (((cell_far (p:=⟨dH,_,none⟩) bZ.o _).trans (hHeld.2.2.2.2))))))))))⟩ (fun hHeld=>?_)
 clear hK K
 refine FX (by kernel_rfl) ?_
 have asC:=IW.o
 have asQ:=IZ.o
 have al7:=bZ.o
 have ama:=jA.o
 obtain⟨Vf,Vg,Vh,Vj,am2,Vu,Vw,Vx,Vy,anW⟩:=bx5 fO.o
 try go_wp2
 go_loopg [19] k (fun kq v19 w'=>∃(bY:Int) (jD:List (BP)) (lg:Value),v19=.int .i64 bY∧aj (dB.l0 kq aG (aG.length:Int) bY aY bF bn jD lU=some (r1,r2,r3,r4,r5))∧aj (kq≤k)∧aj (Kd.R k78 78 w' w.heap.size (fun k_=>some k_≠((.slice wz lU.length wE):Value).ownBlock) lg jD)∧aj (Kd.R ug 53 w' w.heap.size (fun _=>True) (.slice wz lU.length wE) lU)∧aj (w'.heap[fF]?=some (.cells #[.int .u8 aY,.int .u8 bF,.int .u32 bn,(.slice eH aG.length dI),(.slice oP lC.length oV)] 26 (0,0)))∧aj (w'.heap[gB]?=some (.cells #[.int .u8 0,.int .u8 0,.int .u32 0,(.slice none 0 0),(.slice none 0 0)] 58 (0,0)))∧aj (w'.heap[dH]?=some (.cells #[.int .u8 aY,.int .u8 bF,.int .u32 bn,lg,(.slice wz lU.length wE)] 58 (0,0)))∧aj (Below w.heap.size w w'))
 case atStart=>exact⟨(0),(([]:List (BP))),(.slice none 0 0),rf,H',⟨bW⟩,⟨kn⟩,⟨by(with_reducible repeat (first|apply Kd.kL|apply Kd.jU|apply Kd.kM));exact Kd.gX (Kd.fZ (p:=⟨dH,4,none⟩) (Kd.fZ (p:=⟨dH,3,none⟩) (Kd.fZ (p:=⟨dH,2,none⟩) (Kd.fZ (p:=⟨dH,1,none⟩) (Kd.fZ (p:=⟨dH,0,none⟩) (Kd.pY yD.o fD.o (by decide)) (fun _ hk=>hk.2) (.int .u8 aY)) (fun _ hk=>hk.2) (.int .u8 bF)) (fun _ hk=>hk.2) (.int .u32 bn)) (fun _ hk=>hk.2) (.slice none 0 0)) (fun _ hk=>hk.2) (.slice wz lU.length wE)) (fun _ hk=>trivial)⟩,⟨bz⟩,⟨bz⟩,⟨bz⟩,⟨ab⟩⟩
 case round =>
  clear H'
  obtain⟨bY,jD,lg,rfl,HA,pX,fP,iy,fO,lW,fD,HB⟩:=hrel
  cases gk with
  |zero=>exact absurd HA.o (by simp[dB.l0])
  |succ k1 =>
   have H:=HA.o
   clear HA
   simp only[dB.l0]at H
   replace H:=di H;obtain⟨Fv,H⟩|⟨Fv,H⟩:=H
   ·replace H:=dn H;obtain⟨Ot,-,H⟩:=H
    replace H:=dn H;obtain⟨UM,-,H⟩:=H
    replace H:=Option.bind_eq_some_iff.mp H
    obtain⟨⟨Zd,Ze,Zf,Zg⟩,adK,H⟩:=H
    replace H:(if jD.length<2199023255552 then(dB.l0 k1 aG (aG.length:Int) (wrap64 (bY+1)) aY bF bn (jD++[(⟨(bC aG bY).f0,(⟨Zd,Ze,Zf,Zg⟩:l9)⟩:BP)]) lU)else(none))=some (r1,r2,r3,r4,r5):=H
    have A22:=aj.mk adK
    clear adK
    by_cases c23:jD.length<2199023255552
    ·rw[if_pos c23]at H
     have akG:=aj.mk c23
     clear c23
     obtain⟨adI,O5⟩:∃y_:List (BP),y_=(jD++[(⟨(bC aG bY).f0,(⟨Zd,Ze,Zf,Zg⟩:l9)⟩:BP)]):=⟨_,rfl⟩
     replace H:(dB.l0 k1 aG (aG.length:Int) (wrap64 (bY+1)) aY bF bn adI lU)=some (r1,r2,r3,r4,r5):=by first|(rw[O5];with_reducible exact H)|(have EU:=(Option.bind_some _ _).symm.trans H;rw[O5];with_reducible exact EU)|(have EU:=(Option.bind_some _ _).symm.trans H;with_reducible exact EU)|with_reducible exact H|(rw[O5];exact H)|exact H
     have akN:=aj.mk O5
     clear O5
     have H':=aj.mk H
     clear H
     have ajo:0≤(bY:Int):=od
     have ajD:bY<(aG.length:Int):=od
     obtain⟨I8,ng,ny,ap8,WH,WI,WJ,WL,WM,VQ,VL⟩:=aam qh.o bY ajo ajD
     cases ap8
     replace WH:=up HB.o WH
     replace WI:=up HB.o WI
     replace WJ:=up HB.o WJ
     replace WL:=up HB.o WL
     replace WM:=up HB.o WM
     have ad7:=aj.mk VL
     have adV:=aj.mk VQ
     clear VL VQ
     replace ajo:=eq_true ajo
     replace ajD:=eq_true ajD
     try go_wp2_with ((with_reducible refine gI (N:=5) rfl ?_);refine NS (N:=5) (cs:=#[.int .u8 0,.int .u8 0,.int .u64 0,.string (⟨#[]⟩:bG),.slice none 0 0]) (t:=38) ?_;intro dK hg JO hbox hb;have fP:=aj.mk (Kd.uX (kr fP.o) hb);have iy:=aj.mk (Kd.uX (kr iy.o) hb);have fO:=aj.mk (bM (g:=fF) (o:=.cells #[.int .u8 aY,.int .u8 bF,.int .u32 bn,.slice (some I8) aG.length dI,.slice oP lC.length oV] 26 (0,0)) bk hb);have lW:=aj.mk (bM (g:=gB) (o:=.cells #[.int .u8 0,.int .u8 0,.int .u32 0,.slice none 0 0,.slice none 0 0] 58 (0,0)) bk hb);have fD:=aj.mk (bM (g:=dH) (o:=.cells #[.int .u8 aY,.int .u8 bF,.int .u32 bn,lg,.slice wz lU.length wE] 58 (0,0)) bk hb);have HB:=aj.mk (bT ab hb);have gV:=aj.mk (hbox);have arL:aj (w.heap.size≤dK):=sz hg;have aru:aj (w.heap.size≤dK):=sz hg;have XM:=aj.mk ((by rw[hg];exact Nat.ne_of_lt (eP (g:=fF) (o:=.cells #[.int .u8 aY,.int .u8 bF,.int .u32 bn,.slice (some I8) aG.length dI,.slice oP lC.length oV] 26 (0,0)) bk):fF≠dK));have XP:=aj.mk ((by rw[hg];exact Nat.ne_of_gt (eP (g:=fF) (o:=.cells #[.int .u8 aY,.int .u8 bF,.int .u32 bn,.slice (some I8) aG.length dI,.slice oP lC.length oV] 26 (0,0)) bk):dK≠fF));have XO:=aj.mk ((by rw[hg];exact Nat.ne_of_lt (eP (g:=gB) (o:=.cells #[.int .u8 0,.int .u8 0,.int .u32 0,.slice none 0 0,.slice none 0 0] 58 (0,0)) bk):gB≠dK));have XQ:=aj.mk ((by rw[hg];exact Nat.ne_of_gt (eP (g:=gB) (o:=.cells #[.int .u8 0,.int .u8 0,.int .u32 0,.slice none 0 0,.slice none 0 0] 58 (0,0)) bk):dK≠gB));have I4:=aj.mk ((by rw[hg];exact Nat.ne_of_lt (eP (g:=dH) (o:=.cells #[.int .u8 aY,.int .u8 bF,.int .u32 bn,lg,.slice wz lU.length wE] 58 (0,0)) bk):dH≠dK));have I5:=aj.mk ((by rw[hg];exact Nat.ne_of_gt (eP (g:=dH) (o:=.cells #[.int .u8 aY,.int .u8 bF,.int .u32 bn,lg,.slice wz lU.length wE] 58 (0,0)) bk):dK≠dH));clear hb hbox hg;have al9:=XP.o;have amc:=XM.o;have asF:=XQ.o;have asU:=XO.o;have asG:=I5.o;have asV:=I4.o;have ank:JO.cell? ⟨dK,0,none⟩=some (.int .u8 0):=(aC gV.o 0).trans rfl;have anl:JO.cell? ⟨dK,1,none⟩=some (.int .u8 0):=(aC gV.o 1).trans rfl;have anm:JO.cell? ⟨dK,2,none⟩=some (.int .u64 0):=(aC gV.o 2).trans rfl;have ano:JO.cell? ⟨dK,3,none⟩=some (.string (⟨#[]⟩:bG)):=(aC gV.o 3).trans rfl;have anp:JO.cell? ⟨dK,4,none⟩=some (.slice none 0 0):=(aC gV.o 4).trans rfl;have aod:=aK gV.o 0;have aoe:=aK gV.o 1;have aof:=aK gV.o 2;have aog:=aK gV.o 3;have aoh:=aK gV.o 4)
     have ML:aj (Kd.R k78 78 (((((JO.setCell ⟨dK,0,none⟩ (.int .u8 ((bC aG bY).f0))).setCell ⟨dK,1,none⟩ (.int .u8 ((bC aG bY).f1.f0))).setCell ⟨dK,2,none⟩ (.int .u64 ((bC aG bY).f1.f1))).setCell ⟨dK,3,none⟩ (.string ((bC aG bY).f1.f2))).setCell ⟨dK,4,none⟩ (.slice ng ((bC aG bY).f1.f3).length ny)) w.heap.size (fun k_=>some k_≠(.slice wz lU.length wE:Value).ownBlock) lg jD):=⟨by(with_reducible repeat (first|apply Kd.kL|apply Kd.jU|apply Kd.kM));exact Kd.gX (Kd.fZ (p:=⟨dK,4,none⟩) (Kd.fZ (p:=⟨dK,3,none⟩) (Kd.fZ (p:=⟨dK,2,none⟩) (Kd.fZ (p:=⟨dK,1,none⟩) (Kd.fZ (p:=⟨dK,0,none⟩) (Kd.pY fP.o gV.o (by decide)) (fun _ hk=>hk.2) (.int .u8 ((bC aG bY).f0))) (fun _ hk=>hk.2) (.int .u8 ((bC aG bY).f1.f0))) (fun _ hk=>hk.2) (.int .u64 ((bC aG bY).f1.f1))) (fun _ hk=>hk.2) (.string ((bC aG bY).f1.f2))) (fun _ hk=>hk.2) (.slice ng ((bC aG bY).f1.f3).length ny)) (fun _ hk=>hk.1)⟩
     have MN:aj (Kd.R ug 53 (((((JO.setCell ⟨dK,0,none⟩ (.int .u8 ((bC aG bY).f0))).setCell ⟨dK,1,none⟩ (.int .u8 ((bC aG bY).f1.f0))).setCell ⟨dK,2,none⟩ (.int .u64 ((bC aG bY).f1.f1))).setCell ⟨dK,3,none⟩ (.string ((bC aG bY).f1.f2))).setCell ⟨dK,4,none⟩ (.slice ng ((bC aG bY).f1.f3).length ny)) w.heap.size (fun _=>True) (.slice wz lU.length wE) lU):=⟨by(with_reducible repeat (first|apply Kd.kL|apply Kd.jU|apply Kd.kM));exact Kd.gX (Kd.fZ (p:=⟨dK,4,none⟩) (Kd.fZ (p:=⟨dK,3,none⟩) (Kd.fZ (p:=⟨dK,2,none⟩) (Kd.fZ (p:=⟨dK,1,none⟩) (Kd.fZ (p:=⟨dK,0,none⟩) (Kd.pY iy.o gV.o (by decide)) (fun _ hk=>hk.2) (.int .u8 ((bC aG bY).f0))) (fun _ hk=>hk.2) (.int .u8 ((bC aG bY).f1.f0))) (fun _ hk=>hk.2) (.int .u64 ((bC aG bY).f1.f1))) (fun _ hk=>hk.2) (.string ((bC aG bY).f1.f2))) (fun _ hk=>hk.2) (.slice ng ((bC aG bY).f1.f3).length ny)) (fun _ hk=>trivial)⟩
     have MO:aj ((((((JO.setCell ⟨dK,0,none⟩ (.int .u8 ((bC aG bY).f0))).setCell ⟨dK,1,none⟩ (.int .u8 ((bC aG bY).f1.f0))).setCell ⟨dK,2,none⟩ (.int .u64 ((bC aG bY).f1.f1))).setCell ⟨dK,3,none⟩ (.string ((bC aG bY).f1.f2))).setCell ⟨dK,4,none⟩ (.slice ng ((bC aG bY).f1.f3).length ny)).heap[fF]?=some (.cells #[.int .u8 aY,.int .u8 bF,.int .u32 bn,.slice (some I8) aG.length dI,.slice oP lC.length oV] 26 (0,0))):=⟨bz⟩
     have MP:aj ((((((JO.setCell ⟨dK,0,none⟩ (.int .u8 ((bC aG bY).f0))).setCell ⟨dK,1,none⟩ (.int .u8 ((bC aG bY).f1.f0))).setCell ⟨dK,2,none⟩ (.int .u64 ((bC aG bY).f1.f1))).setCell ⟨dK,3,none⟩ (.string ((bC aG bY).f1.f2))).setCell ⟨dK,4,none⟩ (.slice ng ((bC aG bY).f1.f3).length ny)).heap[gB]?=some (.cells #[.int .u8 0,.int .u8 0,.int .u32 0,.slice none 0 0,.slice none 0 0] 58 (0,0))):=⟨bz⟩
     have Qu:aj ((((((JO.setCell ⟨dK,0,none⟩ (.int .u8 ((bC aG bY).f0))).setCell ⟨dK,1,none⟩ (.int .u8 ((bC aG bY).f1.f0))).setCell ⟨dK,2,none⟩ (.int .u64 ((bC aG bY).f1.f1))).setCell ⟨dK,3,none⟩ (.string ((bC aG bY).f1.f2))).setCell ⟨dK,4,none⟩ (.slice ng ((bC aG bY).f1.f3).length ny)).heap[dH]?=some (.cells #[.int .u8 aY,.int .u8 bF,.int .u32 bn,lg,.slice wz lU.length wE] 58 (0,0))):=⟨bz⟩
     have Qv:aj ((((((JO.setCell ⟨dK,0,none⟩ (.int .u8 ((bC aG bY).f0))).setCell ⟨dK,1,none⟩ (.int .u8 ((bC aG bY).f1.f0))).setCell ⟨dK,2,none⟩ (.int .u64 ((bC aG bY).f1.f1))).setCell ⟨dK,3,none⟩ (.string ((bC aG bY).f1.f2))).setCell ⟨dK,4,none⟩ (.slice ng ((bC aG bY).f1.f3).length ny)).heap[dK]?=some (.cells #[.int .u8 ((bC aG bY).f0),.int .u8 ((bC aG bY).f1.f0),.int .u64 ((bC aG bY).f1.f1),.string ((bC aG bY).f1.f2),.slice ng ((bC aG bY).f1.f3).length ny] 38 (0,0))):=⟨bz⟩
     have ZF:aj (Below w.heap.size w (((((JO.setCell ⟨dK,0,none⟩ (.int .u8 ((bC aG bY).f0))).setCell ⟨dK,1,none⟩ (.int .u8 ((bC aG bY).f1.f0))).setCell ⟨dK,2,none⟩ (.int .u64 ((bC aG bY).f1.f1))).setCell ⟨dK,3,none⟩ (.string ((bC aG bY).f1.f2))).setCell ⟨dK,4,none⟩ (.slice ng ((bC aG bY).f1.f3).length ny))):=⟨ab⟩
     generalize (((((JO.setCell ⟨dK,0,none⟩ (.int .u8 ((bC aG bY).f0))).setCell ⟨dK,1,none⟩ (.int .u8 ((bC aG bY).f1.f0))).setCell ⟨dK,2,none⟩ (.int .u64 ((bC aG bY).f1.f1))).setCell ⟨dK,3,none⟩ (.string ((bC aG bY).f1.f2))).setCell ⟨dK,4,none⟩ (.slice ng ((bC aG bY).f1.f3).length ny))=w29 at ML MN MO MP Qu Qv ZF ⊢
     have fP:=ML
     have iy:=MN
     have fO:=MO
     have lW:=MP
     have fD:=Qu
     have gV:=Qv
     have HB:=ZF
     clear ML MN MO MP Qu Qv ZF
     have fP:=aj.mk (Kd.kM fP.o)
     have iy:=aj.mk (Kd.kM iy.o)
     have fO:=aj.mk (jk fO.o)
     have lW:=aj.mk (jk lW.o)
     have fD:=aj.mk (jk fD.o)
     have gV:=aj.mk (jk gV.o)
     have HB:=aj.mk (nK HB.o)
     refine G8 (n:=12) (S:=fun w'=>w'.cell? ⟨dH,0,none⟩=some (.int .u8 aY)∧w'.cell? ⟨dH,1,none⟩=some (.int .u8 bF)∧w'.cell? ⟨dH,2,none⟩=some (.int .u32 bn)∧w'.cell? ⟨dH,3,none⟩=some (lg)∧w'.cell? ⟨dH,4,none⟩=some (.slice wz lU.length wE)∧w'.cell? ⟨dK,0,none⟩=some (.int .u8 ((bC aG bY).f0))∧w'.cell? ⟨dK,1,none⟩=some (.int .u8 ((bC aG bY).f1.f0))∧w'.cell? ⟨dK,2,none⟩=some (.int .u64 ((bC aG bY).f1.f1))∧w'.cell? ⟨dK,3,none⟩=some (.string ((bC aG bY).f1.f2))∧w'.cell? ⟨dK,4,none⟩=some (.slice ng ((bC aG bY).f1.f3).length ny)) (ds:=[11]) #[false,false,false,false,false,false,false,false,false,false,false,false] (by kernel_rfl) rfl rfl ⟨(aC fD.o 0).trans rfl,(aC fD.o 1).trans rfl,(aC fD.o 2).trans rfl,(aC fD.o 3).trans rfl,(aC fD.o 4).trans rfl,(aC gV.o 0).trans rfl,(aC gV.o 1).trans rfl,(aC gV.o 2).trans rfl,(aC gV.o 3).trans rfl,(aC gV.o 4).trans rfl⟩ (fun hHeld=>?_)
     generalize w29.drew=w30 at fP iy fO lW fD gV HB hHeld ⊢
     refine pk 0 ?_
     refine pk 2 ?_
     refine pk 4 ?_
     refine tk 1 ?_
     refine tk 3 ?_
     refine tk 5 ?_
     refine on 6 fun K hK=>?_
     refine DZ func19 (by kernel_rfl) rfl #[.agg #[.int .u8 ((bC aG bY).f1.f0),.int .u64 ((bC aG bY).f1.f1),.string ((bC aG bY).f1.f2),.slice ng ((bC aG bY).f1.f3).length ny]] (by rfl) rfl rfl mt ?_
     with_reducible refine(aZ.calls k1 ((bC aG bY).f1.f0) ((bC aG bY).f1.f1) ((bC aG bY).f1.f2) _ _ ((bC aG bY).f1.f3) Zd Ze Zf Zg _ ?jK ?jL A22.o).mono ?_
     (case jK=>repeat (first|exact(Kd.bQ ad7.o HB.o)|(with_reducible refine Kd.jE ?_ _)|(with_reducible refine Kd.kY ?_ _)|(with_reducible refine Kd.n_ ?_)))
     (case jL=>exact adV.o)
     rintro e w31 ⟨auV,rfl,ho0,hb⟩
     refine⟨_,rfl,?_⟩
     have ML:=aj.mk (Kd.zG (kr fP.o) (Kd.E5 ho0) hb)
     have MN:=aj.mk (Kd.zG (kr iy.o) (Kd.E5 ho0) hb)
     have MO:=aj.mk (Kd.qF (Kd.QO ho0 (Kd.aec (kr iy.o))) (iF ab))
     have MP:=aj.mk (bM (g:=fF) (o:=.cells #[.int .u8 aY,.int .u8 bF,.int .u32 bn,.slice (some I8) aG.length dI,.slice oP lC.length oV] 26 (0,0)) bk hb)
     have Qu:=aj.mk (bM (g:=gB) (o:=.cells #[.int .u8 0,.int .u8 0,.int .u32 0,.slice none 0 0,.slice none 0 0] 58 (0,0)) bk hb)
     have Qv:=aj.mk (bM (g:=dH) (o:=.cells #[.int .u8 aY,.int .u8 bF,.int .u32 bn,lg,.slice wz lU.length wE] 58 (0,0)) bk hb)
     have ZF:=aj.mk (bM (g:=dK) (o:=.cells #[.int .u8 ((bC aG bY).f0),.int .u8 ((bC aG bY).f1.f0),.int .u64 ((bC aG bY).f1.f1),.string ((bC aG bY).f1.f2),.slice ng ((bC aG bY).f1.f3).length ny] 38 (0,0)) bk hb)
     have n7_:=aj.mk (bT ab hb)
     clear fP
     clear iy
     clear fO
     clear lW
     clear fD
     clear gV
     clear HB
     have fP:=ML
     have iy:=MN
     have agN:=MO
     have fO:=MP
     have lW:=Qu
     have fD:=Qv
     have gV:=ZF
     have HB:=n7_
     clear ML MN MO MP Qu Qv ZF n7_
     obtain⟨apv,apV,alK⟩:=Kd.oz agN.o
     (first|subst alK|(injection alK with Jf Yb Jg;have Yc:=Jf.symm;have Yd:=Jg.symm;clear Jf Yb Jg;subst Yc;subst Yd))
     refine hK.o _ _ ⟨(aC fD.o 0).trans rfl,(aC fD.o 1).trans rfl,(aC fD.o 2).trans rfl,(aC fD.o 3).trans rfl,(aC fD.o 4).trans rfl,(aC gV.o 0).trans rfl,(aC gV.o 1).trans rfl,(aC gV.o 2).trans rfl,(aC gV.o 3).trans rfl,(aC gV.o 4).trans rfl⟩ (fun hHeld=>?_)
     clear hK K
     refine qm (a':=?_) ?_ ?_
     rotate_left
     ·show Act.put _ (some 29) _=_
      simp only[Act.put,List.setIfInBounds_toArray,List.set_cons_zero,List.set_cons_succ,gZ,iK]
      rfl
     refine pk 7 ?_
     refine on 8 fun K hK=>?_
     refine adt (w1:=?_) (v:=?_) (by rfl) rfl ?_ ?_
     rotate_left 2
     ·go_simp
      constructor
      ·rfl
      ·rfl
     refine hK.o _ _ ⟨(aC (fH fD.o _) 0).trans rfl,(aC (fH fD.o _) 1).trans rfl,(aC (fH fD.o _) 2).trans rfl,(aC (fH fD.o _) 3).trans rfl,(aC (fH fD.o _) 4).trans rfl,(aC (fH gV.o _) 0).trans rfl,(aC (fH gV.o _) 1).trans rfl,(aC (fH gV.o _) 2).trans rfl,(aC (fH gV.o _) 3).trans rfl,(aC (fH gV.o _) 4).trans rfl⟩ (fun hHeld=>?_)
     clear hK K
     refine qm (a':=?_) ?_ ?_
     rotate_left
     ·show Act.put _ (some 31) _=_
      simp only[Act.put,List.setIfInBounds_toArray,List.set_cons_zero,List.set_cons_succ,gZ,iK]
      rfl
     refine on 9 fun K hK=>?_
     refine Kd.yF k78 (w0:=w) w.heap.size (by rfl) (.tmp 24) (.tmp 31) 56 78 (.agg #[(.int .u8 0),(.int .u8 0),(.int .u64 0),(.string ⟨#[]⟩),(.slice none 0 0)]) 64 rfl underlying56 aiY rfl (by decide) (by omega) lg jD (⟨(bC aG bY).f0,(⟨Zd,Ze,Zf,Zg⟩:l9)⟩:BP) [.int .u8 ((bC aG bY).f0),.int .u8 Zd,.int .u64 Ze,.string Zf,.slice apv Zg.length apV] (fun k_=>some k_≠(.slice wz lU.length wE:Value).ownBlock) (fun k_=>((fun k_=>some k_≠(.slice wz lU.length wE:Value).ownBlock)) k_∧some k_≠(lg:Value).ownBlock) rfl rfl ?aP (fun _ hk=>hk) ?aF ?aO ?aB ?aS ?aL ?_
     (case aP=>exact afJ _ _ _ (⟨(bC aG bY).f0,(⟨Zd,Ze,Zf,Zg⟩:l9)⟩:BP) (Kd.gX (Kd.Z9 (agN.o) (Kd.UA fP.o) (by decide)) (fun k_ hk=>⟨hk.1.2,hk.2⟩)))
     (case aB=>exact ab)
     (case aF=>exact(fun k_ hk=>Kd.ah7 (Kd.aec (kr iy.o)) k_ hk))
     (case aO=>exact(by(with_reducible repeat (first|apply Kd.kL|apply Kd.jU|apply Kd.kM));exact Kd.gX fP.o (fun _ hk=>hk.1)))
     (case aS=>exact(iF ab))
     (case aL=>have:=akG.o;omega)
     intro auW w33 ho hb hg hat
     rw[←akN.o]at ho
     have iy:=aj.mk (Kd.aed (kr iy.o) (Kd.UA (kr fP.o)) (by decide) hg)
     have fO:=aj.mk (lS (g:=fF) (o:=.cells #[.int .u8 aY,.int .u8 bF,.int .u32 bn,.slice (some I8) aG.length dI,.slice oP lC.length oV] 26 (0,0)) bk hg (Kd.QN fP.o fO.o (by decide)))
     have lW:=aj.mk (lS (g:=gB) (o:=.cells #[.int .u8 0,.int .u8 0,.int .u32 0,.slice none 0 0,.slice none 0 0] 58 (0,0)) bk hg (Kd.QN fP.o lW.o (by decide)))
     have fD:=aj.mk (lS (g:=dH) (o:=.cells #[.int .u8 aY,.int .u8 bF,.int .u32 bn,lg,.slice wz lU.length wE] 58 (0,0)) bk hg (Kd.QN fP.o fD.o (by decide)))
     have gV:=aj.mk (lS (g:=dK) (o:=.cells #[.int .u8 ((bC aG bY).f0),.int .u8 ((bC aG bY).f1.f0),.int .u64 ((bC aG bY).f1.f1),.string ((bC aG bY).f1.f2),.slice ng ((bC aG bY).f1.f3).length ny] 38 (0,0)) bk hg (Kd.QN fP.o gV.o (by decide)))
     have HB:=aj.mk (hb)
     have agO:=aj.mk (ho)
     clear ho hb hg hat
     obtain⟨ahq,ahU,alL⟩:=Kd.oz agO.o
     (first|subst alL|(injection alL with Jf Yb Jg;have Yc:=Jf.symm;have Yd:=Jg.symm;clear Jf Yb Jg;subst Yc;subst Yd))
     refine hK.o _ _ ⟨(aC fD.o 0).trans rfl,(aC fD.o 1).trans rfl,(aC fD.o 2).trans rfl,(aC fD.o 3).trans rfl,(aC fD.o 4).trans rfl,(aC gV.o 0).trans rfl,(aC gV.o 1).trans rfl,(aC gV.o 2).trans rfl,(aC gV.o 3).trans rfl,(aC gV.o 4).trans rfl⟩ (fun hHeld=>?_)
     clear hK K
     refine qm (a':=?_) ?_ ?_
     rotate_left
     ·show Act.put _ (some 32) _=_
      simp only[Act.put,List.setIfInBounds_toArray,List.set_cons_zero,List.set_cons_succ,gZ,iK]
      rfl
     refine pk 10 ?_
     refine ahh (i:=11) (N:=none) #[true,true,true,true,true,true,true,true,true,true,true,true] rfl rfl (by kernel_rfl) (by decide) (fun K hK=>?_)
     have atZ:w33.cell? ⟨dH,3,none⟩=some (lg):=(aC fD.o 3).trans rfl
     have asw:=aK fD.o 3
     have apb:=bZ.o
     have apc:=jY.o
     have apd:=I5.o
     have aoV:=jA.o
     have aoW:=jZ.o
     have aoX:=I4.o
     refine acS (w1:=?_) (by rfl) rfl ?_ ?_
     rotate_left
     ·go_simp
      rfl
     refine hK.o _ _ ?_
     clear hK K
     refine FX (by kernel_rfl) ?_
     try go_wp2
     go_roundg k1
     case measure=>have:=pX.o;omega
     case rel=>exact⟨(wrap64 (bY+1)),(adI),(.slice ahq adI.length ahU),rf,H',⟨by have:=pX.o;omega⟩,⟨by(with_reducible repeat (first|apply Kd.kL|apply Kd.jU|apply Kd.kM));exact Kd.gX (Kd.fZ (p:=⟨dH,3,none⟩) (Kd.pY agO.o fD.o (by decide)) (fun _ hk=>hk.2) (.slice ahq adI.length ahU)) (fun _ hk=>hk.1)⟩,⟨by(with_reducible repeat (first|apply Kd.kL|apply Kd.jU|apply Kd.kM));exact Kd.gX (Kd.fZ (p:=⟨dH,3,none⟩) (Kd.pY iy.o fD.o (by decide)) (fun _ hk=>hk.2) (.slice ahq adI.length ahU)) (fun _ hk=>trivial)⟩,⟨bz⟩,⟨bz⟩,⟨bz⟩,⟨ab⟩⟩
    ·rw[if_neg c23]at H
     exact absurd H (by simp)
   ·simp only[Option.some.injEq,Prod.mk.injEq]at H
    obtain⟨rfl,rfl,rfl,rfl,rfl⟩:=H
    have asK:=jA.o
    have asZ:=bZ.o
    have asL:=jZ.o
    have as1:=jY.o
    obtain⟨anI,anJ,anK,anL,anM,aoy,aoz,aoA,aoB,aoC⟩:=bx5 fD.o
    have asM:=IZ.o
    have as2:=IW.o
    obtain⟨anN,anO,anP,anQ,anR,aoD,aoE,aoF,aoG,aoH⟩:=bx5 lW.o
    obtain⟨ahr,ahV,aqc⟩:=Kd.oz fP.o
    subst aqc
    go_wp2
    refine iW (results_cell_row rfl _ _ gB 58 #[.int .u8 aY,.int .u8 bF,.int .u32 bn,.slice ahr jD.length ahV,.slice wz lU.length wE] (0,0) _ rfl bz underlying58 rfl (by kernel_rfl)) rfl ?_
    exact⟨_,_,re,by(with_reducible repeat (first|apply Kd.kL|apply Kd.jU|apply Kd.kM));exact Kd.gX (Kd.fZ (p:=⟨gB,4,none⟩) (Kd.fZ (p:=⟨gB,3,none⟩) (Kd.fZ (p:=⟨gB,2,none⟩) (Kd.fZ (p:=⟨gB,1,none⟩) (Kd.fZ (p:=⟨gB,0,none⟩) (Kd.pY fP.o lW.o (by decide)) (fun _ hk=>hk.2) (.int .u8 aY)) (fun _ hk=>hk.2) (.int .u8 bF)) (fun _ hk=>hk.2) (.int .u32 bn)) (fun _ hk=>hk.2) (.slice ahr jD.length ahV)) (fun _ hk=>hk.2) (.slice wz lU.length wE)) (fun _ hk=>hk.1),by(with_reducible repeat (first|apply Kd.kL|apply Kd.jU|apply Kd.kM));exact Kd.gX (Kd.fZ (p:=⟨gB,4,none⟩) (Kd.fZ (p:=⟨gB,3,none⟩) (Kd.fZ (p:=⟨gB,2,none⟩) (Kd.fZ (p:=⟨gB,1,none⟩) (Kd.fZ (p:=⟨gB,0,none⟩) (Kd.pY iy.o lW.o (by decide)) (fun _ hk=>hk.2) (.int .u8 aY)) (fun _ hk=>hk.2) (.int .u8 bF)) (fun _ hk=>hk.2) (.int .u32 bn)) (fun _ hk=>hk.2) (.slice ahr jD.length ahV)) (fun _ hk=>hk.2) (.slice wz lU.length wE)) (fun _ hk=>trivial),ab⟩
end
end Go.Proofs.YtllcccekodcdmaaGreatDoor.bK
namespace Go.Proofs.YtllcccekodcdmaaGreatDoor.Ms
open Go
def Zm:Nat→bG
 |1=>⟨#[109,101,116,104,111,100,32,99,97,108,108]⟩
 |2=>⟨#[114,101,112,108,121]⟩
 |3=>⟨#[101,114,114,111,114]⟩
 | _=>⟨#[115,105,103,110,97,108]⟩
theorem jG (x:bG):x++(⟨#[]⟩:bG)=x:=ByteArray.append_empty
theorem pK (x y z:bG):x++y++z=x++(y++z):=ByteArray.append_assoc
def nm7:bG:=⟨#[32,102,114,111,109,32]⟩
def nm6:bG:=⟨#[32,116,111,32]⟩
def nm0:bG:=⟨#[32,115,101,114,105,97,108,32]⟩
def nm5:bG:=⟨#[32,114,101,112,108,121,95,115,101,114,105,97,108,32]⟩
def nm9:bG:=⟨#[32,117,110,105,120,102,100,115,32]⟩
def nm1:bG:=⟨#[32,112,97,116,104,32]⟩
def nm2:bG:=⟨#[32,105,110,116,101,114,102,97,99,101,32]⟩
def nm4:bG:=⟨#[32,101,114,114,111,114,32]⟩
def nm3:bG:=⟨#[32,109,101,109,98,101,114,32]⟩
end Go.Proofs.YtllcccekodcdmaaGreatDoor.Ms
