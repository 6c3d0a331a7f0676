import Derived.Test.YtllcccekodcdmaaGreatDoorC02
set_option linter.unusedVariables false
set_option linter.unusedSimpArgs false
set_option maxRecDepth 100000
set_option maxHeartbeats 32000000
open Go.Proofs.Tryz
namespace Go.Proofs.YtllcccekodcdmaaGreatDoor.bK
open Go.Proofs.YtllcccekodcdmaaGreatDoor.Xs Go.RowKit Go.Proofs.ak.aT Go.Proofs.ak.cO Go.Proofs.ak.lQ
section
attribute [local go_sem] mW qc
mutual
def aU.j0:Nat→Bool→Int→Int→bG→List (dS)→Int→Int→bG→List (dS)→Option (Bool)
 |0,_,_,_,_,_,_,_,_,_=>none
 |k+1,x33,NC,NG,NH,qK,NI,NJ,NM,sW=>if x33=true then(some false)else(aU.l0 k (qK.length:Int) 0 NC NG NH qK NI NJ NM sW)
def aU.l0:Nat→Int→Int→Int→Int→bG→List (dS)→Int→Int→bG→List (dS)→Option (Bool)
 |0,_,_,_,_,_,_,_,_,_,_=>none
 |k+1,x36,ZA,NC,NG,NH,qK,NI,NJ,NM,sW=>if ZA<x36 then(if 0≤ZA then(if ZA<(qK.length:Int)then(if ZA<(sW.length:Int)then((aU.f k ((aA qK ZA).f0) ((aA qK ZA).f1) ((aA qK ZA).f2) ((aA qK ZA).f3) ((aA sW ZA).f0) ((aA sW ZA).f1) ((aA sW ZA).f2) ((aA sW ZA).f3)).bind fun t190=>(if t190=true then(aU.l0 k x36 (wrap64 (ZA+1)) NC NG NH qK NI NJ NM sW)else(some false)))else(none))else(none))else(none))else(some true)
def aU.f:Nat→Int→Int→bG→List (dS)→Int→Int→bG→List (dS)→Option (Bool)
 |0,_,_,_,_,_,_,_,_=>none
 |k+1,aY,bF,bn,aG,qW,qX,qY,jg=>if aY=qW then(if bF=qX then(if bn.toList=qY.toList then(aU.j0 k ((aG.length:Int) != (jg.length:Int)) aY bF bn aG qW qX qY jg)else(aU.j0 k true aY bF bn aG qW qX qY jg))else(aU.j0 k true aY bF bn aG qW qX qY jg))else(aU.j0 k true aY bF bn aG qW qX qY jg)
end
theorem aU.dZ:∀k,(∀y0 y1 y2 y3 y4 y5 y6 y7,fE (aU.f k y0 y1 y2 y3 y4 y5 y6 y7) (aU.f (k+1) y0 y1 y2 y3 y4 y5 y6 y7))∧(∀y0 y1 y2 y3 y4 y5 y6 y7 y8,fE (aU.j0 k y0 y1 y2 y3 y4 y5 y6 y7 y8) (aU.j0 (k+1) y0 y1 y2 y3 y4 y5 y6 y7 y8))∧(∀y0 y1 y2 y3 y4 y5 y6 y7 y8 y9,fE (aU.l0 k y0 y1 y2 y3 y4 y5 y6 y7 y8 y9) (aU.l0 (k+1) y0 y1 y2 y3 y4 y5 y6 y7 y8 y9))
 |0=>by refine⟨?_,?_,?_⟩<;>(intros;intro r h;simp[aU.f,aU.j0,aU.l0]at h)
 |k+1=>by
  obtain⟨pO,ih1,ih2⟩:=aU.dZ k
  refine⟨?_,?_,?_⟩
  all_goals
   intros
   first|unfold aU.f|unfold aU.j0|unfold aU.l0
   repeat' first|(with_reducible first|exact fE.refl _|exact fE.none _|refine fE.ite ?_ ?_|refine fE.bind ?_ (fun _=>?_)|apply pO|apply ih1|apply ih2)|apply pO|apply ih1|apply ih2|refine fE.ite ?_ ?_|refine fE.bind ?_ (fun _=>?_)
theorem aU.mono:∀a0 a1 a2 a3 a4 a5 a6 a7 k,fE (aU.f k a0 a1 a2 a3 a4 a5 a6 a7) (aU.f (k+1) a0 a1 a2 a3 a4 a5 a6 a7):=by
 intro a0 a1 a2 a3 a4 a5 a6 a7 k
 obtain⟨pO,ih1,ih2⟩:=aU.dZ k
 exact pO a0 a1 a2 a3 a4 a5 a6 a7
theorem aU.calls (k:Nat):∀(aY:Int) (bF:Int) (bn:bG) (eH:Option Addr) (dI:Nat) (aG:List (dS)) (qW:Int) (qX:Int) (qY:bG) (XC:Option Addr) (Kt:Nat) (jg:List (dS)) (r:Bool) (w:World) (mV:Kd.C qx w eH aG.length aG) (mQ:aG.length≤dI) (ahd:Kd.C qx w XC jg.length jg) (ahb:jg.length≤Kt) (h:aU.f k aY bF bn aG qW qX qY jg=some r),
  fC 40 #[.agg #[.int .u8 aY,.int .u64 bF,.string bn,.slice eH aG.length dI],.agg #[.int .u8 qW,.int .u64 qX,.string qY,.slice XC jg.length Kt]] w (.bool r):=by
 induction k using Nat.strongRecOn with
 | _ k ih =>
 intro aY bF bn eH dI aG qW qX qY XC Kt jg r w mV mQ ahd ahb h
 cases k with
 |zero=>exact absurd h (by simp[aU.f])
 |succ k =>
 simp only[aU.f]at h
 have OZ:=underlying32
 have qh:=aj.mk mV
 have IG:=aj.mk mQ
 have akD:=aj.mk ahd
 have arM:=aj.mk ahb
 have HB:=aj.mk (jM w)
 have H:(if aY=qW then(if bF=qX then(if bn.toList=qY.toList then(aU.j0 k ((aG.length:Int) != (jg.length:Int)) aY bF bn aG qW qX qY jg)else(aU.j0 k true aY bF bn aG qW qX qY jg))else(aU.j0 k true aY bF bn aG qW qX qY jg))else(aU.j0 k true aY bF bn aG qW qX qY jg))=some r:=h
 have HC3:=aj.mk H
 go_enter func40,ntmps40
 go_upto_region 1 with (first|((with_reducible refine gI (N:=2) rfl ?_);(try (refine yY (by rfl) ?_;dsimp only));refine NS (N:=2) (cs:=#[.int .u8 aY,.int .u64 bF,.string bn,.slice eH aG.length dI]) (t:=32) ?_;intro rC hg w4 hbox hb;have HB:=aj.mk (bT ab hb);have kH:=aj.mk (hbox);have arB:aj (w.heap.size≤rC):=sz hg;have arh:aj (w.heap.size≤rC):=sz hg;clear hb hbox hg)|((with_reducible refine gI (N:=3) rfl ?_);(try (refine yY (by rfl) ?_;dsimp only));refine NS (N:=3) (cs:=#[.int .u8 qW,.int .u64 qX,.string qY,.slice XC jg.length Kt]) (t:=32) ?_;intro vX hg w5 hbox hb;have kH:=aj.mk (bM (g:=rC) (o:=.cells #[.int .u8 aY,.int .u64 bF,.string bn,.slice eH aG.length dI] 32 (0,0)) bk hb);have HB:=aj.mk (bT ab hb);have kX:=aj.mk (hbox);have arC:aj (w.heap.size≤vX):=sz hg;have ari:aj (w.heap.size≤vX):=sz hg;have um:=aj.mk ((by rw[hg];exact Nat.ne_of_lt (eP (g:=rC) (o:=.cells #[.int .u8 aY,.int .u64 bF,.string bn,.slice eH aG.length dI] 32 (0,0)) bk):rC≠vX));have uo:=aj.mk ((by rw[hg];exact Nat.ne_of_gt (eP (g:=rC) (o:=.cells #[.int .u8 aY,.int .u64 bF,.string bn,.slice eH aG.length dI] 32 (0,0)) bk):vX≠rC));clear hb hbox hg))
 (try simp only[Act.put,List.setIfInBounds_toArray,List.set_cons_zero,List.set_cons_succ])
 go_cut [33] (fun v33 wc=>∃(kq:Nat) (adH:Bool),v33=.bool adH∧aj (aU.j0 kq adH aY bF bn aG qW qX qY jg=some r)∧aj (kq≤k)∧aj (wc.heap[rC]?=some (.cells #[.int .u8 aY,.int .u64 bF,.string bn,(.slice eH aG.length dI)] 32 (0,0)))∧aj (wc.heap[vX]?=some (.cells #[.int .u8 qW,.int .u64 qX,.string qY,(.slice XC jg.length Kt)] 32 (0,0)))∧aj (Below w.heap.size w wc))
 case first =>
  have H:=HC3.o
  replace H:=de H;obtain⟨tC,FC,H⟩|⟨tC,FC,c6,H⟩:=H
  ·(first|rw[tC]|(simp only[gZ,iK];rw[tC])|skip)
   replace H:=de H;obtain⟨Kv,Rt,H⟩|⟨Kv,Rt,c7,H⟩:=H
   ·replace H:=de H;obtain⟨Oy,aay,H⟩|⟨Oy,aay,c8,H⟩:=H
    ·have H':=aj.mk H
     have atJ:=um.o
     have atN:=uo.o
     obtain⟨aeK,aeL,aeM,aeN,ae4,ae5,ae6,ae7⟩:=CU kH.o
     obtain⟨aeO,aeP,aeQ,aeR,ae8,ae9,afa,afb⟩:=CU kX.o
     go_wp2
     go_meet
     case rel=>exact⟨_,(((aG.length:Int) != (jg.length:Int))),rf,H',⟨by first|omega|exact bW⟩,⟨bk⟩,⟨bk⟩,⟨ab⟩⟩
    ·have H':=aj.mk H
     have asA:=um.o
     have asO:=uo.o
     obtain⟨amY,amZ,am0,am1,anS,anT,anU,anV⟩:=CU kH.o
     obtain⟨KQ,KU,KW,KY,KZ,K_,La,Lc⟩:=CU kX.o
     go_wp2
     go_meet
     case rel=>exact⟨_,(true),rf,H',⟨by first|omega|exact bW⟩,⟨bk⟩,⟨bk⟩,⟨ab⟩⟩
   ·have H':=aj.mk H
    have asB:=um.o
    have asP:=uo.o
    obtain⟨Va,Vb,Vd,Ve,Vq,Vr,Vs,Vt⟩:=CU kH.o
    obtain⟨aeW,aeX,aeY,aeZ,afg,afh,afi,afj⟩:=CU kX.o
    go_wp2
    go_meet
    case rel=>exact⟨_,(true),rf,H',⟨by first|omega|exact bW⟩,⟨bk⟩,⟨bk⟩,⟨ab⟩⟩
  ·(first|rw[tC]|(simp only[gZ,iK];rw[tC])|skip)
   have H':=aj.mk H
   have al8:=um.o
   have amb:=uo.o
   obtain⟨am3,am4,am5,am6,anX,anY,anZ,an0⟩:=CU kH.o
   obtain⟨Vk,Vl,Vm,Vo,Vz,VB,VE,VF⟩:=CU kX.o
   go_wp2
   go_meet
   case rel=>exact⟨_,(true),rf,H',⟨by first|omega|exact bW⟩,⟨bk⟩,⟨bk⟩,⟨ab⟩⟩
 case rest =>
  obtain⟨kq,adH,rfl,HA,HJ2,kH,kX,HB⟩:=hcut
  cases kq with
  |zero=>exact absurd HA.o (by simp[aU.j0])
  |succ kj2 =>
   have H:=HA.o
   simp only[aU.j0]at H
   replace H:=db H;obtain⟨rfl,H⟩|⟨rfl,H⟩:=H
   ·obtain rfl:=dU H
    go_wp2
    go_ret
    exact⟨re,ab⟩
   ·have H':=aj.mk H
    have asE:=um.o
    have asT:=uo.o
    obtain⟨anb,anc,ane,anf,an5,an6,an7,an8⟩:=CU kH.o
    go_wp2
    go_loopg [37] kj2 (fun kq v37 w'=>∃(dW:Int),v37=.int .i64 dW∧aj (aU.l0 kq (aG.length:Int) dW aY bF bn aG qW qX qY jg=some r)∧aj (kq≤kj2)∧aj (w'.heap[rC]?=some (.cells #[.int .u8 aY,.int .u64 bF,.string bn,(.slice eH aG.length dI)] 32 (0,0)))∧aj (w'.heap[vX]?=some (.cells #[.int .u8 qW,.int .u64 qX,.string qY,(.slice XC jg.length Kt)] 32 (0,0)))∧aj (Below w.heap.size w w'))
    case atStart=>exact⟨(0),rf,H',⟨bW⟩,⟨bk⟩,⟨bk⟩,⟨ab⟩⟩
    case round =>
     obtain⟨dW,rfl,HA,uT,kH,kX,HB⟩:=hrel
     cases gk with
     |zero=>exact absurd HA.o (by simp[aU.l0])
     |succ k2 =>
      have H:=HA.o
      simp only[aU.l0]at H
      replace H:=di H;obtain⟨ag2,H⟩|⟨ag2,H⟩:=H
      ·replace H:=dn H;obtain⟨arX,-,H⟩:=H
       replace H:=dn H;obtain⟨Ja,-,H⟩:=H
       replace H:=dn H;obtain⟨ak6,-,H⟩:=H
       replace H:=Option.bind_eq_some_iff.mp H
       obtain⟨t190,apn,H⟩:=H
       replace H:(if t190=true then(aU.l0 k2 (aG.length:Int) (wrap64 (dW+1)) aY bF bn aG qW qX qY jg)else(some false))=some r:=H
       have A28:=aj.mk apn
       have H9:=aj.mk H;clear H
       try go_wp2
       have kH:=aj.mk (jk kH.o)
       have kX:=aj.mk (jk kX.o)
       have HB:=aj.mk (nK HB.o)
       have ajf:0≤(dW:Int):=od
       have aju:dW<(aG.length:Int):=od
       obtain⟨yH,Qx,Ri,ap2,Ag,Ah,Ai,Aj,afz,afo⟩:=mD qh.o dW ajf aju
       have Ls:=Aj
       have Lr:=Ai
       have Lm:=Ah
       have Ll:=Ag
       cases ap2
       replace Ag:=up HB.o Ag
       replace Ah:=up HB.o Ah
       replace Ai:=up HB.o Ai
       replace Aj:=up HB.o Aj
       have Es:=aj.mk afo
       have Us:=aj.mk afz
       replace ajf:=eq_true ajf
       replace aju:=eq_true aju
       have ajg:0≤(dW:Int):=od
       have ajv:dW<(jg.length:Int):=od
       obtain⟨yI,Qy,Rj,e189,Ak,Am,Ap,Aq,afA,afp⟩:=mD akD.o dW ajg ajv
       have LQ:=Aq
       have LJ:=Ap
       have LH:=Am
       have Lu:=Ak
       cases e189
       replace Ak:=up HB.o Ak
       replace Am:=up HB.o Am
       replace Ap:=up HB.o Ap
       replace Aq:=up HB.o Aq
       have Et:=aj.mk afp
       have Ut:=aj.mk afA
       replace ajg:=eq_true ajg
       replace ajv:=eq_true ajv
       refine G8 (n:=12) (S:=fun w'=>w'.cell? ⟨rC,0,none⟩=some (.int .u8 aY)∧w'.cell? ⟨rC,1,none⟩=some (.int .u64 bF)∧w'.cell? ⟨rC,2,none⟩=some (.string bn)∧w'.cell? ⟨rC,3,none⟩=some (.slice (some yH) aG.length dI)∧w'.cell? ⟨vX,0,none⟩=some (.int .u8 qW)∧w'.cell? ⟨vX,1,none⟩=some (.int .u64 qX)∧w'.cell? ⟨vX,2,none⟩=some (.string qY)∧w'.cell? ⟨vX,3,none⟩=some (.slice (some yI) jg.length Kt)∧w'.cell? (yH.add ((dW).toNat*4))=some (.int .u8 ((aA aG dW).f0))∧w'.cell? ⟨(yH.add ((dW).toNat*4)).block,(yH.add ((dW).toNat*4)).off+1,none⟩=some (.int .u64 ((aA aG dW).f1))∧w'.cell? ⟨(yH.add ((dW).toNat*4)).block,(yH.add ((dW).toNat*4)).off+2,none⟩=some (.string ((aA aG dW).f2))∧w'.cell? ⟨(yH.add ((dW).toNat*4)).block,(yH.add ((dW).toNat*4)).off+3,none⟩=some (.slice Qx ((aA aG dW).f3).length Ri)∧w'.cell? (yI.add ((dW).toNat*4))=some (.int .u8 ((aA jg dW).f0))∧w'.cell? ⟨(yI.add ((dW).toNat*4)).block,(yI.add ((dW).toNat*4)).off+1,none⟩=some (.int .u64 ((aA jg dW).f1))∧w'.cell? ⟨(yI.add ((dW).toNat*4)).block,(yI.add ((dW).toNat*4)).off+2,none⟩=some (.string ((aA jg dW).f2))∧w'.cell? ⟨(yI.add ((dW).toNat*4)).block,(yI.add ((dW).toNat*4)).off+3,none⟩=some (.slice Qy ((aA jg dW).f3).length Rj)) (ds:=[]) #[false,false,false,false,false,false,false,false,false,false,false,false] (by kernel_rfl) rfl rfl ⟨(aC kH.o 0).trans rfl,(aC kH.o 1).trans rfl,(aC kH.o 2).trans rfl,(aC kH.o 3).trans rfl,(aC kX.o 0).trans rfl,(aC kX.o 1).trans rfl,(aC kX.o 2).trans rfl,(aC kX.o 3).trans rfl,(up HB.o Ll),(up HB.o Lm),(up HB.o Lr),(up HB.o Ls),(up HB.o Lu),(up HB.o LH),(up HB.o LJ),(up HB.o LQ)⟩ (fun hHeld=>?_)
       have H:=H9.o;clear H9;replace H:=db H;obtain⟨rfl,H⟩|⟨rfl,H⟩:=H
       ·have H':=aj.mk H
        generalize wr.drew=w30 at kH kX HB Es Et Ag Ah Ai Aj Ak Am Ap Aq hHeld ⊢
        refine pk 0 ?_
        refine pk 2 ?_
        refine pk 5 ?_
        refine pk 7 ?_
        refine tk 1 ?_
        refine pk 3 ?_
        refine tk 4 ?_
        refine tk 6 ?_
        refine pk 8 ?_
        refine tk 9 ?_
        refine on 10 fun K hK=>?_
        refine DZ func40 (by kernel_rfl) rfl #[.agg #[.int .u8 ((aA aG dW).f0),.int .u64 ((aA aG dW).f1),.string ((aA aG dW).f2),.slice Qx ((aA aG dW).f3).length Ri],.agg #[.int .u8 ((aA jg dW).f0),.int .u64 ((aA jg dW).f1),.string ((aA jg dW).f2),.slice Qy ((aA jg dW).f3).length Rj]] (by rfl) rfl rfl mt ?_
        with_reducible refine(ih k2 (by have:=HJ2.o;have:=uT.o;omega) ((aA aG dW).f0) ((aA aG dW).f1) ((aA aG dW).f2) _ _ ((aA aG dW).f3) ((aA jg dW).f0) ((aA jg dW).f1) ((aA jg dW).f2) _ _ ((aA jg dW).f3) true _ ?jK ?jL ?GX ?GY A28.o).mono ?_
        (case jK=>repeat (first|exact(Kd.bQ Es.o HB.o)|(with_reducible refine Kd.jE ?_ _)|(with_reducible refine Kd.kY ?_ _)|(with_reducible refine Kd.n_ ?_)))
        (case jL=>exact Us.o)
        (case GX=>repeat (first|exact(Kd.bQ Et.o HB.o)|(with_reducible refine Kd.jE ?_ _)|(with_reducible refine Kd.kY ?_ _)|(with_reducible refine Kd.n_ ?_)))
        (case GY=>exact Ut.o)
        rintro e w31 ⟨rfl,hb⟩
        refine⟨_,rfl,?_⟩
        have kH:=aj.mk (bM (g:=rC) (o:=.cells #[.int .u8 aY,.int .u64 bF,.string bn,.slice (some yH) aG.length dI] 32 (0,0)) bk hb)
        have kX:=aj.mk (bM (g:=vX) (o:=.cells #[.int .u8 qW,.int .u64 qX,.string qY,.slice (some yI) jg.length Kt] 32 (0,0)) bk hb)
        have HB:=aj.mk (bT ab hb)
        refine hK.o _ _ ⟨(aC kH.o 0).trans rfl,(aC kH.o 1).trans rfl,(aC kH.o 2).trans rfl,(aC kH.o 3).trans rfl,(aC kX.o 0).trans rfl,(aC kX.o 1).trans rfl,(aC kX.o 2).trans rfl,(aC kX.o 3).trans rfl,(up HB.o Ll),(up HB.o Lm),(up HB.o Lr),(up HB.o Ls),(up HB.o Lu),(up HB.o LH),(up HB.o LJ),(up HB.o LQ)⟩ (fun hHeld=>?_)
        refine qm (a':=?_) ?_ ?_
        rotate_left
        ·show Act.put _ (some 50) _=_
         simp only[Act.put,List.setIfInBounds_toArray,List.set_cons_zero,List.set_cons_succ,gZ,iK]
         rfl
        refine pk 11 ?_
        refine FX (by kernel_rfl) ?_
        try go_wp2
        go_roundg k2
        case measure=>have:=HJ2.o;have:=uT.o;omega
        case rel=>exact⟨(wrap64 (dW+1)),rf,H',⟨by have:=HJ2.o;have:=uT.o;omega⟩,⟨bk⟩,⟨bk⟩,⟨ab⟩⟩
       ·obtain rfl:=dU H
        generalize wr.drew=w32 at kH kX HB Es Et Ag Ah Ai Aj Ak Am Ap Aq hHeld ⊢
        refine pk 0 ?_
        refine pk 2 ?_
        refine pk 5 ?_
        refine pk 7 ?_
        refine tk 1 ?_
        refine pk 3 ?_
        refine tk 4 ?_
        refine tk 6 ?_
        refine pk 8 ?_
        refine tk 9 ?_
        refine on 10 fun K hK=>?_
        refine DZ func40 (by kernel_rfl) rfl #[.agg #[.int .u8 ((aA aG dW).f0),.int .u64 ((aA aG dW).f1),.string ((aA aG dW).f2),.slice Qx ((aA aG dW).f3).length Ri],.agg #[.int .u8 ((aA jg dW).f0),.int .u64 ((aA jg dW).f1),.string ((aA jg dW).f2),.slice Qy ((aA jg dW).f3).length Rj]] (by rfl) rfl rfl mt ?_
        with_reducible refine(ih k2 (by have:=HJ2.o;have:=uT.o;omega) ((aA aG dW).f0) ((aA aG dW).f1) ((aA aG dW).f2) _ _ ((aA aG dW).f3) ((aA jg dW).f0) ((aA jg dW).f1) ((aA jg dW).f2) _ _ ((aA jg dW).f3) false _ ?jK ?jL ?GX ?GY A28.o).mono ?_
        (case jK=>repeat (first|exact(Kd.bQ Es.o HB.o)|(with_reducible refine Kd.jE ?_ _)|(with_reducible refine Kd.kY ?_ _)|(with_reducible refine Kd.n_ ?_)))
        (case jL=>exact Us.o)
        (case GX=>repeat (first|exact(Kd.bQ Et.o HB.o)|(with_reducible refine Kd.jE ?_ _)|(with_reducible refine Kd.kY ?_ _)|(with_reducible refine Kd.n_ ?_)))
        (case GY=>exact Ut.o)
        rintro e w33 ⟨rfl,hb⟩
        refine⟨_,rfl,?_⟩
        have kH:=aj.mk (bM (g:=rC) (o:=.cells #[.int .u8 aY,.int .u64 bF,.string bn,.slice (some yH) aG.length dI] 32 (0,0)) bk hb)
        have kX:=aj.mk (bM (g:=vX) (o:=.cells #[.int .u8 qW,.int .u64 qX,.string qY,.slice (some yI) jg.length Kt] 32 (0,0)) bk hb)
        have HB:=aj.mk (bT ab hb)
        refine hK.o _ _ ⟨(aC kH.o 0).trans rfl,(aC kH.o 1).trans rfl,(aC kH.o 2).trans rfl,(aC kH.o 3).trans rfl,(aC kX.o 0).trans rfl,(aC kX.o 1).trans rfl,(aC kX.o 2).trans rfl,(aC kX.o 3).trans rfl,(up HB.o Ll),(up HB.o Lm),(up HB.o Lr),(up HB.o Ls),(up HB.o Lu),(up HB.o LH),(up HB.o LJ),(up HB.o LQ)⟩ (fun hHeld=>?_)
        refine qm (a':=?_) ?_ ?_
        rotate_left
        ·show Act.put _ (some 50) _=_
         simp only[Act.put,List.setIfInBounds_toArray,List.set_cons_zero,List.set_cons_succ,gZ,iK]
         rfl
        refine pk 11 ?_
        refine FX (by kernel_rfl) ?_
        try go_wp2
        go_ret
        exact⟨re,ab⟩
      ·obtain rfl:=dU H
       go_wp2
       go_ret
       exact⟨re,ab⟩
end
section
attribute [local go_sem] mW qc
mutual
def aJ.l0:Nat→Int→Int→Int→Int→bG→List (dS)→Option (Bool)
 |0,_,_,_,_,_,_=>none
 |k+1,x7,x8,qL,sZ,tq,fU=>if x8<x7 then(if 0≤x8 then(if x8<(fU.length:Int)then((aJ.f k ((aA fU x8).f0) ((aA fU x8).f1) ((aA fU x8).f2) ((aA fU x8).f3)).bind fun t193=>(if t193=true then(aJ.l1 k x8 0 x7 x8 qL sZ tq fU)else(some false)))else(none))else(none))else(some true)
def aJ.l1:Nat→Int→Int→Int→Int→Int→Int→bG→List (dS)→Option (Bool)
 |0,_,_,_,_,_,_,_,_=>none
 |k+1,x3,x4,x7,x8,qL,sZ,tq,fU=>if x4<x3 then(if qL=97 then(if 0≤x3 then(if x3<(fU.length:Int)then(aJ.j2 k x3 x4 x7 x8 (((aA fU x3).f0)==123) qL sZ tq fU)else(none))else(none))else(aJ.j2 k x3 x4 x7 x8 false qL sZ tq fU))else(aJ.j2 k x3 x4 x7 x8 false qL sZ tq fU)
def aJ.j2:Nat→Int→Int→Int→Int→Bool→Int→Int→bG→List (dS)→Option (Bool)
 |0,_,_,_,_,_,_,_,_,_=>none
 |k+1,x3,x4,x7,x8,x34,qL,sZ,tq,fU=>if x34=true then(if 0≤x4 then(if x4<(fU.length:Int)then(if 0<(((aA fU x4).f3).length:Int)then(if 0≤x3 then(if x3<(fU.length:Int)then(if 0<(((aA fU x3).f3).length:Int)then((aU.f k ((aA ((aA fU x4).f3) 0).f0) ((aA ((aA fU x4).f3) 0).f1) ((aA ((aA fU x4).f3) 0).f2) ((aA ((aA fU x4).f3) 0).f3) ((aA ((aA fU x3).f3) 0).f0) ((aA ((aA fU x3).f3) 0).f1) ((aA ((aA fU x3).f3) 0).f2) ((aA ((aA fU x3).f3) 0).f3)).bind fun t199=>(if t199=true then(some false)else(aJ.l1 k x3 (wrap64 (x4+1)) x7 x8 qL sZ tq fU)))else(none))else(none))else(none))else(none))else(none))else(none))else(aJ.l0 k x7 (wrap64 (x8+1)) qL sZ tq fU)
def aJ.f:Nat→Int→Int→bG→List (dS)→Option (Bool)
 |0,_,_,_,_=>none
 |k+1,aY,bF,bn,aG=>aJ.l0 k (aG.length:Int) 0 aY bF bn aG
end
theorem aJ.dZ:∀k,(∀y0 y1 y2 y3,fE (aJ.f k y0 y1 y2 y3) (aJ.f (k+1) y0 y1 y2 y3))∧(∀y0 y1 y2 y3 y4 y5,fE (aJ.l0 k y0 y1 y2 y3 y4 y5) (aJ.l0 (k+1) y0 y1 y2 y3 y4 y5))∧(∀y0 y1 y2 y3 y4 y5 y6 y7,fE (aJ.l1 k y0 y1 y2 y3 y4 y5 y6 y7) (aJ.l1 (k+1) y0 y1 y2 y3 y4 y5 y6 y7))∧(∀y0 y1 y2 y3 y4 y5 y6 y7 y8,fE (aJ.j2 k y0 y1 y2 y3 y4 y5 y6 y7 y8) (aJ.j2 (k+1) y0 y1 y2 y3 y4 y5 y6 y7 y8))
 |0=>by refine⟨?_,?_,?_,?_⟩<;>(intros;intro r h;simp[aJ.f,aJ.l0,aJ.l1,aJ.j2]at h)
 |k+1=>by
  obtain⟨pO,ih1,ih2,ih3⟩:=aJ.dZ k
  refine⟨?_,?_,?_,?_⟩
  all_goals
   intros
   first|unfold aJ.f|unfold aJ.l0|unfold aJ.l1|unfold aJ.j2
   repeat' first|(with_reducible first|exact fE.refl _|exact fE.none _|refine fE.ite ?_ ?_|refine fE.bind ?_ (fun _=>?_)|apply pO|apply ih1|apply ih2|apply ih3|apply aU.mono)|apply pO|apply ih1|apply ih2|apply ih3|apply aU.mono|refine fE.ite ?_ ?_|refine fE.bind ?_ (fun _=>?_)
theorem aJ.mono:∀a0 a1 a2 a3 k,fE (aJ.f k a0 a1 a2 a3) (aJ.f (k+1) a0 a1 a2 a3):=by
 intro a0 a1 a2 a3 k
 obtain⟨pO,ih1,ih2,ih3⟩:=aJ.dZ k
 exact pO a0 a1 a2 a3
theorem aJ.calls (k:Nat):∀(aY:Int) (bF:Int) (bn:bG) (eH:Option Addr) (dI:Nat) (aG:List (dS)) (r:Bool) (w:World) (mV:Kd.C qx w eH aG.length aG) (mQ:aG.length≤dI) (h:aJ.f k aY bF bn aG=some r),
  fC 24 #[.agg #[.int .u8 aY,.int .u64 bF,.string bn,.slice eH aG.length dI]] w (.bool r):=by
 induction k using Nat.strongRecOn with
 | _ k ih =>
 intro aY bF bn eH dI aG r w mV mQ h
 cases k with
 |zero=>exact absurd h (by simp[aJ.f])
 |succ k =>
 simp only[aJ.f]at h
 have OZ:=underlying32
 have qh:=aj.mk mV
 have IG:=aj.mk mQ
 have HB:=aj.mk (jM w)
 have H:(aJ.l0 k (aG.length:Int) 0 aY bF bn aG)=some r:=h
 have H':=aj.mk H
 go_enter func24,ntmps24
 go_wp2_with ((with_reducible refine gI (N:=1) rfl ?_);refine NS (N:=1) (cs:=#[.int .u8 aY,.int .u64 bF,.string bn,.slice eH aG.length dI]) (t:=32) ?_;intro qj hg w2 hbox hb;have HB:=aj.mk (bT ab hb);have iO:=aj.mk (hbox);have arD:aj (w.heap.size≤qj):=sz hg;have arj:aj (w.heap.size≤qj):=sz hg;clear hb hbox hg;have ail:w2.cell? ⟨qj,0,none⟩=some (.int .u8 aY):=(aC iO.o 0).trans rfl;have ain:w2.cell? ⟨qj,1,none⟩=some (.int .u64 bF):=(aC iO.o 1).trans rfl;have aio:w2.cell? ⟨qj,2,none⟩=some (.string bn):=(aC iO.o 2).trans rfl;have aip:w2.cell? ⟨qj,3,none⟩=some (.slice eH aG.length dI):=(aC iO.o 3).trans rfl;have aiB:=aK iO.o 0;have aiC:=aK iO.o 1;have aiD:=aK iO.o 2;have aiE:=aK iO.o 3)
 go_loopg [8] k (fun kq v8 w'=>∃(b_:Int),v8=.int .i64 b_∧aj (aJ.l0 kq (aG.length:Int) b_ aY bF bn aG=some r)∧aj (kq≤k)∧aj (w'.heap[qj]?=some (.cells #[.int .u8 aY,.int .u64 bF,.string bn,(.slice eH aG.length dI)] 32 (0,0)))∧aj (Below w.heap.size w w'))
 case atStart=>exact⟨(0),rf,H',⟨bW⟩,⟨bk⟩,⟨ab⟩⟩
 case round =>
  obtain⟨b_,rfl,HA,pX,iO,HB⟩:=hrel
  cases gk with
  |zero=>exact absurd HA.o (by simp[aJ.l0])
  |succ k1 =>
   have H:=HA.o
   simp only[aJ.l0]at H
   replace H:=di H;obtain⟨u_,H⟩|⟨u_,H⟩:=H
   ·replace H:=dn H;obtain⟨Ku,-,H⟩:=H
    replace H:=dn H;obtain⟨tC,-,H⟩:=H
    replace H:=Option.bind_eq_some_iff.mp H
    obtain⟨t193,A70,H⟩:=H
    replace H:(if t193=true then(aJ.l1 k1 b_ 0 (aG.length:Int) b_ aY bF bn aG)else(some false))=some r:=H
    have A7:=aj.mk A70
    replace H:=db H;obtain⟨rfl,H⟩|⟨rfl,H⟩:=H
    ·have H':=aj.mk H
     obtain⟨aiu,aiv,aiw,aix,aiJ,aiK,aiL,aiM⟩:=CU iO.o
     have TN:0≤(b_:Int):=od
     have TR:b_<(aG.length:Int):=od
     obtain⟨kU,Qz,Rk,ah3,Ar,Au,Aw,Az,Le,Ld⟩:=mD qh.o b_ TN TR
     cases ah3
     replace Ar:=up HB.o Ar
     replace Au:=up HB.o Au
     replace Aw:=up HB.o Aw
     replace Az:=up HB.o Az
     have J4:=aj.mk Ld
     have JX:=aj.mk Le
     replace TN:=eq_true TN
     replace TR:=eq_true TR
     go_wp2_with ((with_reducible refine dG (f:=24) rfl ?_);refine iU (some 16) rfl rfl func24 (by kernel_rfl) rfl #[.agg #[.int .u8 ((aA aG b_).f0),.int .u64 ((aA aG b_).f1),.string ((aA aG b_).f2),.slice Qz ((aA aG b_).f3).length Rk]] rfl mt ?_;(with_reducible refine(ih k1 (by have:=pX.o;omega) ((aA aG b_).f0) ((aA aG b_).f1) ((aA aG b_).f2) _ _ ((aA aG b_).f3) true _ ?jK ?jL A7.o).mono ?_);(case jK=>repeat (first|exact(Kd.bQ J4.o HB.o)|(with_reducible refine Kd.jE ?_ _)|(with_reducible refine Kd.kY ?_ _)|(with_reducible refine Kd.n_ ?_)));(case jL=>exact JX.o);rintro e w10 ⟨rfl,hb⟩;refine⟨_,rfl,?_⟩;have iO:=aj.mk (bM (g:=qj) (o:=.cells #[.int .u8 aY,.int .u64 bF,.string bn,.slice (some kU) aG.length dI] 32 (0,0)) bk hb);have HB:=aj.mk (bT ab hb))
     go_loopg [4] k1 (fun kq v4 w'=>∃(gW:Int),v4=.int .i64 gW∧aj (aJ.l1 kq b_ gW (aG.length:Int) b_ aY bF bn aG=some r)∧aj (kq≤k1)∧aj (w'.heap[qj]?=some (.cells #[.int .u8 aY,.int .u64 bF,.string bn,(.slice (some kU) aG.length dI)] 32 (0,0)))∧aj (Below w.heap.size w w'))
     case atStart=>exact⟨(0),rf,H',⟨bW⟩,⟨bk⟩,⟨ab⟩⟩
     case round =>
      obtain⟨gW,rfl,HA,uT,iO,HB⟩:=hrel
      cases gk with
      |zero=>exact absurd HA.o (by simp[aJ.l1])
      |succ k2 =>
       have H:=HA.o
       simp only[aJ.l1]at H
       have ahv:=aj.mk H
       go_upto_region 7 with (fail)
       go_cut [34] (fun v34 wc=>∃(kq:Nat) (Uk:Bool),v34=.bool Uk∧aj (aJ.j2 kq b_ gW (aG.length:Int) b_ Uk aY bF bn aG=some r)∧aj (kq≤k2)∧aj (wc.heap[qj]?=some (.cells #[.int .u8 aY,.int .u64 bF,.string bn,(.slice (some kU) aG.length dI)] 32 (0,0)))∧aj (Below w.heap.size w wc))
       case first =>
        have H:=ahv.o
        replace H:=di H;obtain⟨wL,H⟩|⟨wL,H⟩:=H
        ·(first|rw[wL]|(simp only[gZ,iK];rw[wL])|skip)
         replace H:=de H;obtain⟨uw,Fq,H⟩|⟨uw,Fq,c13,H⟩:=H
         ·replace H:=dn H;obtain⟨aau,-,H⟩:=H
          replace H:=dn H;obtain⟨agY,-,H⟩:=H
          have H':=aj.mk H
          obtain⟨Va,Vb,Vd,Ve,Vq,Vr,Vs,Vt⟩:=CU iO.o
          have ajh:0≤(b_:Int):=od
          have ajw:b_<(aG.length:Int):=od
          obtain⟨akQ,apj,apS,ap3,Wj,Wn,Wp,Wq,afB,afq⟩:=mD qh.o b_ ajh ajw
          obtain rfl:kU=akQ:=(by injection ap3)
          replace Wj:=up HB.o Wj
          replace Wn:=up HB.o Wn
          replace Wp:=up HB.o Wp
          replace Wq:=up HB.o Wq
          have amX:=aj.mk afq
          have amU:=aj.mk afB
          replace ajh:=eq_true ajh
          replace ajw:=eq_true ajw
          go_wp2
          go_meet
          case rel=>exact⟨_,((((aA aG b_).f0)==123)),rf,H',⟨by have:=pX.o;have:=uT.o;first|omega|exact bW⟩,⟨bk⟩,⟨ab⟩⟩
         ·have H':=aj.mk H
          obtain⟨aeW,aeX,aeY,aeZ,afg,afh,afi,afj⟩:=CU iO.o
          go_wp2
          go_meet
          case rel=>exact⟨_,(false),rf,H',⟨by have:=pX.o;have:=uT.o;first|omega|exact bW⟩,⟨bk⟩,⟨ab⟩⟩
        ·(first|rw[wL]|(simp only[gZ,iK];rw[wL])|skip)
         have H':=aj.mk H
         go_wp2
         go_meet
         case rel=>exact⟨_,(false),rf,H',⟨by have:=pX.o;have:=uT.o;first|omega|exact bW⟩,⟨bk⟩,⟨ab⟩⟩
       case rest =>
        obtain⟨kq,Uk,rfl,HA,N9,iO,HB⟩:=hcut
        cases kq with
        |zero=>exact absurd HA.o (by simp[aJ.j2])
        |succ MC =>
         have H:=HA.o
         simp only[aJ.j2]at H
         replace H:=db H;obtain⟨rfl,H⟩|⟨rfl,H⟩:=H
         ·replace H:=dn H;obtain⟨Fv,-,H⟩:=H
          replace H:=dn H;obtain⟨Ot,-,H⟩:=H
          replace H:=dn H;obtain⟨UM,c21,H⟩:=H
          have ag1:decide (0<((aA aG gW).f3).length)=true:=decide_eq_true (by omega)
          replace H:=dn H;obtain⟨ak3,-,H⟩:=H
          replace H:=dn H;obtain⟨ak4,-,H⟩:=H
          replace H:=dn H;obtain⟨ag2,c24,H⟩:=H
          have arW:decide (0<((aA aG b_).f3).length)=true:=decide_eq_true (by omega)
          replace H:=Option.bind_eq_some_iff.mp H
          obtain⟨t199,apm,H⟩:=H
          replace H:(if t199=true then(some false)else(aJ.l1 MC b_ (wrap64 (gW+1)) (aG.length:Int) b_ aY bF bn aG))=some r:=H
          have A25:=aj.mk apm
          have H9:=aj.mk H;clear H
          try go_wp2
          have iO:=aj.mk (jk iO.o)
          have HB:=aj.mk (nK HB.o)
          have aji:0≤(gW:Int):=od
          have ajx:gW<(aG.length:Int):=od
          obtain⟨akR,apk,ahP,e195,AA,AB,AO,AP,afC,afr⟩:=mD qh.o gW aji ajx
          have L6:=AP
          have LY:=AO
          have LV:=AB
          have LU:=AA
          obtain rfl:kU=akR:=(by injection e195)
          replace AA:=up HB.o AA
          replace AB:=up HB.o AB
          replace AO:=up HB.o AO
          replace AP:=up HB.o AP
          have J5:=aj.mk afr
          have amV:=aj.mk afC
          replace aji:=eq_true aji
          replace ajx:=eq_true ajx
          have ajj:0≤(0:Int):=(by omega)
          have ajy:0<(((aA aG gW).f3).length:Int):=od
          obtain⟨DN,QA,Rl,ap4,r_,su,sD,sF,afD,afs⟩:=mD J5.o 0 ajj ajy
          have xR:=sF
          (try rw[show ((0:Int)).toNat=0 from rfl]at xR)
          (try rw[show 0*4=0 from rfl]at xR)
          (try rw[Addr.add_zero']at xR)
          have xQ:=sD
          (try rw[show ((0:Int)).toNat=0 from rfl]at xQ)
          (try rw[show 0*4=0 from rfl]at xQ)
          (try rw[Addr.add_zero']at xQ)
          have xP:=su
          (try rw[show ((0:Int)).toNat=0 from rfl]at xP)
          (try rw[show 0*4=0 from rfl]at xP)
          (try rw[Addr.add_zero']at xP)
          have xO:=r_
          (try rw[show ((0:Int)).toNat=0 from rfl]at xO)
          (try rw[show 0*4=0 from rfl]at xO)
          (try rw[Addr.add_zero']at xO)
          cases ap4
          have ata:(0<((aA aG gW).f3).length)=True:=eq_true (by omega)
          (try rw[show ((0:Int)).toNat=0 from rfl]at r_)
          (try rw[show 0*4=0 from rfl]at r_)
          (try rw[Addr.add_zero']at r_)
          (try rw[show ((0:Int)).toNat=0 from rfl]at su)
          (try rw[show 0*4=0 from rfl]at su)
          (try rw[Addr.add_zero']at su)
          (try rw[show ((0:Int)).toNat=0 from rfl]at sD)
          (try rw[show 0*4=0 from rfl]at sD)
          (try rw[Addr.add_zero']at sD)
          (try rw[show ((0:Int)).toNat=0 from rfl]at sF)
          (try rw[show 0*4=0 from rfl]at sF)
          (try rw[Addr.add_zero']at sF)
          replace r_:=up HB.o r_
          replace su:=up HB.o su
          replace sD:=up HB.o sD
          replace sF:=up HB.o sF
          have Eu:=aj.mk afs
          have Uu:=aj.mk afD
          replace ajj:=eq_true ajj
          replace ajy:=eq_true ajy
          have ajk:0≤(b_:Int):=od
          have ajz:b_<(aG.length:Int):=od
          obtain⟨akS,apl,ahQ,e197,AQ,AU,AV,AX,afE,aft⟩:=mD qh.o b_ ajk ajz
          have Mc:=AX
          have L_:=AV
          have L9:=AU
          have L8:=AQ
          obtain rfl:kU=akS:=(by injection e197)
          replace AQ:=up HB.o AQ
          replace AU:=up HB.o AU
          replace AV:=up HB.o AV
          replace AX:=up HB.o AX
          have J6:=aj.mk aft
          have amW:=aj.mk afE
          replace ajk:=eq_true ajk
          replace ajz:=eq_true ajz
          have ajl:0≤(0:Int):=(by omega)
          have ajA:0<(((aA aG b_).f3).length:Int):=od
          obtain⟨DR,QB,Ro,ap5,sG,sH,sJ,sK,afF,afu⟩:=mD J6.o 0 ajl ajA
          have xY:=sK
          (try rw[show ((0:Int)).toNat=0 from rfl]at xY)
          (try rw[show 0*4=0 from rfl]at xY)
          (try rw[Addr.add_zero']at xY)
          have xX:=sJ
          (try rw[show ((0:Int)).toNat=0 from rfl]at xX)
          (try rw[show 0*4=0 from rfl]at xX)
          (try rw[Addr.add_zero']at xX)
          have xW:=sH
          (try rw[show ((0:Int)).toNat=0 from rfl]at xW)
          (try rw[show 0*4=0 from rfl]at xW)
          (try rw[Addr.add_zero']at xW)
          have xU:=sG
          (try rw[show ((0:Int)).toNat=0 from rfl]at xU)
          (try rw[show 0*4=0 from rfl]at xU)
          (try rw[Addr.add_zero']at xU)
          cases ap5
          have atb:(0<((aA aG b_).f3).length)=True:=eq_true (by omega)
          (try rw[show ((0:Int)).toNat=0 from rfl]at sG)
          (try rw[show 0*4=0 from rfl]at sG)
          (try rw[Addr.add_zero']at sG)
          (try rw[show ((0:Int)).toNat=0 from rfl]at sH)
          (try rw[show 0*4=0 from rfl]at sH)
          (try rw[Addr.add_zero']at sH)
          (try rw[show ((0:Int)).toNat=0 from rfl]at sJ)
          (try rw[show 0*4=0 from rfl]at sJ)
          (try rw[Addr.add_zero']at sJ)
          (try rw[show ((0:Int)).toNat=0 from rfl]at sK)
          (try rw[show 0*4=0 from rfl]at sK)
          (try rw[Addr.add_zero']at sK)
          replace sG:=up HB.o sG
          replace sH:=up HB.o sH
          replace sJ:=up HB.o sJ
          replace sK:=up HB.o sK
          have Ew:=aj.mk afu
          have Uw:=aj.mk afF
          replace ajl:=eq_true ajl
          replace ajA:=eq_true ajA
          refine G8 (n:=17) (S:=fun w'=>w'.cell? ⟨qj,0,none⟩=some (.int .u8 aY)∧w'.cell? ⟨qj,1,none⟩=some (.int .u64 bF)∧w'.cell? ⟨qj,2,none⟩=some (.string bn)∧w'.cell? ⟨qj,3,none⟩=some (.slice (some kU) aG.length dI)∧w'.cell? (kU.add ((gW).toNat*4))=some (.int .u8 ((aA aG gW).f0))∧w'.cell? ⟨(kU.add ((gW).toNat*4)).block,(kU.add ((gW).toNat*4)).off+1,none⟩=some (.int .u64 ((aA aG gW).f1))∧w'.cell? ⟨(kU.add ((gW).toNat*4)).block,(kU.add ((gW).toNat*4)).off+2,none⟩=some (.string ((aA aG gW).f2))∧w'.cell? ⟨(kU.add ((gW).toNat*4)).block,(kU.add ((gW).toNat*4)).off+3,none⟩=some (.slice (some DN) ((aA aG gW).f3).length ahP)∧w'.cell? DN=some (.int .u8 ((aA ((aA aG gW).f3) 0).f0))∧w'.cell? ⟨DN.block,DN.off+1,none⟩=some (.int .u64 ((aA ((aA aG gW).f3) 0).f1))∧w'.cell? ⟨DN.block,DN.off+2,none⟩=some (.string ((aA ((aA aG gW).f3) 0).f2))∧w'.cell? ⟨DN.block,DN.off+3,none⟩=some (.slice QA ((aA ((aA aG gW).f3) 0).f3).length Rl)∧w'.cell? (kU.add ((b_).toNat*4))=some (.int .u8 ((aA aG b_).f0))∧w'.cell? ⟨(kU.add ((b_).toNat*4)).block,(kU.add ((b_).toNat*4)).off+1,none⟩=some (.int .u64 ((aA aG b_).f1))∧w'.cell? ⟨(kU.add ((b_).toNat*4)).block,(kU.add ((b_).toNat*4)).off+2,none⟩=some (.string ((aA aG b_).f2))∧w'.cell? ⟨(kU.add ((b_).toNat*4)).block,(kU.add ((b_).toNat*4)).off+3,none⟩=some (.slice (some DR) ((aA aG b_).f3).length ahQ)∧w'.cell? DR=some (.int .u8 ((aA ((aA aG b_).f3) 0).f0))∧w'.cell? ⟨DR.block,DR.off+1,none⟩=some (.int .u64 ((aA ((aA aG b_).f3) 0).f1))∧w'.cell? ⟨DR.block,DR.off+2,none⟩=some (.string ((aA ((aA aG b_).f3) 0).f2))∧w'.cell? ⟨DR.block,DR.off+3,none⟩=some (.slice QB ((aA ((aA aG b_).f3) 0).f3).length Ro)) (ds:=[]) #[false,false,false,false,false,false,false,false,false,false,false,false,false,false,false,false,false] (by kernel_rfl) rfl rfl ⟨(aC iO.o 0).trans rfl,(aC iO.o 1).trans rfl,(aC iO.o 2).trans rfl,(aC iO.o 3).trans rfl,(up HB.o LU),(up HB.o LV),(up HB.o LY),(up HB.o L6),(up HB.o xO),(up HB.o xP),(up HB.o xQ),(up HB.o xR),(up HB.o L8),(up HB.o L9),(up HB.o L_),(up HB.o Mc),(up HB.o xU),(up HB.o xW),(up HB.o xX),(up HB.o xY)⟩ (fun hHeld=>?_)
          have H:=H9.o;clear H9;replace H:=db H;obtain⟨rfl,H⟩|⟨rfl,H⟩:=H
          ·obtain rfl:=dU H
           generalize wc.drew=w27 at iO HB J5 Eu J6 Ew AA AB AO AP r_ su sD sF AQ AU AV AX sG sH sJ sK hHeld ⊢
           refine pk 0 ?_
           refine pk 2 ?_
           refine pk 8 ?_
           refine pk 10 ?_
           refine tk 1 ?_
           refine pk 3 ?_
           refine pk 4 ?_
           refine tk 5 ?_
           refine pk 6 ?_
           refine tk 7 ?_
           refine tk 9 ?_
           refine pk 11 ?_
           refine pk 12 ?_
           refine tk 13 ?_
           refine pk 14 ?_
           refine tk 15 ?_
           refine on 16 fun K hK=>?_
           refine DZ func40 (by kernel_rfl) rfl #[.agg #[.int .u8 ((aA ((aA aG gW).f3) 0).f0),.int .u64 ((aA ((aA aG gW).f3) 0).f1),.string ((aA ((aA aG gW).f3) 0).f2),.slice QA ((aA ((aA aG gW).f3) 0).f3).length Rl],.agg #[.int .u8 ((aA ((aA aG b_).f3) 0).f0),.int .u64 ((aA ((aA aG b_).f3) 0).f1),.string ((aA ((aA aG b_).f3) 0).f2),.slice QB ((aA ((aA aG b_).f3) 0).f3).length Ro]] (by rfl) rfl rfl mt ?_
           with_reducible refine(aU.calls MC ((aA ((aA aG gW).f3) 0).f0) ((aA ((aA aG gW).f3) 0).f1) ((aA ((aA aG gW).f3) 0).f2) _ _ ((aA ((aA aG gW).f3) 0).f3) ((aA ((aA aG b_).f3) 0).f0) ((aA ((aA aG b_).f3) 0).f1) ((aA ((aA aG b_).f3) 0).f2) _ _ ((aA ((aA aG b_).f3) 0).f3) true _ ?jK ?jL ?GX ?GY A25.o).mono ?_
           (case jK=>repeat (first|exact(Kd.bQ Eu.o HB.o)|(with_reducible refine Kd.jE ?_ _)|(with_reducible refine Kd.kY ?_ _)|(with_reducible refine Kd.n_ ?_)))
           (case jL=>exact Uu.o)
           (case GX=>repeat (first|exact(Kd.bQ Ew.o HB.o)|(with_reducible refine Kd.jE ?_ _)|(with_reducible refine Kd.kY ?_ _)|(with_reducible refine Kd.n_ ?_)))
           (case GY=>exact Uw.o)
           rintro e w28 ⟨rfl,hb⟩
           refine⟨_,rfl,?_⟩
           have iO:=aj.mk (bM (g:=qj) (o:=.cells #[.int .u8 aY,.int .u64 bF,.string bn,.slice (some kU) aG.length dI] 32 (0,0)) bk hb)
           have HB:=aj.mk (bT ab hb)
           refine hK.o _ _ ⟨(aC iO.o 0).trans rfl,(aC iO.o 1).trans rfl,(aC iO.o 2).trans rfl,(aC iO.o 3).trans rfl,(up HB.o LU),(up HB.o LV),(up HB.o LY),(up HB.o L6),(up HB.o xO),(up HB.o xP),(up HB.o xQ),(up HB.o xR),(up HB.o L8),(up HB.o L9),(up HB.o L_),(up HB.o Mc),(up HB.o xU),(up HB.o xW),(up HB.o xX),(up HB.o xY)⟩ (fun hHeld=>?_)
           refine qm (a':=?_) ?_ ?_
           rotate_left
           ·show Act.put _ (some 53) _=_
            simp only[Act.put,List.setIfInBounds_toArray,List.set_cons_zero,List.set_cons_succ,gZ,iK]
            rfl
           refine FX (by kernel_rfl) ?_
           try go_wp2
           go_ret
           exact⟨re,ab⟩
          ·have H':=aj.mk H
           generalize wc.drew=w29 at iO HB J5 Eu J6 Ew AA AB AO AP r_ su sD sF AQ AU AV AX sG sH sJ sK hHeld ⊢
           refine pk 0 ?_
           refine pk 2 ?_
           refine pk 8 ?_
           refine pk 10 ?_
           refine tk 1 ?_
           refine pk 3 ?_
           refine pk 4 ?_
           refine tk 5 ?_
           refine pk 6 ?_
           refine tk 7 ?_
           refine tk 9 ?_
           refine pk 11 ?_
           refine pk 12 ?_
           refine tk 13 ?_
           refine pk 14 ?_
           refine tk 15 ?_
           refine on 16 fun K hK=>?_
           refine DZ func40 (by kernel_rfl) rfl #[.agg #[.int .u8 ((aA ((aA aG gW).f3) 0).f0),.int .u64 ((aA ((aA aG gW).f3) 0).f1),.string ((aA ((aA aG gW).f3) 0).f2),.slice QA ((aA ((aA aG gW).f3) 0).f3).length Rl],.agg #[.int .u8 ((aA ((aA aG b_).f3) 0).f0),.int .u64 ((aA ((aA aG b_).f3) 0).f1),.string ((aA ((aA aG b_).f3) 0).f2),.slice QB ((aA ((aA aG b_).f3) 0).f3).length Ro]] (by rfl) rfl rfl mt ?_
           with_reducible refine(aU.calls MC ((aA ((aA aG gW).f3) 0).f0) ((aA ((aA aG gW).f3) 0).f1) ((aA ((aA aG gW).f3) 0).f2) _ _ ((aA ((aA aG gW).f3) 0).f3) ((aA ((aA aG b_).f3) 0).f0) ((aA ((aA aG b_).f3) 0).f1) ((aA ((aA aG b_).f3) 0).f2) _ _ ((aA ((aA aG b_).f3) 0).f3) false _ ?jK ?jL ?GX ?GY A25.o).mono ?_
           (case jK=>repeat (first|exact(Kd.bQ Eu.o HB.o)|(with_reducible refine Kd.jE ?_ _)|(with_reducible refine Kd.kY ?_ _)|(with_reducible refine Kd.n_ ?_)))
           (case jL=>exact Uu.o)
           (case GX=>repeat (first|exact(Kd.bQ Ew.o HB.o)|(with_reducible refine Kd.jE ?_ _)|(with_reducible refine Kd.kY ?_ _)|(with_reducible refine Kd.n_ ?_)))
           (case GY=>exact Uw.o)
           rintro e w30 ⟨rfl,hb⟩
           refine⟨_,rfl,?_⟩
           have iO:=aj.mk (bM (g:=qj) (o:=.cells #[.int .u8 aY,.int .u64 bF,.string bn,.slice (some kU) aG.length dI] 32 (0,0)) bk hb)
           have HB:=aj.mk (bT ab hb)
           refine hK.o _ _ ⟨(aC iO.o 0).trans rfl,(aC iO.o 1).trans rfl,(aC iO.o 2).trans rfl,(aC iO.o 3).trans rfl,(up HB.o LU),(up HB.o LV),(up HB.o LY),(up HB.o L6),(up HB.o xO),(up HB.o xP),(up HB.o xQ),(up HB.o xR),(up HB.o L8),(up HB.o L9),(up HB.o L_),(up HB.o Mc),(up HB.o xU),(up HB.o xW),(up HB.o xX),(up HB.o xY)⟩ (fun hHeld=>?_)
           refine qm (a':=?_) ?_ ?_
           rotate_left
           ·show Act.put _ (some 53) _=_
            simp only[Act.put,List.setIfInBounds_toArray,List.set_cons_zero,List.set_cons_succ,gZ,iK]
            rfl
           refine FX (by kernel_rfl) ?_
           try go_wp2
           go_roundg MC
           case measure=>have:=pX.o;have:=uT.o;have:=N9.o;omega
           case rel=>exact⟨(wrap64 (gW+1)),rf,H',⟨by have:=pX.o;have:=uT.o;have:=N9.o;omega⟩,⟨bk⟩,⟨ab⟩⟩
         ·have H':=aj.mk H
          go_wp2
          go_roundg MC
          case measure=>have:=pX.o;have:=uT.o;have:=N9.o;omega
          case rel=>exact⟨(wrap64 (b_+1)),rf,H',⟨by have:=pX.o;have:=uT.o;have:=N9.o;omega⟩,⟨bk⟩,⟨ab⟩⟩
    ·obtain rfl:=dU H
     obtain⟨anA,anB,anC,anD,aoq,aor,aos,aot⟩:=CU iO.o
     have TN:0≤(b_:Int):=od
     have TR:b_<(aG.length:Int):=od
     obtain⟨kU,Qz,Rk,ah3,Ar,Au,Aw,Az,Le,Ld⟩:=mD qh.o b_ TN TR
     cases ah3
     replace Ar:=up HB.o Ar
     replace Au:=up HB.o Au
     replace Aw:=up HB.o Aw
     replace Az:=up HB.o Az
     have J4:=aj.mk Ld
     have JX:=aj.mk Le
     replace TN:=eq_true TN
     replace TR:=eq_true TR
     go_wp2_with ((with_reducible refine dG (f:=24) rfl ?_);refine iU (some 16) rfl rfl func24 (by kernel_rfl) rfl #[.agg #[.int .u8 ((aA aG b_).f0),.int .u64 ((aA aG b_).f1),.string ((aA aG b_).f2),.slice Qz ((aA aG b_).f3).length Rk]] rfl mt ?_;(with_reducible refine(ih k1 (by have:=pX.o;omega) ((aA aG b_).f0) ((aA aG b_).f1) ((aA aG b_).f2) _ _ ((aA aG b_).f3) false _ ?jK ?jL A7.o).mono ?_);(case jK=>repeat (first|exact(Kd.bQ J4.o HB.o)|(with_reducible refine Kd.jE ?_ _)|(with_reducible refine Kd.kY ?_ _)|(with_reducible refine Kd.n_ ?_)));(case jL=>exact JX.o);rintro e w32 ⟨rfl,hb⟩;refine⟨_,rfl,?_⟩;have iO:=aj.mk (bM (g:=qj) (o:=.cells #[.int .u8 aY,.int .u64 bF,.string bn,.slice (some kU) aG.length dI] 32 (0,0)) bk hb);have HB:=aj.mk (bT ab hb))
     go_ret
     exact⟨re,ab⟩
   ·obtain rfl:=dU H
    go_wp2
    go_ret
    exact⟨re,ab⟩
end
section
attribute [local go_sem] mW qc
mutual
def bV.l0:Nat→Int→List (dS)→Int→Int→Int→Int→bG→List (dS)→Option (Int)
 |0,_,_,_,_,_,_,_,_=>none
 |k+1,x3,x7,x8,x9,BK,agE,agF,agG=>if x9<x8 then(if 0≤x9 then(if x9<(x7.length:Int)then((bV.f k ((aA x7 x9).f0) ((aA x7 x9).f1) ((aA x7 x9).f2) ((aA x7 x9).f3)).bind fun t185=>(bV.l0 k (mx x3 t185) x7 x8 (wrap64 (x9+1)) BK agE agF agG))else(none))else(none))else(if BK=97 then(some (wrap64 (x3+1)))else(if BK=40 then(some (wrap64 (x3+1)))else(if BK=123 then(some (wrap64 (x3+1)))else(if BK=118 then(some (wrap64 (x3+1)))else(some x3)))))
def bV.f:Nat→Int→Int→bG→List (dS)→Option (Int)
 |0,_,_,_,_=>none
 |k+1,aY,bF,bn,aG=>bV.l0 k 0 aG (aG.length:Int) 0 aY bF bn aG
end
theorem bV.dZ:∀k,(∀y0 y1 y2 y3,fE (bV.f k y0 y1 y2 y3) (bV.f (k+1) y0 y1 y2 y3))∧(∀y0 y1 y2 y3 y4 y5 y6 y7,fE (bV.l0 k y0 y1 y2 y3 y4 y5 y6 y7) (bV.l0 (k+1) y0 y1 y2 y3 y4 y5 y6 y7))
 |0=>by refine⟨?_,?_⟩<;>(intros;intro r h;simp[bV.f,bV.l0]at h)
 |k+1=>by
  obtain⟨pO,ih1⟩:=bV.dZ k
  refine⟨?_,?_⟩
  all_goals
   intros
   first|unfold bV.f|unfold bV.l0
   repeat' first|(with_reducible first|exact fE.refl _|exact fE.none _|refine fE.ite ?_ ?_|refine fE.bind ?_ (fun _=>?_)|apply pO|apply ih1)|apply pO|apply ih1|refine fE.ite ?_ ?_|refine fE.bind ?_ (fun _=>?_)
theorem bV.mono:∀a0 a1 a2 a3 k,fE (bV.f k a0 a1 a2 a3) (bV.f (k+1) a0 a1 a2 a3):=by
 intro a0 a1 a2 a3 k
 obtain⟨pO,ih1⟩:=bV.dZ k
 exact pO a0 a1 a2 a3
theorem bV.calls (k:Nat):∀(aY:Int) (bF:Int) (bn:bG) (eH:Option Addr) (dI:Nat) (aG:List (dS)) (r:Int) (w:World) (mV:Kd.C qx w eH aG.length aG) (mQ:aG.length≤dI) (h:bV.f k aY bF bn aG=some r),
  fC 23 #[.agg #[.int .u8 aY,.int .u64 bF,.string bn,.slice eH aG.length dI]] w (.int .i64 r):=by
 induction k using Nat.strongRecOn with
 | _ k ih =>
 intro aY bF bn eH dI aG r w mV mQ h
 cases k with
 |zero=>exact absurd h (by simp[bV.f])
 |succ k =>
 simp only[bV.f]at h
 have OZ:=underlying32
 have qh:=aj.mk mV
 have IG:=aj.mk mQ
 have HB:=aj.mk (jM w)
 have H:(bV.l0 k 0 aG (aG.length:Int) 0 aY bF bn aG)=some r:=h
 have H':=aj.mk H
 go_enter func23,ntmps23
 go_wp2_with ((with_reducible refine gI (N:=1) rfl ?_);refine NS (N:=1) (cs:=#[.int .u8 aY,.int .u64 bF,.string bn,.slice eH aG.length dI]) (t:=32) ?_;intro uH hg w2 hbox hb;have HB:=aj.mk (bT ab hb);have qy:=aj.mk (hbox);have arz:aj (w.heap.size≤uH):=sz hg;have ard:aj (w.heap.size≤uH):=sz hg;clear hb hbox hg;have ail:w2.cell? ⟨uH,0,none⟩=some (.int .u8 aY):=(aC qy.o 0).trans rfl;have ain:w2.cell? ⟨uH,1,none⟩=some (.int .u64 bF):=(aC qy.o 1).trans rfl;have aio:w2.cell? ⟨uH,2,none⟩=some (.string bn):=(aC qy.o 2).trans rfl;have aip:w2.cell? ⟨uH,3,none⟩=some (.slice eH aG.length dI):=(aC qy.o 3).trans rfl;have aiB:=aK qy.o 0;have aiC:=aK qy.o 1;have aiD:=aK qy.o 2;have aiE:=aK qy.o 3)
 go_loopg [3,9] k (fun kq v3 v9 w'=>∃(jr:Int) (t_:Int),v3=.int .i64 jr∧v9=.int .i64 t_∧aj (bV.l0 kq jr aG (aG.length:Int) t_ aY bF bn aG=some r)∧aj (kq≤k)∧aj (w'.heap[uH]?=some (.cells #[.int .u8 aY,.int .u64 bF,.string bn,(.slice eH aG.length dI)] 32 (0,0)))∧aj (Below w.heap.size w w'))
 case atStart=>exact⟨(0),(0),rf,rf,H',⟨bW⟩,⟨bk⟩,⟨ab⟩⟩
 case round =>
  obtain⟨jr,t_,rfl,rfl,HA,pX,qy,HB⟩:=hrel
  cases gk with
  |zero=>exact absurd HA.o (by simp[bV.l0])
  |succ k1 =>
   have H:=HA.o
   simp only[bV.l0]at H
   replace H:=di H;obtain⟨u_,H⟩|⟨u_,H⟩:=H
   ·replace H:=dn H;obtain⟨Ku,-,H⟩:=H
    replace H:=dn H;obtain⟨tC,-,H⟩:=H
    replace H:=Option.bind_eq_some_iff.mp H
    obtain⟨t185,A70,H⟩:=H
    replace H:(bV.l0 k1 (mx jr t185) aG (aG.length:Int) (wrap64 (t_+1)) aY bF bn aG)=some r:=H
    have A7:=aj.mk A70
    obtain⟨ji8,abK⟩:∃j_:Int,(mx jr t185)=j_:=⟨_,rfl⟩
    replace H:(bV.l0 k1 ji8 aG (aG.length:Int) (wrap64 (t_+1)) aY bF bn aG)=some r:=by first|(rw[abK]at H;exact H)|(simp only[abK]at H ⊢;exact H)
    (try rw[abK]at A7)
    have asy:(if jr<t185 then t185 else jr)=ji8:=abK
    have H':=aj.mk H
    have aje:0≤(t_:Int):=od
    have ajt:t_<(aG.length:Int):=od
    obtain⟨UD,ZI,aav,ap1,V9,V_,Wh,Wi,afy,afn⟩:=mD qh.o t_ aje ajt
    cases ap1
    replace V9:=up HB.o V9
    replace V_:=up HB.o V_
    replace Wh:=up HB.o Wh
    replace Wi:=up HB.o Wi
    have ad4:=aj.mk afn
    have adS:=aj.mk afy
    replace aje:=eq_true aje
    replace ajt:=eq_true ajt
    go_wp2_with (first|((with_reducible refine gI (N:=5) rfl ?_);refine NS (N:=5) (cs:=#[.int .u8 0,.int .u64 0,.string (⟨#[]⟩:bG),.slice none 0 0]) (t:=32) ?_;intro Ac hg w9 hbox hb;have qy:=aj.mk (bM (g:=uH) (o:=.cells #[.int .u8 aY,.int .u64 bF,.string bn,.slice (some UD) aG.length dI] 32 (0,0)) bk hb);have HB:=aj.mk (bT ab hb);have zA:=aj.mk (hbox);have arA:aj (w.heap.size≤Ac):=sz hg;have arf:aj (w.heap.size≤Ac):=sz hg;have XG:=aj.mk ((by rw[hg];exact Nat.ne_of_lt (eP (g:=uH) (o:=.cells #[.int .u8 aY,.int .u64 bF,.string bn,.slice (some UD) aG.length dI] 32 (0,0)) bk):uH≠Ac));have XH:=aj.mk ((by rw[hg];exact Nat.ne_of_gt (eP (g:=uH) (o:=.cells #[.int .u8 aY,.int .u64 bF,.string bn,.slice (some UD) aG.length dI] 32 (0,0)) bk):Ac≠uH));clear hb hbox hg;have asz:=XH.o;have asN:=XG.o;have aeO:w9.cell? ⟨Ac,0,none⟩=some (.int .u8 0):=(aC zA.o 0).trans rfl;have aeP:w9.cell? ⟨Ac,1,none⟩=some (.int .u64 0):=(aC zA.o 1).trans rfl;have aeQ:w9.cell? ⟨Ac,2,none⟩=some (.string (⟨#[]⟩:bG)):=(aC zA.o 2).trans rfl;have aeR:w9.cell? ⟨Ac,3,none⟩=some (.slice none 0 0):=(aC zA.o 3).trans rfl;have ae8:=aK zA.o 0;have ae9:=aK zA.o 1;have afa:=aK zA.o 2;have afb:=aK zA.o 3)|((with_reducible refine dG (f:=23) rfl ?_);refine iU (some 15) rfl rfl func23 (by kernel_rfl) rfl #[.agg #[.int .u8 ((aA aG t_).f0),.int .u64 ((aA aG t_).f1),.string ((aA aG t_).f2),.slice ZI ((aA aG t_).f3).length aav]] rfl mt ?_;(with_reducible refine(ih k1 (by have:=pX.o;omega) ((aA aG t_).f0) ((aA aG t_).f1) ((aA aG t_).f2) _ _ ((aA aG t_).f3) t185 _ ?jK ?jL A7.o).mono ?_);(case jK=>exact Kd.bQ ad4.o ab);(case jL=>exact adS.o);rintro e w12 ⟨rfl,hb⟩;refine⟨_,rfl,?_⟩;have qy:=aj.mk (bM (g:=uH) (o:=.cells #[.int .u8 aY,.int .u64 bF,.string bn,.slice (some UD) aG.length dI] 32 (0,0)) bz hb);have zA:=aj.mk (bM (g:=Ac) (o:=.cells #[.int .u8 ((aA aG t_).f0),.int .u64 ((aA aG t_).f1),.string ((aA aG t_).f2),.slice ZI ((aA aG t_).f3).length aav] 32 (0,0)) bz hb);have HB:=aj.mk (bT ab hb)))
    go_roundg k1
    case measure=>have:=pX.o;omega
    case rel=>exact⟨(ji8),(wrap64 (t_+1)),(by first|rfl|(simp;done)|(simp only[←abK]<;>(first|rfl|simp))|(simp[*];done)),rf,H',⟨by have:=pX.o;omega⟩,⟨bk⟩,⟨ab⟩⟩
   ·replace H:=de H;obtain⟨uw,Fq,H⟩|⟨uw,Fq,c13,H⟩:=H
    ·obtain rfl:=dU H
     obtain⟨KQ,KU,KW,KY,KZ,K_,La,Lc⟩:=CU qy.o
     go_wp2
     go_ret
     exact⟨re,ab⟩
    ·replace H:=de H;obtain⟨agY,akY,H⟩|⟨agY,akY,c15,H⟩:=H
     ·obtain rfl:=dU H
      obtain⟨Va,Vb,Vd,Ve,Vq,Vr,Vs,Vt⟩:=CU qy.o
      go_wp2
      go_ret
      exact⟨re,ab⟩
     ·replace H:=de H;obtain⟨agZ,ag0,H⟩|⟨agZ,ag0,c17,H⟩:=H
      ·obtain rfl:=dU H
       obtain⟨Vf,Vg,Vh,Vj,Vu,Vw,Vx,Vy⟩:=CU qy.o
       go_wp2
       go_ret
       exact⟨re,ab⟩
      ·replace H:=de H;obtain⟨Fv,ak1,H⟩|⟨Fv,ak1,c19,H⟩:=H
       ·obtain rfl:=dU H
        obtain⟨Vk,Vl,Vm,Vo,Vz,VB,VE,VF⟩:=CU qy.o
        go_wp2
        go_ret
        exact⟨re,ab⟩
       ·obtain rfl:=dU H
        obtain⟨am7,am8,am9,ana,an1,an2,an3,an4⟩:=CU qy.o
        go_wp2
        go_ret
        exact⟨re,ab⟩
end
end Go.Proofs.YtllcccekodcdmaaGreatDoor.bK
