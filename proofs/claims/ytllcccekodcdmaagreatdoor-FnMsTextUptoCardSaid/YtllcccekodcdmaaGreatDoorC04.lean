import Derived.WalkLawsBesides
import Derived.WalkSpells
import Derived.Test.YtllcccekodcdmaaGreatDoorC03
set_option linter.unusedVariables false
set_option linter.unusedSimpArgs false
set_option maxRecDepth 100000
set_option maxHeartbeats 32000000
open Go.Proofs.Tryz
namespace Go.Proofs.YtllcccekodcdmaaGreatDoor.bK
open Go.Proofs.YtllcccekodcdmaaGreatDoor.Xs Go.RowKit Go.Proofs.ak.aT Go.Proofs.ak.cO Go.Proofs.ak.lQ
section
attribute [local go_sem] mW qc
def dX.j0:Nat→bG→Bool→Option (bG×bG×Bool)
 |0,_,_=>none
 |k+1,x0,x13=>if x13=true then(if 1+x0.size≤9223372036854775807 then((bP.f k ((⟨#[97]⟩:bG)++x0)).bind fun t167=>(if(wrap64 (t167-1))≤0 then(some ((⟨#[]⟩:bG),(⟨#[]⟩:bG),false))else(if 0≤(wrap64 (t167-1))then(if(wrap64 (t167-1))≤(x0.size:Int)then(some (x0.extract 0 ((wrap64 (t167-1)):Int).toNat,x0.extract ((wrap64 (t167-1)):Int).toNat x0.size,true))else(none))else(none))))else(none))else((bP.f k x0).bind fun t168=>(if t168≤0 then(some ((⟨#[]⟩:bG),(⟨#[]⟩:bG),false))else(if 0≤t168 then(if t168≤(x0.size:Int)then(some (x0.extract 0 (t168:Int).toNat,x0.extract (t168:Int).toNat x0.size,true))else(none))else(none))))
def dX.f (k:Nat) (a0:bG):Option (bG×bG×Bool):=if(a0.size:Int)>1 then(if 0<(a0.size:Int)then(dX.j0 k a0 ((bt a0 0)==123))else(none))else(dX.j0 k a0 false)
theorem dX.calls (k:Nat) (a0:bG) (r1:bG) (r2:bG) (r3:Bool) (w:World) (h:dX.f k a0=some (r1,r2,r3)) :
  Calls prog 124 #[.string a0] w fun e w'=>e=.returned (.tuple #[.string r1,.string r2,.bool r3])∧iD w w':=by
 have H:(if(a0.size:Int)>1 then(if 0<(a0.size:Int)then(dX.j0 k a0 ((bt a0 0)==123))else(none))else(dX.j0 k a0 false))=some (r1,r2,r3):=h
 have HC2:=aj.mk H
 go_enter func124,ntmps124
 go_upto_region 2 with (fail)
 repeat (go_quiet (fail);go_upto_region 2 with (fail))
 go_cut [13] (fun v13 wc=>∃(kq:Nat) (adD:Bool),v13=.bool adD∧aj (dX.j0 kq a0 adD=some (r1,r2,r3))∧aj (kq≤k)∧iD w wc)
 case first =>
  have H:=HC2.o
  replace H:=dp H;obtain⟨yU,c3,H⟩|⟨yU,c3,H⟩:=H
  ·have Ou:decide (1<a0.size)=true:=decide_eq_true (by omega)
   (first|rw[yU]|(simp only[gZ,iK];rw[yU])|skip)
   replace H:=dn H;obtain⟨u_,c4,H⟩:=H
   have Ox:decide (0<a0.size)=true:=decide_eq_true (by omega)
   have H':=aj.mk H
   have p5:0≤(0:Int):=(by omega)
   have q5:0<a0.size:=(by have:(0:Int)<(a0.size:Int):=od;omega)
   have hx5:∀h:0<a0.size,((a0[0]'h).toNat:Int)=bt a0 0:=lI a0 0
   have qi5:(0<(a0.size:Int))=True:=eq_true (od)
   replace q5:=eq_true q5
   go_wp2
   repeat (go_quiet (fail);try go_wp2)
   go_meet
   case rel=>exact⟨_,(((bt a0 0)==123)),rf,H',⟨by first|omega|exact bW⟩,dr⟩
  ·have Ou:decide (1<a0.size)=false:=decide_eq_false (by omega)
   (first|rw[yU]|(simp only[gZ,iK];rw[yU])|skip)
   have H':=aj.mk H
   go_wp2
   repeat (go_quiet (fail);try go_wp2)
   go_meet
   case rel=>exact⟨_,(false),rf,H',⟨by first|omega|exact bW⟩,dr⟩
 case rest =>
  obtain⟨kq,adD,rfl,HA,HJ1,⟨mc1,rfl⟩⟩:=hcut
  cases kq with
  |zero=>exact absurd HA.o (by simp[dX.j0])
  |succ Tj =>
   have H:=HA.o
   simp only[dX.j0]at H
   replace H:=db H;obtain⟨rfl,H⟩|⟨rfl,H⟩:=H
   ·by_cases c7:1+a0.size≤9223372036854775807
    ·rw[if_pos c7]at H
     have Kv:=eq_true c7
     have Rt:decide (1+a0.size≤9223372036854775807)=true:=decide_eq_true c7
     try have atu:(9223372036854775807<1+a0.size)=False:=eq_false (Nat.not_lt.2 c7)
     replace H:=Option.bind_eq_some_iff.mp H
     obtain⟨t167,A80,H⟩:=H
     replace H:(if(wrap64 (t167-1))≤0 then(some ((⟨#[]⟩:bG),(⟨#[]⟩:bG),false))else(if 0≤(wrap64 (t167-1))then(if(wrap64 (t167-1))≤(a0.size:Int)then(some (a0.extract 0 ((wrap64 (t167-1)):Int).toNat,a0.extract ((wrap64 (t167-1)):Int).toNat a0.size,true))else(none))else(none)))=some (r1,r2,r3):=H
     have A8:=aj.mk A80
     replace H:=di H;obtain⟨yV,H⟩|⟨yV,H⟩:=H
     ·simp only[Option.some.injEq,Prod.mk.injEq]at H
      obtain⟨rfl,rfl,rfl⟩:=H
      go_wp2_with (go_at_call 95;(with_reducible refine(bP.calls Tj ((⟨#[97]⟩:bG)++a0) t167 _ A8.o).mono ?_);rintro e w' ⟨rfl,⟨nd,rfl⟩⟩;(try exact ww))
      repeat (go_quiet (first|(go_at_call 95;(with_reducible refine(bP.calls Tj ((⟨#[97]⟩:bG)++a0) t167 _ A8.o).mono ?_);rintro e w' ⟨rfl,⟨nd,rfl⟩⟩;(try exact ww)));try go_wp2_with (go_at_call 95;(with_reducible refine(bP.calls Tj ((⟨#[97]⟩:bG)++a0) t167 _ A8.o).mono ?_);rintro e w' ⟨rfl,⟨nd,rfl⟩⟩;(try exact ww)))
      go_ret3
      exact⟨rf,dr⟩
     ·obtain⟨Gt,Jl⟩:∃j_:Int,(wrap64 (t167-1))=j_:=⟨_,rfl⟩
      replace H:(if 0≤(Gt)then(if(Gt)≤(a0.size:Int)then(some (a0.extract 0 ((Gt):Int).toNat,a0.extract ((Gt):Int).toNat a0.size,true))else(none))else(none))=some (r1,r2,r3):=by first|(rw[Jl]at H;exact H)|(simp only[Jl]at H ⊢;exact H)
      (try rw[Jl]at yV)
      (try rw[Jl]at A8)
      have aqF:(IntKind.i64.wrap (t167-1))=Gt:=(gZ _).trans Jl
      by_cases c11:0≤(Gt)
      ·rw[if_pos c11]at H
       have zM:=eq_true c11
       have Oq:decide (0≤(Gt))=true:=decide_eq_true c11
       by_cases c12:(Gt)≤(a0.size:Int)
       ·rw[if_pos c12]at H
        have wL:=eq_true c12
        have UL:decide ((Gt)≤(a0.size:Int))=true:=decide_eq_true c12
        have uw:=eq_true (od:0≤(Gt))
        have aau:=eq_true (od:(Gt)≤(a0.size:Int))
        simp only[Option.some.injEq,Prod.mk.injEq]at H
        obtain⟨rfl,rfl,rfl⟩:=H
        go_wp2_with (go_at_call 95;(with_reducible refine(bP.calls Tj ((⟨#[97]⟩:bG)++a0) t167 _ A8.o).mono ?_);rintro e w' ⟨rfl,⟨nd,rfl⟩⟩;(try exact ww))
        repeat (go_quiet (first|(go_at_call 95;(with_reducible refine(bP.calls Tj ((⟨#[97]⟩:bG)++a0) t167 _ A8.o).mono ?_);rintro e w' ⟨rfl,⟨nd,rfl⟩⟩;(try exact ww)));try go_wp2_with (go_at_call 95;(with_reducible refine(bP.calls Tj ((⟨#[97]⟩:bG)++a0) t167 _ A8.o).mono ?_);rintro e w' ⟨rfl,⟨nd,rfl⟩⟩;(try exact ww)))
        go_ret3
        exact⟨by first|rfl|(simp;done)|(simp only[←Jl]<;>(first|rfl|simp))|(simp[*];done),dr⟩
       ·rw[if_neg c12]at H
        exact absurd H (by simp)
      ·rw[if_neg c11]at H
       exact absurd H (by simp)
    ·rw[if_neg c7]at H
     exact absurd H (by simp)
   ·replace H:=Option.bind_eq_some_iff.mp H
    obtain⟨t168,aph,H⟩:=H
    replace H:(if t168≤0 then(some ((⟨#[]⟩:bG),(⟨#[]⟩:bG),false))else(if 0≤t168 then(if t168≤(a0.size:Int)then(some (a0.extract 0 (t168:Int).toNat,a0.extract (t168:Int).toNat a0.size,true))else(none))else(none)))=some (r1,r2,r3):=H
    have A15:=aj.mk aph
    replace H:=di H;obtain⟨akZ,H⟩|⟨akZ,H⟩:=H
    ·simp only[Option.some.injEq,Prod.mk.injEq]at H
     obtain⟨rfl,rfl,rfl⟩:=H
     go_wp2_with (go_at_call 95;(with_reducible refine(bP.calls Tj a0 t168 _ A15.o).mono ?_);rintro e w' ⟨rfl,⟨nd,rfl⟩⟩;(try exact ww))
     repeat (go_quiet (first|(go_at_call 95;(with_reducible refine(bP.calls Tj a0 t168 _ A15.o).mono ?_);rintro e w' ⟨rfl,⟨nd,rfl⟩⟩;(try exact ww)));try go_wp2_with (go_at_call 95;(with_reducible refine(bP.calls Tj a0 t168 _ A15.o).mono ?_);rintro e w' ⟨rfl,⟨nd,rfl⟩⟩;(try exact ww)))
     go_ret3
     exact⟨rf,dr⟩
    ·by_cases c17:0≤t168
     ·rw[if_pos c17]at H
      have agZ:=eq_true c17
      have ag0:decide (0≤t168)=true:=decide_eq_true c17
      by_cases c18:t168≤(a0.size:Int)
      ·rw[if_pos c18]at H
       have aaw:=eq_true c18
       have ak0:decide (t168≤(a0.size:Int))=true:=decide_eq_true c18
       have Fv:=eq_true (od:0≤t168)
       have Ot:=eq_true (od:t168≤(a0.size:Int))
       simp only[Option.some.injEq,Prod.mk.injEq]at H
       obtain⟨rfl,rfl,rfl⟩:=H
       go_wp2_with (go_at_call 95;(with_reducible refine(bP.calls Tj a0 t168 _ A15.o).mono ?_);rintro e w' ⟨rfl,⟨nd,rfl⟩⟩;(try exact ww))
       repeat (go_quiet (first|(go_at_call 95;(with_reducible refine(bP.calls Tj a0 t168 _ A15.o).mono ?_);rintro e w' ⟨rfl,⟨nd,rfl⟩⟩;(try exact ww)));try go_wp2_with (go_at_call 95;(with_reducible refine(bP.calls Tj a0 t168 _ A15.o).mono ?_);rintro e w' ⟨rfl,⟨nd,rfl⟩⟩;(try exact ww)))
       go_ret3
       exact⟨rf,dr⟩
      ·rw[if_neg c18]at H
       exact absurd H (by simp)
     ·rw[if_neg c17]at H
      exact absurd H (by simp)
def lM.f (a0:Int):Option (Bool):=(eF.f a0).bind fun t176=>(if t176=true then(if a0=98 then(some false)else(if a0=103 then(some false)else(some (a0 != 100))))else(some false))
theorem lM.calls (a0:Int) (r:Bool) (w:World) (h:lM.f a0=some r) :
  Calls prog 93 #[.int .u8 a0] w fun e w'=>e=.returned (.bool r)∧iD w w':=by
 have H:((eF.f a0).bind fun t176=>(if t176=true then(if a0=98 then(some false)else(if a0=103 then(some false)else(some (a0 != 100))))else(some false)))=some r:=h
 replace H:=Option.bind_eq_some_iff.mp H
 obtain⟨t176,A20,H⟩:=H
 replace H:(if t176=true then(if a0=98 then(some false)else(if a0=103 then(some false)else(some (a0 != 100))))else(some false))=some r:=H
 have A2:=aj.mk A20
 replace H:=db H;obtain⟨rfl,H⟩|⟨rfl,H⟩:=H
 ·replace H:=de H;obtain⟨u_,Ox,H⟩|⟨u_,Ox,c4,H⟩:=H
  ·obtain rfl:=dU H
   go_enter func93,ntmps93
   go_wp2_with ((with_reducible refine dG (f:=125) rfl ?_);refine iU (some 4) rfl rfl func125 (by kernel_rfl) rfl #[.int .u8 a0] rfl mt ?_;(with_reducible refine(eF.calls a0 true _ A2.o).mono ?_);rintro e w' ⟨rfl,⟨nd,rfl⟩⟩;refine⟨_,rfl,?_⟩)
   go_ret
   exact⟨rf,dr⟩
  ·replace H:=de H;obtain⟨Ku,Rq,H⟩|⟨Ku,Rq,c5,H⟩:=H
   ·obtain rfl:=dU H
    go_enter func93,ntmps93
    go_wp2_with ((with_reducible refine dG (f:=125) rfl ?_);refine iU (some 4) rfl rfl func125 (by kernel_rfl) rfl #[.int .u8 a0] rfl mt ?_;(with_reducible refine(eF.calls a0 true _ A2.o).mono ?_);rintro e w' ⟨rfl,⟨nd,rfl⟩⟩;refine⟨_,rfl,?_⟩)
    go_ret
    exact⟨rf,dr⟩
   ·obtain rfl:=dU H
    go_enter func93,ntmps93
    go_wp2_with ((with_reducible refine dG (f:=125) rfl ?_);refine iU (some 4) rfl rfl func125 (by kernel_rfl) rfl #[.int .u8 a0] rfl mt ?_;(with_reducible refine(eF.calls a0 true _ A2.o).mono ?_);rintro e w' ⟨rfl,⟨nd,rfl⟩⟩;refine⟨_,rfl,?_⟩)
    go_ret
    exact⟨rf,dr⟩
 ·obtain rfl:=dU H
  go_enter func93,ntmps93
  go_wp2_with ((with_reducible refine dG (f:=125) rfl ?_);refine iU (some 4) rfl rfl func125 (by kernel_rfl) rfl #[.int .u8 a0] rfl mt ?_;(with_reducible refine(eF.calls a0 false _ A2.o).mono ?_);rintro e w' ⟨rfl,⟨nd,rfl⟩⟩;refine⟨_,rfl,?_⟩)
  go_ret
  exact⟨rf,dr⟩
def bI.l0:Nat→bG→Int→Option (Bool)
 |0,_,_=>none
 |k+1,x0,x3=>if(wrap64 (x3+1))<(x0.size:Int)then(if 0≤x3 then(if x3<(x0.size:Int)then(if(bt x0 x3)=123 then(if 0≤(wrap64 (x3+1))then((lM.f (bt x0 (wrap64 (x3+1)))).bind fun t177=>(if t177=true then(bI.l0 k x0 (wrap64 (x3+1)))else(some false)))else(none))else(bI.l0 k x0 (wrap64 (x3+1))))else(none))else(none))else(some true)
def bI.f (k:Nat) (a0:bG):Option (Bool):=bI.l0 k a0 0
theorem bI.dZ:∀k,(∀y0 y1,fE (bI.l0 k y0 y1) (bI.l0 (k+1) y0 y1))
 |0=>fun _ _ r h=>by simp[bI.l0]at h
 |k+1=>by
  have pO:=bI.dZ k
  ·intro y0 y1
   unfold bI.l0
   repeat' first
   |(with_reducible exact pO _ _)
   |(with_reducible exact fE.refl _)
   |(with_reducible exact fE.none _)
   |(with_reducible refine fE.ite ?_ ?_)
   |(with_reducible refine fE.bind ?_ (fun _=>?_))
   |exact pO _ _
   |exact fE.none _
   |refine fE.ite ?_ ?_
   |refine fE.bind ?_ (fun _=>?_)
theorem bI.mono:∀a0 k,fE (bI.f k a0) (bI.f (k+1) a0):=by
 intro a0 k
 have pO:=bI.dZ k
 unfold bI.f
 repeat' first
  |(with_reducible exact pO _ _)
  |(with_reducible exact fE.refl _)
  |(with_reducible exact fE.none _)
  |(with_reducible refine fE.ite ?_ ?_)
  |(with_reducible refine fE.bind ?_ (fun _=>?_))
  |exact pO _ _
  |exact fE.none _
  |refine fE.ite ?_ ?_
  |refine fE.bind ?_ (fun _=>?_)
theorem bI.calls (k:Nat) (a0:bG) (r:Bool) (w:World) (h:bI.f k a0=some r) :
  Calls prog 61 #[.string a0] w fun e w'=>e=.returned (.bool r)∧iD w w':=by
 have H:(bI.l0 k a0 0)=some r:=h
 have H':=aj.mk H
 go_enter func61,ntmps61
 go_wp2
 go_loopg [3] k (fun kq v3 w'=>∃(jr:Int),v3=.int .i64 jr∧aj (bI.l0 kq a0 jr=some r)∧aj (kq≤k)∧iD w w')
 case atStart=>exact⟨(0),rf,H',⟨bW⟩,dr⟩
 case round =>
  obtain⟨jr,rfl,HA,pX,⟨m1,rfl⟩⟩:=hrel
  cases gk with
  |zero=>exact absurd HA.o (by simp[bI.l0])
  |succ k1 =>
   have H:=HA.o
   simp only[bI.l0]at H
   replace H:=di H;obtain⟨Eh,H⟩|⟨Eh,H⟩:=H
   ·replace H:=dn H;obtain⟨yU,-,H⟩:=H
    replace H:=dn H;obtain⟨u_,-,H⟩:=H
    replace H:=de H;obtain⟨tC,FC,H⟩|⟨tC,FC,c6,H⟩:=H
    ·obtain⟨WU,Yt⟩:∃j_:Int,(wrap64 (jr+1))=j_:=⟨_,rfl⟩
     replace H:(if 0≤(WU)then((lM.f (bt a0 (WU))).bind fun t177=>(if t177=true then(bI.l0 k1 a0 WU)else(some false)))else(none))=some r:=by first|(rw[Yt]at H;exact H)|(simp only[Yt]at H ⊢;exact H)
     (try rw[Yt]at Eh)
     have asx:(IntKind.i64.wrap (jr+1))=WU:=(gZ _).trans Yt
     replace H:=dn H;obtain⟨Oy,-,H⟩:=H
     replace H:=Option.bind_eq_some_iff.mp H
     obtain⟨t177,ape,H⟩:=H
     replace H:(if t177=true then(bI.l0 k1 a0 WU)else(some false))=some r:=H
     have A10:=aj.mk ape
     replace H:=db H;obtain⟨rfl,H⟩|⟨rfl,H⟩:=H
     ·have H':=aj.mk H
      have p5:0≤(jr:Int):=od
      have q5:jr<(a0.size:Int):=od
      have hx5:=lI a0 jr
      replace p5:=eq_true p5
      replace q5:=eq_true q5
      have p9:0≤((WU):Int):=od
      have q9:(WU)<(a0.size:Int):=od
      have hx9:=lI a0 (WU)
      replace p9:=eq_true p9
      replace q9:=eq_true q9
      go_wp2_with (go_at_call 93;(with_reducible refine(lM.calls (bt a0 (WU)) true _ A10.o).mono ?_);rintro e w' ⟨rfl,⟨nd,rfl⟩⟩)
      go_roundg k1
      case measure=>have:=pX.o;omega
      case rel=>exact⟨(WU),(by first|rfl|(simp;done)|(simp only[←Yt]<;>(first|rfl|simp))|(simp[*];done)),H',⟨by have:=pX.o;omega⟩,dr⟩
     ·obtain rfl:=dU H
      have p5:0≤(jr:Int):=od
      have q5:jr<(a0.size:Int):=od
      have hx5:=lI a0 jr
      replace p5:=eq_true p5
      replace q5:=eq_true q5
      have p9:0≤((WU):Int):=od
      have q9:(WU)<(a0.size:Int):=od
      have hx9:=lI a0 (WU)
      replace p9:=eq_true p9
      replace q9:=eq_true q9
      go_wp2_with (go_at_call 93;(with_reducible refine(lM.calls (bt a0 (WU)) false _ A10.o).mono ?_);rintro e w' ⟨rfl,⟨nd,rfl⟩⟩)
      go_ret
      exact⟨by first|rfl|(simp;done)|(simp only[←Yt]<;>(first|rfl|simp))|(simp[*];done),dr⟩
    ·have H':=aj.mk H
     have p5:0≤(jr:Int):=od
     have q5:jr<(a0.size:Int):=od
     have hx5:=lI a0 jr
     replace p5:=eq_true p5
     replace q5:=eq_true q5
     go_wp2
     go_roundg k1
     case measure=>have:=pX.o;omega
     case rel=>exact⟨(wrap64 (jr+1)),rf,H',⟨by have:=pX.o;omega⟩,dr⟩
   ·obtain rfl:=dU H
    go_wp2
    go_ret
    exact⟨rf,dr⟩
mutual
def aX.j0:Nat→Bool→Int→Int→bG→List (dS)→Option (Bool)
 |0,_,_,_,_,_=>none
 |k+1,x3,Nw,Ny,Nz,sV=>aX.l0 k x3 0 Nw Ny Nz sV
def aX.l0:Nat→Bool→Int→Int→Int→bG→List (dS)→Option (Bool)
 |0,_,_,_,_,_,_=>none
 |k+1,x3,x4,Nw,Ny,Nz,sV=>if x3=true then(if x4<(sV.length:Int)then(if 0≤x4 then((aX.f k ((aA sV x4).f0) ((aA sV x4).f1) ((aA sV x4).f2) ((aA sV x4).f3)).bind fun t181=>(aX.l0 k t181 (wrap64 (x4+1)) Nw Ny Nz sV))else(none))else(some x3))else(some x3)
def aX.f:Nat→Int→Int→bG→List (dS)→Option (Bool)
 |0,_,_,_,_=>none
 |k+1,aY,bF,bn,aG=>if aY=97 then((bI.f k bn).bind fun t179=>(aX.j0 k t179 aY bF bn aG))else(aX.j0 k true aY bF bn aG)
end
theorem aX.dZ:∀k,(∀y0 y1 y2 y3,fE (aX.f k y0 y1 y2 y3) (aX.f (k+1) y0 y1 y2 y3))∧(∀y0 y1 y2 y3 y4,fE (aX.j0 k y0 y1 y2 y3 y4) (aX.j0 (k+1) y0 y1 y2 y3 y4))∧(∀y0 y1 y2 y3 y4 y5,fE (aX.l0 k y0 y1 y2 y3 y4 y5) (aX.l0 (k+1) y0 y1 y2 y3 y4 y5))
 |0=>by refine⟨?_,?_,?_⟩<;>(intros;intro r h;simp[aX.f,aX.j0,aX.l0]at h)
 |k+1=>by
  obtain⟨pO,ih1,ih2⟩:=aX.dZ k
  refine⟨?_,?_,?_⟩
  all_goals
   intros
   first|unfold aX.f|unfold aX.j0|unfold aX.l0
   repeat' first|(with_reducible first|exact fE.refl _|exact fE.none _|refine fE.ite ?_ ?_|refine fE.bind ?_ (fun _=>?_)|apply pO|apply ih1|apply ih2|apply bI.mono)|apply pO|apply ih1|apply ih2|apply bI.mono|refine fE.ite ?_ ?_|refine fE.bind ?_ (fun _=>?_)
theorem aX.mono:∀a0 a1 a2 a3 k,fE (aX.f k a0 a1 a2 a3) (aX.f (k+1) a0 a1 a2 a3):=by
 intro a0 a1 a2 a3 k
 obtain⟨pO,ih1,ih2⟩:=aX.dZ k
 exact pO a0 a1 a2 a3
theorem aX.calls (k:Nat):∀(aY:Int) (bF:Int) (bn:bG) (eH:Option Addr) (dI:Nat) (aG:List (dS)) (r:Bool) (w:World) (mV:Kd.C qx w eH aG.length aG) (mQ:aG.length≤dI) (h:aX.f k aY bF bn aG=some r),
  fC 39 #[.agg #[.int .u8 aY,.int .u64 bF,.string bn,.slice eH aG.length dI]] w (.bool r):=by
 induction k using Nat.strongRecOn with
 | _ k ih =>
 intro aY bF bn eH dI aG r w mV mQ h
 cases k with
 |zero=>exact absurd h (by simp[aX.f])
 |succ k =>
 simp only[aX.f]at h
 have OZ:=underlying32
 have qh:=aj.mk mV
 have IG:=aj.mk mQ
 have HB:=aj.mk (jM w)
 have H:(if aY=97 then((bI.f k bn).bind fun t179=>(aX.j0 k t179 aY bF bn aG))else(aX.j0 k true aY bF bn aG))=some r:=h
 have HC2:=aj.mk H
 go_enter func39,ntmps39
 go_upto_region 1 with ((with_reducible refine gI (N:=1) rfl ?_);(try (refine yY (by rfl) ?_;dsimp only));refine NS (N:=1) (cs:=#[.int .u8 aY,.int .u64 bF,.string bn,.slice eH aG.length dI]) (t:=32) ?_;intro OQ hg w3 hbox hb;have HB:=aj.mk (bT ab hb);have EP:=aj.mk (hbox);have arx:aj (w.heap.size≤OQ):=sz hg;have arb:aj (w.heap.size≤OQ):=sz hg;clear hb hbox hg)
 (try simp only[Act.put,List.setIfInBounds_toArray,List.set_cons_zero,List.set_cons_succ])
 go_cut [3] (fun v3 wc=>∃(kq:Nat) (jr:Bool),v3=.bool jr∧aj (aX.j0 kq jr aY bF bn aG=some r)∧aj (kq≤k)∧aj (wc.heap[OQ]?=some (.cells #[.int .u8 aY,.int .u64 bF,.string bn,(.slice eH aG.length dI)] 32 (0,0)))∧aj (Below w.heap.size w wc))
 case first =>
  have H:=HC2.o
  replace H:=de H;obtain⟨u_,Ox,H⟩|⟨u_,Ox,c4,H⟩:=H
  ·(first|rw[u_]|(simp only[gZ,iK];rw[u_])|skip)
   replace H:=Option.bind_eq_some_iff.mp H
   obtain⟨t179,A50,H⟩:=H
   replace H:(aX.j0 k t179 aY bF bn aG)=some r:=H
   have A5:=aj.mk A50
   have H':=aj.mk H
   obtain⟨aqk,aql,aqm,aqn,aqw,aqx,aqy,aqz⟩:=CU EP.o
   go_wp2_with (go_at_call 61;(with_reducible refine(bI.calls k bn t179 _ A5.o).mono ?_);rintro e w' ⟨rfl,⟨nd,rfl⟩⟩)
   go_meet
   case rel=>exact⟨_,(t179),rf,H',⟨by first|omega|exact bW⟩,⟨bk⟩,⟨ab⟩⟩
  ·(first|rw[u_]|(simp only[gZ,iK];rw[u_])|skip)
   have H':=aj.mk H
   obtain⟨aqo,aqp,aqr,aqs,aqA,aqB,aqC,aqD⟩:=CU EP.o
   go_wp2
   go_meet
   case rel=>exact⟨_,(true),rf,H',⟨by first|omega|exact bW⟩,⟨bk⟩,⟨ab⟩⟩
 case rest =>
  obtain⟨kq,jr,rfl,HA,HJ1,EP,HB⟩:=hcut
  cases kq with
  |zero=>exact absurd HA.o (by simp[aX.j0])
  |succ Tj =>
   have H:=HA.o
   simp only[aX.j0]at H
   have H':=aj.mk H
   go_wp2
   go_loopg [3,4] Tj (fun kq v3 v4 w'=>∃(akk:Bool) (gW:Int),v3=.bool akk∧v4=.int .i64 gW∧aj (aX.l0 kq akk gW aY bF bn aG=some r)∧aj (kq≤Tj)∧aj (w'.heap[OQ]?=some (.cells #[.int .u8 aY,.int .u64 bF,.string bn,(.slice eH aG.length dI)] 32 (0,0)))∧aj (Below w.heap.size w w'))
   case atStart=>exact⟨(jr),(0),rf,rf,H',⟨bW⟩,⟨bk⟩,⟨ab⟩⟩
   case round =>
    obtain⟨akk,gW,rfl,rfl,HA,uT,EP,HB⟩:=hrel
    cases gk with
    |zero=>exact absurd HA.o (by simp[aX.l0])
    |succ k2 =>
     have H:=HA.o
     simp only[aX.l0]at H
     replace H:=db H;obtain⟨rfl,H⟩|⟨rfl,H⟩:=H
     ·replace H:=di H;obtain⟨yV,H⟩|⟨yV,H⟩:=H
      ·replace H:=dn H;obtain⟨Oo,-,H⟩:=H
       replace H:=Option.bind_eq_some_iff.mp H
       obtain⟨t181,apf,H⟩:=H
       replace H:(aX.l0 k2 t181 (wrap64 (gW+1)) aY bF bn aG)=some r:=H
       have A11:=aj.mk apf
       have H':=aj.mk H
       obtain⟨aeS,aeT,aeU,aeV,afc,afd,afe,aff⟩:=CU EP.o
       have ajd:0≤(gW:Int):=od
       have ajs:gW<(aG.length:Int):=od
       obtain⟨akP,ahp,ahO,ap0,V5,V6,V7,V8,afx,afm⟩:=mD qh.o gW ajd ajs
       cases ap0
       replace V5:=up HB.o V5
       replace V6:=up HB.o V6
       replace V7:=up HB.o V7
       replace V8:=up HB.o V8
       have ad3:=aj.mk afm
       have adR:=aj.mk afx
       replace ajd:=eq_true ajd
       replace ajs:=eq_true ajs
       go_wp2_with ((with_reducible refine dG (f:=39) rfl ?_);refine iU (some 28) rfl rfl func39 (by kernel_rfl) rfl #[.agg #[.int .u8 ((aA aG gW).f0),.int .u64 ((aA aG gW).f1),.string ((aA aG gW).f2),.slice ahp ((aA aG gW).f3).length ahO]] rfl mt ?_;(with_reducible refine(ih k2 (by have:=HJ1.o;have:=uT.o;omega) ((aA aG gW).f0) ((aA aG gW).f1) ((aA aG gW).f2) _ _ ((aA aG gW).f3) t181 _ ?jK ?jL A11.o).mono ?_);(case jK=>repeat (first|exact(Kd.bQ ad3.o HB.o)|(with_reducible refine Kd.jE ?_ _)|(with_reducible refine Kd.kY ?_ _)|(with_reducible refine Kd.n_ ?_)));(case jL=>exact adR.o);rintro e w13 ⟨rfl,hb⟩;refine⟨_,rfl,?_⟩;have EP:=aj.mk (bM (g:=OQ) (o:=.cells #[.int .u8 aY,.int .u64 bF,.string bn,.slice (some akP) aG.length dI] 32 (0,0)) bk hb);have HB:=aj.mk (bT ab hb))
       go_roundg k2
       case measure=>have:=HJ1.o;have:=uT.o;omega
       case rel=>exact⟨(t181),(wrap64 (gW+1)),rf,rf,H',⟨by have:=HJ1.o;have:=uT.o;omega⟩,⟨bk⟩,⟨ab⟩⟩
      ·obtain rfl:=dU H
       obtain⟨KQ,KU,KW,KY,KZ,K_,La,Lc⟩:=CU EP.o
       go_wp2
       go_ret
       exact⟨re,ab⟩
     ·obtain rfl:=dU H
      go_wp2
      go_ret
      exact⟨re,ab⟩
end
end Go.Proofs.YtllcccekodcdmaaGreatDoor.bK
namespace Go.Proofs.YtllcccekodcdmaaGreatDoor.Ms
open Go Go.RowKit Go.Proofs.ak.aT Go.Proofs.YtllcccekodcdmaaGreatDoor.bK
section
theorem eY {α:Type} {F:Nat→Option α} (hF:∀k,fE (F k) (F (k+1))) {k j:Nat} (h:k≤j) {r:α} (e:F k=some r):F j=some r:=by
 induction h with
 |refl=>exact e
 |step _ ih=>exact hF _ _ ih
theorem qZ (x:List UInt8) (i:Nat) (h:i<x.length):bt (bs x) (i:Int)=((x[i]).toNat:Int):=by
 unfold bt
 rw[dif_pos (by rw[aH];simpa using h)]
 congr 1
theorem nM (x:List UInt8) (i j:Nat):(bs x).extract i j=bs ((x.drop i).take (j-i)):=by
 unfold bs
 apply ByteArray.ext
 simp[ByteArray.extract,ByteArray.copySlice,List.take_drop]
def basic (k:UInt8):Prop:=k=121∨k=98∨k=110∨k=113∨k=105∨k=117∨k=120∨k=116∨k=100∨k=115∨k=111∨k=103∨k=104
instance (k:UInt8):Decidable (basic k):=by unfold basic;infer_instance
theorem Fb:∀k:UInt8,eF.f (k.toNat:Nat)=some (decide (basic k)):=by
 intro k
 have h:∀n:Fin 256,eF.f ((UInt8.ofNat n.val).toNat:Nat)=some (decide (basic (UInt8.ofNat n.val))):=by decide +kernel
 have:=h ⟨k.toNat,by simpa using k.toNat_lt⟩
 simpa using this
mutual
def T.Dz:T→Prop
 | .base c=>basic c∨c=118
 | .arr t=>t.Dz
 | .dict k t=>basic k∧t.Dz
 | .str ts=>ts≠[]∧T.Ht ts
def T.Ht:List T→Prop
 |[]=>True
 |t::ts=>t.Dz∧T.Ht ts
end
def CE (x:List UInt8) (a s d:Int) (m:Nat):Prop:=∃k,ay.f k (bs x) (32-a) (32-s) (32-d)=some (m:Int)
section
variable {x:List UInt8} {a s d:Int}
theorem Zi (c:UInt8) (x:List UInt8):¬(bs (c::x)).toList=([]:List UInt8):=by rw[bH];simp
theorem aaA:CE [] a s d 0:=⟨2,by simp only[ay.f,ay.j0,bH,if_pos];rfl⟩
theorem aem (h:32<a∨32<s∨32<d):CE x a s d 0:=by
 refine⟨2,?_⟩
 simp only[ay.f,ay.j0]
 by_cases h0:(bs x).toList=([]:List UInt8)
 ·rw[if_pos h0];rfl
 rw[if_neg h0]
 by_cases h1:32-a<0
 ·rw[if_pos h1];rfl
 rw[if_neg h1]
 by_cases h2:32-s<0
 ·rw[if_pos h2];rfl
 rw[if_neg h2,decide_eq_true (by omega)];rfl
theorem UN (c:UInt8) (r:List UInt8) (ha:a≤32) (hs:s≤32) (hd:d≤32) (k:Nat) :
  ay.f (k+2) (bs (c::r)) (32-a) (32-s) (32-d)=ay.j1 k (bs (c::r)) (32-a) (32-s) (32-d) (decide (basic c) || c==118):=by
 simp only[ay.f,ay.j0]
 rw[if_neg (Zi _ _),if_neg (by omega),if_neg (by omega),decide_eq_false (by omega),if_neg (by decide),if_pos (by rw[aH];simp)]
 have hb:bt (bs (c::r)) 0=((c.toNat:Nat):Int):=qZ (c::r) 0 (by simp)
 rw[hb,Fb]
 simp only[Option.bind_some]
 by_cases h:basic c
 ·rw[decide_eq_true h,if_pos rfl];rfl
 ·rw[decide_eq_false h,if_neg (by decide)]
  congr 1
  rw[Bool.false_or]
  by_cases e:c=118
  ·subst e;rfl
  ·have:(c==118)=false:=by simpa using e
   rw[this]
   have h2:¬c.toNat=118:=fun h=>e (UInt8.toNat_inj.1 h)
   simp;omega
theorem ael (c:UInt8) (r:List UInt8) (ha:a≤32) (hs:s≤32) (hd:d≤32) (h:basic c∨c=118):CE (c::r) a s d 1:=by
 refine⟨3,?_⟩
 rw[UN c r ha hs hd]
 have:(decide (basic c) || c==118)=true:=by rcases h with h|h<;>simp[h]
 rw[this]
 rfl
theorem Oz (c:UInt8) (r:List UInt8) (ha:a≤32) (hs:s≤32) (hd:d≤32) (h:¬basic c) (h2:c≠118) (k:Nat) :
  ay.f (k+3) (bs (c::r)) (32-a) (32-s) (32-d)=ay.j2 k (bs (c::r)) (32-a) (32-s) (32-d) (c==97&&r.head?==some 123):=by
 rw[UN c r ha hs hd]
 have e:(decide (basic c) || c==118)=false:=by simp[h,h2]
 rw[e]
 simp only[ay.j1]
 rw[if_neg (by decide),if_pos (by rw[aH];simp)]
 have hb:bt (bs (c::r)) 0=((c.toNat:Nat):Int):=qZ (c::r) 0 (by simp)
 rw[hb]
 by_cases e97:c=97
 ·subst e97
  rw[if_pos (by rfl)]
  cases r with
  |nil=>rw[if_neg (by rw[aH];simp)];rfl
  |cons q r =>
   have hb1:bt (bs (97::q::r)) 1=((q.toNat:Nat):Int):=qZ (97::q::r) 1 (by simp)
   rw[if_pos (by rw[aH];simp;omega),if_pos (by rw[aH];simp;omega),hb1]
   congr 1
   by_cases e:q=123
   ·subst e;rfl
   ·have h3:¬q.toNat=123:=fun h=>e (UInt8.toNat_inj.1 h)
    have h4:(((q.toNat:Nat):Int)==123)=false:=by rw[kS];omega
    rw[h4];simp[e]
 ·rw[if_neg (fun h=>e97 (UInt8.toNat_inj.1 (by have:=Int.ofNat.inj h;exact this)))]
  have:(c==97)=false:=by simpa using e97
  rw[this,Bool.false_and]
theorem wY (a:Int) (h0:0≤a) (h:a≤32):wrap64 (32-a-1)=32-(a+1):=by unfold wrap64;omega
theorem ahR (r:List UInt8) (ha:a≤32) (hs:s≤32) (hd:d≤32) (h0:0≤a) (hr:r.head?≠some 123) (hl:r.length≤100000) (m:Nat) (hm:m≤r.length) (h:CE r (a+1) s d m) :
  CE (97::r) a s d (if 0<m then m+1 else 0):=by
 obtain⟨k,hk⟩:=h
 refine⟨k+4,?_⟩
 rw[Oz 97 r ha hs hd (by decide) (by decide)]
 have:((97:UInt8)==97&&r.head?==some 123)=false:=by simpa using hr
 rw[this]
 simp only[ay.j2]
 rw[if_neg (by decide),if_pos (by rw[aH];simp)]
 have hb:bt (bs (97::r)) 0=((97:UInt8).toNat:Nat):=qZ (97::r) 0 (by simp)
 rw[hb,if_pos (by rfl),if_pos (by rw[aH];simp;omega),wY a h0 ha,nM]
 have e:((97::r).drop 1).take ((bs (97::r)).size-1)=r:=by rw[aH];simp
 rw[e,hk]
 simp only[Option.bind_some]
 by_cases hm0:0<m
 ·rw[if_pos (by omega),if_pos hm0];congr 1;unfold wrap64;omega
 ·rw[if_neg (by omega),if_neg hm0];rfl
theorem FH (r:List UInt8) (ha:a≤32) (hs:s≤32) (hd:d≤32) (h:r.length<2∨∃q r',r=q::r'∧¬basic q):CE (97::123::r) a s d 0:=by
 refine⟨5,?_⟩
 rw[Oz 97 _ ha hs hd (by decide) (by decide)]
 show ay.j2 2 _ _ _ _ true=_
 simp only[ay.j2]
 rw[if_pos trivial]
 by_cases h4:r.length<2
 ·rw[if_pos (by rw[aH];simp;omega)];rfl
 ·obtain⟨q,r',rfl,hq⟩:=h.resolve_left h4
  have hb:bt (bs (97::123::q::r')) 2=((q.toNat:Nat):Int):=qZ (97::123::q::r') 2 (by simp)
  rw[if_neg (by rw[aH];simp at h4 ⊢;omega),if_pos (by rw[aH];simp;omega),hb,Fb,decide_eq_false hq];rfl
theorem aen (q:UInt8) (r:List UInt8) (ha:a≤32) (hs:s≤32) (hd:d≤32) (h0:0≤a) (h1:0≤d) (hr:r≠[]) (hq:basic q) (hl:r.length≤100000) (m:Nat) (hm:m≤r.length) (h:CE r (a+1) s (d+1) m) :
  CE (97::123::q::r) a s d (if 0<m∧r[m]?=some 125 then m+4 else 0):=by
 obtain⟨k,hk⟩:=h
 refine⟨k+5,?_⟩
 rw[Oz 97 _ ha hs hd (by decide) (by decide)]
 show ay.j2 (k+2) _ _ _ _ true=_
 have hlr:0<r.length:=List.length_pos_iff.2 hr
 simp only[ay.j2]
 have hb:bt (bs (97::123::q::r)) 2=((q.toNat:Nat):Int):=qZ (97::123::q::r) 2 (by simp)
 rw[if_pos trivial,if_neg (by rw[aH];simp;omega),if_pos (by rw[aH];simp;omega),hb,Fb,decide_eq_true hq]
 simp only[Option.bind_some,ay.j3]
 rw[if_neg (by decide),if_pos (by rw[aH];simp;omega),wY a h0 ha,wY d h1 hd,nM]
 have e:((97::123::q::r).drop 3).take ((bs (97::123::q::r)).size-3)=r:=by rw[aH];simp
 rw[e,hk]
 simp only[Option.bind_some]
 by_cases hm0:m=0
 ·subst hm0;rw[if_pos (show((0:Nat):Int)=0 from rfl),if_neg (by omega)];rfl
 rw[if_neg (by omega),show wrap64 ((m:Int)+4)=((m+4:Nat):Int) by unfold wrap64;omega,show wrap64 ((m:Int)+3)=((m+3:Nat):Int) by unfold wrap64;omega]
 by_cases hlt:m<r.length
 ·have hb3:bt (bs (97::123::q::r)) ((m+3:Nat):Int)=((r[m].toNat:Nat):Int):=by
   rw[qZ (97::123::q::r) (m+3) (by simp;omega)];simp
  rw[if_neg (by rw[aH];simp;omega),if_pos (by omega),if_pos (by rw[aH];simp;omega),hb3,gQ hlt]
  by_cases e:r[m]=125
  ·rw[if_pos (by rw[e];rfl),if_pos ⟨by omega,by rw[e]⟩]
  ·rw[if_neg (fun h=>e (UInt8.toNat_inj.1 (by have:=Int.ofNat.inj h;exact this))),if_neg (fun h=>e (dU h.2))];rfl
 ·rw[if_pos (by rw[aH];simp;omega),if_neg (by rw[List.getElem?_eq_none (by omega)];simp)];rfl
theorem aaB (c:UInt8) (r:List UInt8) (ha:a≤32) (hs:s≤32) (hd:d≤32) (h:¬basic c) (h2:c≠118) (h3:c≠97) (h4:c≠40):CE (c::r) a s d 0:=by
 refine⟨4,?_⟩
 rw[Oz c r ha hs hd h h2]
 have:(c==97)=false:=by simpa using h3
 rw[this,Bool.false_and]
 simp only[ay.j2]
 have hb:bt (bs (c::r)) 0=((c.toNat:Nat):Int):=qZ (c::r) 0 (by simp)
 rw[if_neg (by decide),if_pos (by rw[aH];simp),hb,if_neg (fun h=>h3 (UInt8.toNat_inj.1 (by have:=Int.ofNat.inj h;exact this))),if_neg (fun h=>h4 (UInt8.toNat_inj.1 (by have:=Int.ofNat.inj h;exact this)))]
 rfl
theorem ahS (r:List UInt8) (ha:a≤32) (hs:s≤32) (hd:d≤32) (m:Nat) (h:∃k,ay.l0 k (bs (40::r)) (32-a) (32-s) (32-d) 1=some (m:Int)):CE (40::r) a s d m:=by
 obtain⟨k,hk⟩:=h
 refine⟨k+4,?_⟩
 rw[Oz 40 r ha hs hd (by decide) (by decide)]
 show ay.j2 (k+1) _ _ _ _ false=_
 simp only[ay.j2]
 have hb:bt (bs (40::r)) 0=((40:UInt8).toNat:Nat):=qZ (40::r) 0 (by simp)
 rw[if_neg (by decide),if_pos (by rw[aH];simp),hb,if_neg (by decide),if_pos (by decide)]
 exact hk
theorem WX (k:Nat) (hk:1≤k) (hkl:k≤x.length) (hl:x.length≤100000) (h:k=x.length∨x[k]?=some 41) :
  ∃j,ay.l0 j (bs x) (32-a) (32-s) (32-d) (k:Int)=some ((if 1<k∧k<x.length then k+1 else 0:Nat):Int):=by
 refine⟨2,?_⟩
 have hj:ay.j5 1 (bs x) (32-a) (32-s) (32-d) (k:Int) false=some ((if 1<k∧k<x.length then k+1 else 0:Nat):Int):=by
  simp only[ay.j5]
  rw[if_neg (by decide)]
  by_cases h1:1<k
  ·rw[if_pos (by omega)]
   by_cases h2:k<x.length
   ·rw[if_pos (by rw[aH];omega),if_pos ⟨h1,h2⟩];congr 1;unfold wrap64;omega
   ·rw[if_neg (by rw[aH];omega),if_neg (by omega)];rfl
  ·rw[if_neg (by omega),if_neg (by omega)];rfl
 simp only[ay.l0]
 by_cases h2:k<x.length
 ·rw[if_pos (by rw[aH];omega),if_pos (by omega)]
  have e:x[k]=41:=by
   have:=h.resolve_left (by omega)
   rw[gQ h2]at this
   exact dU this
  have hb:bt (bs x) (k:Int)=((41:UInt8).toNat:Nat):=by rw[qZ x k h2,e]
  rw[hb]
  exact hj
 ·rw[if_neg (by rw[aH];omega)]
  exact hj
theorem le_step (k:Nat) (hk:1≤k) (hkl:k<x.length) (hl:x.length≤100000) (h:x[k]≠41) (hs:s≤32) (h0:0≤s) (m:Nat) (hm:m≤x.length-k) (h1:CE (x.drop k) a (s+1) d m) (r:Nat)
  (h2:0<m→∃j,ay.l0 j (bs x) (32-a) (32-s) (32-d) ((k+m:Nat):Int)=some (r:Int)) (h3:m=0→r=0) :
  ∃j,ay.l0 j (bs x) (32-a) (32-s) (32-d) (k:Int)=some (r:Int):=by
 obtain⟨k1,e1⟩:=h1
 have hb:bt (bs x) (k:Int)=((x[k].toNat:Nat):Int):=qZ x k hkl
 have hne:(((x[k].toNat:Nat):Int) != 41)=true:=by
  rw[bne_iff_ne]
  intro e
  exact h (UInt8.toNat_inj.1 (by have:=Int.ofNat.inj e;exact this))
 have ex:(bs x).extract ((k:Nat):Int).toNat (bs x).size=bs (x.drop k):=by
  rw[nM,aH,Int.toNat_natCast,kT (by rw[List.length_drop];omega)]
 by_cases hm0:m=0
 ·refine⟨k1+2,?_⟩
  simp only[ay.l0,ay.j5]
  rw[if_pos (by rw[aH];omega),if_pos (by omega),hb,hne,if_pos rfl,if_pos (by omega),if_pos (by rw[aH];omega),ex,wY s h0 hs,e1]
  subst hm0
  rw[h3 rfl]
  rfl
 ·obtain⟨k2,e2⟩:=h2 (by omega)
  refine⟨max k1 k2+2,?_⟩
  simp only[ay.l0,ay.j5]
  rw[if_pos (by rw[aH];omega),if_pos (by omega),hb,hne,if_pos rfl,if_pos (by omega),if_pos (by rw[aH];omega),ex,wY s h0 hs,
   eY (F:=fun j=>ay.f j (bs (x.drop k)) (32-a) (32-(s+1)) (32-d)) (fun k=>ay.mono _ _ _ _ k) (Nat.le_max_left k1 k2) e1]
  simp only[Option.bind_some]
  rw[if_neg (by omega),show wrap64 ((k:Int)+(m:Int))=((k+m:Nat):Int) by unfold wrap64;omega]
  exact eY (F:=fun j=>ay.l0 j (bs x) (32-a) (32-s) (32-d) ((k+m:Nat):Int)) (fun j=>(ay.dZ j).2.2.2.2.2.1 _ _ _ _ _) (Nat.le_max_right k1 k2) e2
end
theorem T.YZ (l:List T) (t:T):T.sigs (l++[t])=T.sigs l++t.sig:=by rw[T.nP];simp[T.sigs]
theorem T.JQ:∀(l:List T) (t:T),T.Ht l→t.Dz→T.Ht (l++[t])
 |[],t,_,h=>⟨h,trivial⟩
 |b::l,t,h,ht=>⟨h.1,T.JQ l t h.2 ht⟩
theorem T.Gi:∀(l:List T) (t:T) (a s d:Int),T.qC l a s d→t.fits a s d→T.qC (l++[t]) a s d
 |[],t,a,s,d,_,h=>⟨h,trivial⟩
 |b::l,t,a,s,d,h,ht=>⟨h.1,T.Gi l t a s d h.2 ht⟩
def Found (x:List UInt8) (a s d:Int) (m:Nat):Prop:=m≤x.length∧(0<m→∃t:T,t.Dz∧t.fits a s d∧x.take m=t.sig)
theorem Kz (n:Nat):∀(x:List UInt8) (a s d:Int),x.length≤n→x.length≤100000→0≤a→a≤33→0≤s→s≤33→0≤d→d≤33→∃m,CE x a s d m∧Found x a s d m:=by
 induction n with
 |zero =>
  intro x a s d hn
  have e:x=[]:=List.length_eq_zero_iff.1 (by omega)
  subst e
  intros
  exact⟨0,aaA,bW,fun h=>absurd h (Nat.lt_irrefl _)⟩
 |succ n ih =>
 intro x a s d hn hl a0 a1 s0 s1 d0 d1
 have zero:∀{y:List UInt8},Found y a s d 0:=⟨jf _,fun h=>absurd h (Nat.lt_irrefl _)⟩
 by_cases alZ:32<a∨32<s∨32<d
 ·exact⟨0,aem alZ,zero⟩
 have ha:a≤32:=by omega
 have hs:s≤32:=by omega
 have hd:d≤32:=by omega
 cases x with
 |nil=>exact⟨0,aaA,zero⟩
 |cons c r =>
 simp only[d_]at hn hl
 by_cases hb:basic c∨c=118
 ·exact⟨1,ael c r ha hs hd hb,by simp,fun _=>⟨.base c,hb,⟨ha,hs,hd⟩,rfl⟩⟩
 have hb1:¬basic c:=fun h=>hb (.inl h)
 have hb2:c≠118:=fun h=>hb (.inr h)
 by_cases h97:c=97
 ·subst h97
  by_cases hq:r.head?=some 123
  ·obtain⟨r1,rfl⟩:∃r1,r=123::r1:=by
    cases r with
    |nil=>simp at hq
    |cons q r1=>simp at hq;exact⟨r1,by rw[hq]⟩
   simp only[d_]at hn hl
   cases r1 with
   |nil=>exact⟨0,FH _ ha hs hd (.inl (by simp)),zero⟩
   |cons q r2 =>
   by_cases hr2:r2=[]
   ·subst hr2;exact⟨0,FH _ ha hs hd (.inl (by simp)),zero⟩
   by_cases hqb:basic q
   ·simp only[d_]at hn hl
    obtain⟨m,hm,hm1,hm2⟩:=ih r2 (a+1) s (d+1) (by omega) (by omega) (by omega) (by omega) s0 s1 (by omega) (by omega)
    refine⟨_,aen q r2 ha hs hd a0 d0 hr2 hqb (by omega) m hm1 hm,?_⟩
    by_cases hc:0<m∧r2[m]?=some 125
    ·rw[if_pos hc]
     obtain⟨t,t1,t2,t3⟩:=hm2 hc.1
     have hlt:m<r2.length:=by
      rcases Nat.lt_or_ge m r2.length with h|h
      ·exact h
      ·rw[List.getElem?_eq_none h]at hc;exact absurd hc.2 (by simp)
     have hf:=T.Gg t _ _ _ t2
     refine⟨by simp only[d_];omega,fun _=>⟨.dict q t,⟨hqb,t1⟩,⟨⟨ha,hs,hd⟩,⟨hf.1,hf.2.2⟩,t2⟩,?_⟩⟩
     have e125:r2[m]=125:=by rw[gQ hlt]at hc;exact dU hc.2
     show(97::123::q::r2).take (m+1+3)=_
     simp only[List.take_succ_cons,T.sig]
     rw[lu hlt,t3,e125]
    ·rw[if_neg hc];exact zero
   ·exact⟨0,FH _ ha hs hd (.inr ⟨q,r2,rfl,hqb⟩),zero⟩
  ·obtain⟨m,hm,hm1,hm2⟩:=ih r (a+1) s d (by omega) (by omega) (by omega) (by omega) s0 s1 d0 d1
   refine⟨_,ahR r ha hs hd a0 hq (by omega) m hm1 hm,?_⟩
   by_cases hc:0<m
   ·rw[if_pos hc]
    obtain⟨t,t1,t2,t3⟩:=hm2 hc
    refine⟨by simp only[d_];omega,fun _=>⟨.arr t,t1,⟨⟨ha,hs,hd⟩,t2⟩,?_⟩⟩
    simp only[List.take_succ_cons,T.sig,t3]
   ·rw[if_neg hc];exact zero
 by_cases NU:c=40
 ·subst NU
  have loop:∀(j:Nat) (k:Nat) (ts:List T),(40::r).length-k≤j→1≤k→k≤(40::r).length→(40::r).take k=40::T.sigs ts→T.Ht ts→T.qC ts a (s+1) d →
    ∃m:Nat,(∃i,ay.l0 i (bs (40::r)) (32-a) (32-s) (32-d) (k:Int)=some (m:Int))∧Found (40::r) a s d m:=by
   intro j
   induction j with
   |zero =>
    intro k ts hj hk hkl htk hw hf
    have e:k=(40::r).length:=by omega
    refine⟨_,WX k hk hkl (by simp;omega) (.inl e),?_⟩
    rw[if_neg (by omega)]
    exact zero
   |succ j Ip =>
    intro k ts hj hk hkl htk hw hf
    by_cases he:k=(40::r).length∨(40::r)[k]?=some 41
    ·refine⟨_,WX k hk hkl (by simp;omega) he,?_⟩
     by_cases hc:1<k∧k<(40::r).length
     ·rw[if_pos hc]
      refine⟨hc.2,fun _=>⟨.str ts,⟨fun e=>?_,hw⟩,⟨⟨ha,hs,hd⟩,hf⟩,?_⟩⟩
      ·subst e
       have:=congrArg List.length htk
       rw[List.length_take]at this
       have h2:=hc.2
       simp only[T.sigs,d_,kW]at this h2
       omega
      ·have e41:(40::r)[k]=41:=by
        have:=he.resolve_left (by omega)
        rw[gQ hc.2]at this
        exact dU this
       rw[lu hc.2,htk,e41]
       rfl
     ·rw[if_neg hc];exact zero
    ·have hlt:k<(40::r).length:=by rcases Nat.lt_or_ge k (40::r).length with h|h;exact h;exact absurd (.inl (by omega)) he
     have hne:(40::r)[k]≠41:=fun e=>he (.inr (by rw[gQ hlt,e]))
     obtain⟨m1,e1,f1,f2⟩:=ih ((40::r).drop k) a (s+1) d (by rw[List.length_drop];simp only[d_];omega) (by rw[List.length_drop];simp only[d_];omega) a0 a1 (by omega) (by omega) d0 d1
     rw[List.length_drop]at f1
     by_cases hm0:m1=0
     ·exact⟨0,le_step k hk hlt (by simp;omega) hne hs s0 m1 f1 e1 0 (fun h=>absurd h (by omega)) (fun _=>rfl),zero⟩
     ·obtain⟨t,t1,t2,t3⟩:=f2 (by omega)
      obtain⟨m,g1,g2⟩:=Ip (k+m1) (ts++[t]) (by omega) (by omega) (by omega) (by
       rw[T.YZ,←t3,←lF,←htk,List.take_add]) (T.JQ _ _ hw t1) (T.Gi _ _ _ _ _ hf t2)
      exact⟨m,le_step k hk hlt (by simp;omega) hne hs s0 m1 f1 e1 m (fun _=>g1) (fun h=>absurd h hm0),g2⟩
  obtain⟨m,g1,g2⟩:=loop _ 1 [] bW bW (by simp) rfl trivial trivial
  exact⟨m,ahS r ha hs hd m g1,g2⟩
 ·exact⟨0,aaB c r ha hs hd hb1 hb2 h97 NU,zero⟩
end
end Go.Proofs.YtllcccekodcdmaaGreatDoor.Ms
namespace Go.Proofs.YtllcccekodcdmaaGreatDoor.Ms
open Go Go.RowKit
section
set_option linter.defProp false
theorem jq {P:Program} {T:TypeId} {ty:TypeDesc} {z:Value} (hu:P.underlying T=some ty) (hn:∀ms,ty≠.interface ms) (hz:(P.info? T).map (·.zero)=some (some z)) (t:TypeId) (v:Value) (xT:TypeId) (w:World) :
  (Instr.typeAssert (.iface t v) xT T true).run P w=.ok (if t=T then .tuple #[v,.bool true]else .tuple #[z,.bool false]) w:=by
 obtain⟨i,hi,hz'⟩:=Option.map_eq_some_iff.1 hz
 cases ty with
 |interface ms=>exact absurd rfl (hn ms)
 | _ =>
   by_cases h:t=T
   ·subst h;simp[Instr.typeAssert,run_underlying hu,go_sem,Result.andThen]
   ·simp[Instr.typeAssert,run_underlying hu,h,go_sem,Result.andThen,zeroValue,typeInfo,hi,hz']
theorem iq {P:Program} {T:TypeId} {ty:TypeDesc} (hu:P.underlying T=some ty) (hn:∀ms,ty≠.interface ms) (v:Value) (xT:TypeId) (w:World) :
  (Instr.typeAssert (.iface T v) xT T false).run P w=.ok v w:=by
 cases ty with
 |interface ms=>exact absurd rfl (hn ms)
 | _=>simp[Instr.typeAssert,run_underlying hu,go_sem,Result.andThen]
theorem aq3:(prog.info? 5).map (·.zero)=some (some (.int .u8 0)):=by kernel_rfl
@[go_sem] def ta5:=@jq prog 5 _ _ underlying5 (fun _ h=>by cases h) aq3
@[go_sem] def tb5:=@iq prog 5 _ underlying5 (fun _ h=>by cases h)
theorem ajW:(prog.info? 104).map (·.zero)=some (some (.int .u8 0)):=by kernel_rfl
@[go_sem] def ate:=@jq prog 104 _ _ underlying104 (fun _ h=>by cases h) ajW
@[go_sem] def atm:=@iq prog 104 _ underlying104 (fun _ h=>by cases h)
theorem ajX:(prog.info? 105).map (·.zero)=some (some (.int .u8 0)):=by kernel_rfl
@[go_sem] def atf:=@jq prog 105 _ _ underlying105 (fun _ h=>by cases h) ajX
@[go_sem] def atn:=@iq prog 105 _ underlying105 (fun _ h=>by cases h)
theorem ajY:(prog.info? 110).map (·.zero)=some (some (.int .u8 0)):=by kernel_rfl
@[go_sem] def atg:=@jq prog 110 _ _ underlying110 (fun _ h=>by cases h) ajY
@[go_sem] def ato:=@iq prog 110 _ underlying110 (fun _ h=>by cases h)
theorem aq2:(prog.info? 4).map (·.zero)=some (some (.bool false)):=by kernel_rfl
@[go_sem] def ta4:=@jq prog 4 _ _ underlying4 (fun _ h=>by cases h) aq2
@[go_sem] def tb4:=@iq prog 4 _ underlying4 (fun _ h=>by cases h)
theorem amJ:(prog.info? 83).map (·.zero)=some (some (.int .i16 0)):=by kernel_rfl
@[go_sem] def aut:=@jq prog 83 _ _ underlying83 (fun _ h=>by cases h) amJ
@[go_sem] def auH:=@iq prog 83 _ underlying83 (fun _ h=>by cases h)
theorem amK:(prog.info? 84).map (·.zero)=some (some (.int .u16 0)):=by kernel_rfl
@[go_sem] def auu:=@jq prog 84 _ _ underlying84 (fun _ h=>by cases h) amK
@[go_sem] def auI:=@iq prog 84 _ underlying84 (fun _ h=>by cases h)
theorem amD:(prog.info? 21).map (·.zero)=some (some (.int .i32 0)):=by kernel_rfl
@[go_sem] def aun:=@jq prog 21 _ _ underlying21 (fun _ h=>by cases h) amD
@[go_sem] def auB:=@iq prog 21 _ underlying21 (fun _ h=>by cases h)
theorem amE:(prog.info? 22).map (·.zero)=some (some (.int .u32 0)):=by kernel_rfl
@[go_sem] def auo:=@jq prog 22 _ _ underlying22 (fun _ h=>by cases h) amE
@[go_sem] def auC:=@iq prog 22 _ underlying22 (fun _ h=>by cases h)
theorem aq1:(prog.info? 2).map (·.zero)=some (some (.int .i64 0)):=by kernel_rfl
@[go_sem] def ta2:=@jq prog 2 _ _ underlying2 (fun _ h=>by cases h) aq1
@[go_sem] def tb2:=@iq prog 2 _ underlying2 (fun _ h=>by cases h)
theorem amF:(prog.info? 30).map (·.zero)=some (some (.int .u64 0)):=by kernel_rfl
@[go_sem] def aup:=@jq prog 30 _ _ underlying30 (fun _ h=>by cases h) amF
@[go_sem] def auD:=@iq prog 30 _ underlying30 (fun _ h=>by cases h)
theorem amL:(prog.info? 85).map (·.zero)=some (some (.float .f64 0)):=by kernel_rfl
@[go_sem] def auv:=@jq prog 85 _ _ underlying85 (fun _ h=>by cases h) amL
@[go_sem] def auJ:=@iq prog 85 _ underlying85 (fun _ h=>by cases h)
theorem aq4:(prog.info? 9).map (·.zero)=some (some (.string ⟨#[]⟩)):=by kernel_rfl
@[go_sem] def ta9:=@jq prog 9 _ _ underlying9 (fun _ h=>by cases h) aq4
@[go_sem] def tb9:=@iq prog 9 _ underlying9 (fun _ h=>by cases h)
theorem amM:(prog.info? 87).map (·.zero)=some (some (.string ⟨#[]⟩)):=by kernel_rfl
@[go_sem] def auw:=@jq prog 87 _ _ underlying87 (fun _ h=>by cases h) amM
@[go_sem] def auK:=@iq prog 87 _ underlying87 (fun _ h=>by cases h)
theorem amH:(prog.info? 68).map (·.zero)=some (some (.agg #[.string ⟨#[]⟩])):=by kernel_rfl
@[go_sem] def aur:=@jq prog 68 _ _ underlying68 (fun _ h=>by cases h) amH
@[go_sem] def auF:=@iq prog 68 _ underlying68 (fun _ h=>by cases h)
theorem amI:(prog.info? 70).map (·.zero)=some (some (.agg #[.string ⟨#[]⟩,.nilIface])):=by kernel_rfl
@[go_sem] def aus:=@jq prog 70 _ _ underlying70 (fun _ h=>by cases h) amI
@[go_sem] def auG:=@iq prog 70 _ underlying70 (fun _ h=>by cases h)
theorem aj0:(prog.info? 171).map (·.zero)=some (some (.int .i32 0)):=by kernel_rfl
@[go_sem] def ati:=@jq prog 171 _ _ underlying171 (fun _ h=>by cases h) aj0
@[go_sem] def atq:=@iq prog 171 _ underlying171 (fun _ h=>by cases h)
theorem amN:(prog.info? 88).map (·.zero)=some (some (.int .u32 0)):=by kernel_rfl
@[go_sem] def auy:=@jq prog 88 _ _ underlying88 (fun _ h=>by cases h) amN
@[go_sem] def auL:=@iq prog 88 _ underlying88 (fun _ h=>by cases h)
theorem amO:(prog.info? 89).map (·.zero)=some (some (.slice none 0 0)):=by kernel_rfl
@[go_sem] def auz:=@jq prog 89 _ _ underlying89 (fun _ h=>by cases h) amO
@[go_sem] def auM:=@iq prog 89 _ underlying89 (fun _ h=>by cases h)
theorem amG:(prog.info? 65).map (·.zero)=some (some (.slice none 0 0)):=by kernel_rfl
@[go_sem] def auq:=@jq prog 65 _ _ underlying65 (fun _ h=>by cases h) amG
@[go_sem] def auE:=@iq prog 65 _ underlying65 (fun _ h=>by cases h)
theorem ajV:(prog.info? 100).map (·.zero)=some (some (.pointer none)):=by kernel_rfl
@[go_sem] def atd:=@jq prog 100 _ _ underlying100 (fun _ h=>by cases h) ajV
@[go_sem] def atl:=@iq prog 100 _ underlying100 (fun _ h=>by cases h)
theorem ajZ:(prog.info? 129).map (·.zero)=some (some (.pointer none)):=by kernel_rfl
@[go_sem] def ath:=@jq prog 129 _ _ underlying129 (fun _ h=>by cases h) ajZ
@[go_sem] def atp:=@iq prog 129 _ underlying129 (fun _ h=>by cases h)
theorem amP:(prog.info? 91).map (·.zero)=some (some (.agg #[.slice none 0 0])):=by kernel_rfl
@[go_sem] def auA:=@jq prog 91 _ _ underlying91 (fun _ h=>by cases h) amP
@[go_sem] def auN:=@iq prog 91 _ underlying91 (fun _ h=>by cases h)
end
end Go.Proofs.YtllcccekodcdmaaGreatDoor.Ms
namespace Go.Proofs.YtllcccekodcdmaaGreatDoor.Ms
open Go Go.RowKit Go.Proofs.ak.aT
theorem Yg {P:Program} {f:FuncId} {args:Array Value} {w:World} {v:Value} (h:Calls P f args w fun e w'=>e=.returned v∧w=w') :
 Calls P f args w fun e w'=>e=.returned v∧w'=w:=h.mono fun _ _ ⟨h1,h2⟩=>⟨h1,h2.symm⟩
theorem P9 (s:bG) (w:World) (h:s.size≤4294967296) :
  uQ 72 #[.string s] w (.string (⟨#[91]⟩++s)):=by
 have h1:(⟨#[91]⟩:bG).size+s.size≤9223372036854775807:=by
  have:(⟨#[91]⟩:bG).size=1:=rfl
  omega
 have H:=fun w=>oZ w ⟨#[91]⟩ s h1
 go_enter func72,ntmps72
 go_wp2
 go_ret
 exact⟨rfl,rfl⟩
theorem acj (s t:bG) (w:World) (h:s.size≤4294967296) (h':t.size≤4294967296) :
  uQ 71 #[.string s,.string t] w (.string (⟨#[123]⟩++s++t)):=by
 have h0:(⟨#[123]⟩:bG).size=1:=rfl
 have h1:(⟨#[123]⟩:bG).size+s.size≤9223372036854775807:=by omega
 have h2:(⟨#[123]⟩++s:bG).size+t.size≤9223372036854775807:=by rw[gK];omega
 have H:=fun w=>oZ w ⟨#[123]⟩ s h1
 have H2:=fun w=>oZ w (⟨#[123]⟩++s) t h2
 clear h0 h1 h2
 go_enter func71,ntmps71
 go_wp2
 go_ret
 exact⟨rfl,rfl⟩
theorem agz (x:Sc) (w:World) :
  fC 67 #[x.val] w (.string (bs [x.code])):=by
 cases x <;>
 ·simp only[Sc.val]
  go_enter func67,ntmps67
  go_wp2
  go_ret
  exact⟨rfl,by first|exact jc|exact gG _⟩
theorem au {w:World} {b:Nat} {c:Array Value} {e:TypeId} {f:Nat×Nat} (h:w.heap[b]?=some (.cells c e f)) (i:Nat) {v:Value} (hv:c[i]?=some v):w.cell? ⟨b,i,none⟩=some v:=by
 simp[World.cell?,h,hv]
theorem T.IB (l:List A) (k:Nat) (h:k<l.length):T.nI (A.iZ (l.take (k+1)))=T.nI (A.iZ (l.take k))++(l[k]).dN.ty:=by
 have e:∀x y:List A,A.iZ (x++y)=A.iZ x++A.iZ y:=by
  intro x y
  induction x with
  |nil=>rfl
  |cons a x ih=>simp[A.iZ,ih]
 rw[lu h,e,T.pV]
 simp[A.iZ,T.nI]
theorem T.D_ (l:List A) (k:Nat):(T.nI (A.iZ (l.take k))).length≤(T.nI (A.iZ l)).length:=by
 have e:∀x y:List A,A.iZ (x++y)=A.iZ x++A.iZ y:=by
  intro x y
  induction x with
  |nil=>rfl
  |cons a x ih=>simp[A.iZ,ih]
 have h:T.nI (A.iZ l)=T.nI (A.iZ (l.take k))++T.nI (A.iZ (l.drop k)):=by
  rw[←T.pV,←e,List.take_append_drop]
 rw[h,dY];omega
theorem adh (s:bG) (tu:TypeId) (u:Value) (w:World) :
  fC 67 #[.iface 70 (.agg #[.string s,.iface tu u])] w (.string (bs [118])):=by
 go_enter func67,ntmps67
 go_wp2
 go_ret
 exact⟨rfl,gG _⟩
theorem Zo (b:Nat) (s:bG) (x:Value) (w:World) (hc:w.heap[b]?=some (.cells #[.string s,x] 102 (0,0))) (hs:s.size≤4294967296) :
  fC 67 #[.iface 100 (.pointer (some ⟨b,0,none⟩))] w (.string (⟨#[91]⟩++s)):=by
 have h0:=au hc 0 (v:=.string s) rfl
 clear hc
 go_enter func67,ntmps67
 go_wp2_with (go_at_call 72;refine gU (P9 s _ hs) ?_)
 go_ret
 exact⟨rfl,jc⟩
theorem Zn (b:Nat) (s t:bG) (x y:Value) (w:World) (hc:w.heap[b]?=some (.cells #[.string s,.string t,x,y] 132 (0,0))) (hs:s.size≤4294967296) (ht:t.size≤4294967296) :
  fC 67 #[.iface 129 (.pointer (some ⟨b,0,none⟩))] w (.string (⟨#[123]⟩++s++t)):=by
 have h0:=au hc 0 (v:=.string s) rfl
 have h1:=au hc 1 (v:=.string t) rfl
 clear hc
 go_enter func67,ntmps67
 go_wp2
 go_quiet ((go_at_call 71;exact Calls.quiet_of_same (Yg (acj s t _ hs ht))))
 go_wp2
 go_ret
 exact⟨rfl,rG jc _⟩
theorem Row.at {w:World} {ok:Nat→Prop} {e:TypeId} {s:Value} {vs:List Value} (h:Row w ok e s vs) (k:Nat) (hk:k<vs.length) :
  ∃g c,s=.slice (some ⟨g,0,none⟩) vs.length c∧vs.length≤c∧c≤maxLen∧w.cell? ⟨g,k,none⟩=some vs[k]:=by
 obtain⟨A,c,rfl,h1,h2,h3⟩:=h.cell
 obtain⟨g,rfl,hc⟩:=h3 (by omega)
 exact⟨g,c,rfl,h1,h2,hc k _ (gQ hk)⟩
theorem He:∀(n:Nat) (a:A),a.rk≤n→∀(v:Value) (w:World) (ok:Nat→Prop),HA w ok a v→a.dN.ty.length≤1000000 →
  fC 67 #[v] w (.string (bs a.dN.ty)):=by
 intro n
 induction n with
 |zero=>intro a h;have:=a.wU;omega
 |succ n ih =>
 intro a hn v w ok ha hl
 match a,ha with
 | .sc x,ha =>
   cases ha
   exact agz x w
 | .var t a',ha =>
   obtain⟨u,rfl,ha'⟩:=ha
   obtain⟨tu,u',rfl⟩:=ha'.iface
   exact adh _ _ _ w
 | .list t l,ha =>
   obtain⟨b,s,vs,rfl,_,hc,_⟩:=ha
   refine(Zo b _ _ w hc (by rw[aH];simp only[A.dN,T.ty,d_]at hl;omega)).mono ?_
   rintro e w' ⟨rfl,hb⟩
   exact⟨by rw[show (⟨#[91]⟩:bG)=bs [91]from rfl,dh];rfl,hb⟩
 | .dict k t ks es,ha =>
   obtain⟨b,s1,s2,vs1,vs2,rfl,_,hc,_⟩:=ha
   refine(Zn b _ _ _ _ w hc (by rw[aH];simp) (by rw[aH];simp only[A.dN,T.ty,d_]at hl;omega)).mono ?_
   rintro e w' ⟨rfl,hb⟩
   exact⟨by rw[show (⟨#[123]⟩:bG)=bs [123]from rfl,dh,dh];rfl,hb⟩
 | .jJ l,ha =>
   obtain⟨s,vs,rfl,hr,hs⟩:=ha
   have hlen:=hs.len
   have HS:=aj.mk hs
   have HR:=aj.mk hr
   obtain⟨A0,c0,rfl,hc1,hc2,_⟩:=hr.cell
   clear hs hr ha
   have HL:=ah hlen
   have hvl:vs.length≤c0:=hc1
   unfold maxLen at hc2
   simp only[A.dN,T.ty,d_,dY,kW]at hl
   have hw0:=aj.mk (jM w)
   clear hlen
   go_enter func67,ntmps67
   go_wp2
   go_loopw [24,26,116,118,119,120,121,122,123] (fun a24 _ a116 _ _ _ _ _ _ wr=>∃k:Nat,k≤vs.length∧a116=.int .i64 k∧a24=.string (bs (40::T.nI (A.iZ (l.take k))))∧aj (Below w.heap.size w wr)) (fun _ _ a116 _ _ _ _ _ _ _=>vs.length-(intOf a116).toNat)
   case atStart =>
    refine⟨0,jf _,rfl,rfl,⟨?_⟩⟩
    exact gG _
   case round =>
    obtain⟨k,hk,rfl,rfl,HB⟩:=hrel
    by_cases hlt:k<vs.length
    ·obtain⟨g,c,he,_,_,hcell⟩:=HR.o.at k hlt
     injection he with he1 _ he2
     subst he1 he2
     have hcell':=yN HB.o hcell
     have hlk:k<l.length:=by have:=HL.o;omega
     obtain⟨v,hv,hav⟩:=HS.o.get k hlk
     rw[gQ hlt]at hv
     injection hv with hv
     rw[hv]at hcell'
     have HAV:=aj.mk (hav.below HB.o)
     have hrk:(l[k]).rk≤n:=by have:=A.nH l k hlk;simp only[A.rk]at hn;omega
     have hsucc:=T.IB l k hlk
     have hle:=T.D_ l (k+1)
     rw[hsucc,dY]at hle
     have hty:(l[k]).dN.ty.length≤1000000:=by omega
     have apM:=ah hsucc
     have H:=fun w=>oZ w (bs (40::T.nI (A.iZ (List.take k l)))) (bs (l[k]).dN.ty) (by rw[aH,aH];simp;omega)
     clear hav hv hsucc hcell
     go_wp2_with (go_at_call 67;refine(ih _ hrk v _ ok HAV.o hty).mono ?_;rintro e w' ⟨rfl,hb'⟩)
     go_roundw
     case rel=>exact⟨k+1,by omega,by go_num,by rw[apM.o,dh];rfl,⟨HB.o.trans (hb'.mono HB.o.size)⟩⟩
     case measure=>simp[intOf];omega
    ·have hkl:k=vs.length:=by omega
     have H:=fun w=>oZ w (bs (40::T.nI (A.iZ (List.take k l)))) ⟨#[41]⟩ (by
      have:=T.D_ l k
      rw[aH];simp[ByteArray.size];omega)
     have HK:=ah hkl
     clear hkl
     go_wp2
     go_ret
     refine⟨?_,HB.o⟩
     rw[show (⟨#[41]⟩:bG)=bs [41]from rfl,dh]
     have h1:=HK.o
     have h2:=HL.o
     rw[show List.take k l=l from kT (by omega)]
     rfl
def kindOf (n:Int):Int :=
 if n==121 then 7 else if n==98 then 1 else if n==110 then 3 else if n==113 then 8 else if n==105 || n==72 then 4
 else if n==117 || n==104 then 9 else if n==120 then 5 else if n==116 then 10 else if n==100 then 11 else if n==115 || n==111 then 17
 else if n==91 then 16 else if n==123 then 14 else if n==42 then 13 else if n==103 || n==118 || n==40 then 18 else 0
theorem jl (l:List UInt8):(bs l).toList.isEmpty=l.isEmpty:=by rw[bH]
theorem CS (l:List UInt8) (i:Nat) (h:i<(bs l).size) (h':i<l.length):(bs l)[i]=l[i]:=by
 show(bs l).data[i]=l[i]
 simp[bs]
theorem ab2 (c:UInt8) (l:List UInt8) (w:World) :
  uQ 68 #[.string (bs (c::l))] w (.int .i64 (kindOf c.toNat)):=by
 have h1:(bs (c::l)).toList.isEmpty=false:=by rw[jl];rfl
 have h0:0<(bs (c::l)).size:=by rw[aH];simp
 have h2:((c.toNat:Int))=(((bs (c::l))[(0:Nat)]'h0).toNat:Int):=congrArg (fun x:UInt8=>(x.toNat:Int)) (CS (c::l) 0 h0 (by simp)).symm
 have H2:=ah h2
 go_enter func68,ntmps68
 go_wp2
 all_goals
  go_ret
  refine⟨?_,rfl⟩
  rw[H2.o]
  simp[kindOf, *]
theorem dQ (c:UInt8) (l:List UInt8) (k:Int) (hk:kindOf c.toNat=k) (w:World) :
 uQ 68 #[.string (bs (c::l))] w (.int .i64 k):=hk▸ab2 c l w
theorem gY (l:List UInt8) (a b:Nat):(bs l).extract a b=bs ((l.drop a).take (b-a)):=ByteArray.extract_mk l a b
theorem kQ (l:List UInt8) (a:Nat):(bs l).extract a (bs l).size=bs (l.drop a):=by
 rw[gY,aH,kT (by simp)]
theorem xG (l:List UInt8) (w:World) :
  uQ 70 #[.string (bs (91::l))] w (.string (bs l)):=by
 have h0:1≤(bs (91::l)).size:=by rw[aH];simp
 go_enter func70,ntmps70
 go_wp2_with (go_at_call 68;refine gU (dQ 91 l 16 rfl _) ?_)
 go_ret
 exact⟨congrArg (fun x=>Ending.returned (.string x)) (kQ (91::l) 1),rfl⟩
theorem Jc (k:UInt8) (l:List UInt8) (w:World) :
  uQ 70 #[.string (bs (123::k::l))] w (.string (bs l)):=by
 have h0:2≤(bs (123::k::l)).size:=by rw[aH];simp
 go_enter func70,ntmps70
 go_wp2_with (go_at_call 68;refine gU (dQ 123 (k::l) 14 rfl _) ?_)
 go_ret
 exact⟨congrArg (fun x=>Ending.returned (.string x)) (kQ (123::k::l) 2),rfl⟩
theorem Bd (k:UInt8) (l:List UInt8) (w:World) :
  uQ 69 #[.string (bs (123::k::l))] w (.string (bs [k])):=by
 have h0:2≤(bs (123::k::l)).size:=by rw[aH];simp
 go_enter func69,ntmps69
 go_wp2
 go_ret
 exact⟨congrArg (fun x=>Ending.returned (.string x)) (by rw[gY];rfl),rfl⟩
theorem dw (b:Nat) (x y z:Int) (w:World) (hb:w.heap[b]?=some (.cells #[.int .i64 x,.int .i64 y,.int .i64 z] 126 (0,0))) (hx:x≤32) (hy:y≤32) (hz:z≤32) :
  uQ 96 #[.pointer (some ⟨b,0,none⟩)] w (.bool true):=by
 have c0:=au hb 0 (v:=.int .i64 x) rfl
 have c1:=au hb 1 (v:=.int .i64 y) rfl
 have c2:=au hb 2 (v:=.int .i64 z) rfl
 have dx:decide (x≤32)=true:=by simpa using hx
 have dy:decide (y≤32)=true:=by simpa using hy
 have dz:decide (z≤32)=true:=by simpa using hz
 go_enter func96,ntmps96
 go_wp2
 go_ret
 exact⟨rfl,rfl⟩
theorem nN (x y z:Int) (w:World) (hx:0≤x) (hx':x≤100) :
  Calls prog 102 #[.agg #[.int .i64 x,.int .i64 y,.int .i64 z]] w fun e w'=>e=.returned (.pointer (some ⟨w.heap.size,0,none⟩))∧w.alloc (.cells #[.int .i64 (x+1),.int .i64 y,.int .i64 z] 126)=w':=by
 go_enter func102,ntmps102
 go_wp2
 go_ret
 exact⟨rfl,rfl⟩
theorem zU (x y z:Int) (w:World) (hy:0≤y) (hy':y≤100) :
  Calls prog 101 #[.agg #[.int .i64 x,.int .i64 y,.int .i64 z]] w fun e w'=>e=.returned (.pointer (some ⟨w.heap.size,0,none⟩))∧w.alloc (.cells #[.int .i64 x,.int .i64 (y+1),.int .i64 z] 126)=w':=by
 go_enter func101,ntmps101
 go_wp2
 go_ret
 exact⟨rfl,rfl⟩
theorem rZ (x y z:Int) (w:World) (hz:0≤z) (hz':z≤100) :
  Calls prog 104 #[.agg #[.int .i64 x,.int .i64 y,.int .i64 z]] w fun e w'=>e=.returned (.pointer (some ⟨w.heap.size,0,none⟩))∧w.alloc (.cells #[.int .i64 x,.int .i64 y,.int .i64 (z+1)] 126)=w':=by
 go_enter func104,ntmps104
 go_wp2
 go_ret
 exact⟨rfl,rfl⟩
theorem Pn (k:UInt8) (w:World) (hk:kJ k) :
  uQ 103 #[.string (bs [k])] w (.bool true):=by
 rcases hk with rfl|rfl|rfl|rfl|rfl|rfl|rfl|rfl|rfl|rfl <;>
 ·go_enter func103,ntmps103
  go_wp2_with (go_at_call 68;refine gU (dQ _ [] _ rfl _) ?_)
  go_ret
  exact⟨rfl,rfl⟩
end Go.Proofs.YtllcccekodcdmaaGreatDoor.Ms
