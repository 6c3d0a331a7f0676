import Derived.Test.YtllcccekodcdmaaGreatDoorC02
set_option linter.unusedVariables false
set_option linter.unusedSimpArgs false
set_option maxRecDepth 100000
set_option maxHeartbeats 32000000
open Go.Proofs.Tryz
namespace Go.Proofs.YtllcccekodcdmaaGreatDoor.bK
open Go.Proofs.YtllcccekodcdmaaGreatDoor.Xs Go.RowKit Go.Proofs.ak.aT Go.Proofs.ak.cO Go.Proofs.ak.lQ
section
attribute [local go_sem] mW qc
mutual
def ay.j0:Nat→bG→Int→Int→Int→Bool→Option (Int)
 |0,_,_,_,_,_=>none
 |k+1,x0,x1,x2,x3,x26=>if x26=true then(some 0)else(if 0<(x0.size:Int)then((eF.f (bt x0 0)).bind fun t145=>(if t145=true then(ay.j1 k x0 x1 x2 x3 true)else(ay.j1 k x0 x1 x2 x3 ((bt x0 0)==118))))else(none))
def ay.j1:Nat→bG→Int→Int→Int→Bool→Option (Int)
 |0,_,_,_,_,_=>none
 |k+1,x0,x1,x2,x3,x27=>if x27=true then(some 1)else(if 0<(x0.size:Int)then(if(bt x0 0)=97 then(if(x0.size:Int)>1 then(if 1<(x0.size:Int)then(ay.j2 k x0 x1 x2 x3 ((bt x0 1)==123))else(none))else(ay.j2 k x0 x1 x2 x3 false))else(ay.j2 k x0 x1 x2 x3 false))else(none))
def ay.j2:Nat→bG→Int→Int→Int→Bool→Option (Int)
 |0,_,_,_,_,_=>none
 |k+1,x0,x1,x2,x3,x36=>if x36=true then(if(x0.size:Int)<4 then(ay.j3 k x0 x1 x2 x3 true)else(if 2<(x0.size:Int)then((eF.f (bt x0 2)).bind fun t146=>(ay.j3 k x0 x1 x2 x3 (!t146)))else(none)))else(if 0<(x0.size:Int)then(if(bt x0 0)=97 then(if 1≤(x0.size:Int)then((ay.f k (x0.extract 1 x0.size) (wrap64 (x1-1)) x2 x3).bind fun t148=>(if t148>0 then(some (wrap64 (t148+1)))else(some 0)))else(none))else(if(bt x0 0)=40 then(ay.l0 k x0 x1 x2 x3 1)else(some 0)))else(none))
def ay.j3:Nat→bG→Int→Int→Int→Bool→Option (Int)
 |0,_,_,_,_,_=>none
 |k+1,x0,x1,x2,x3,x58=>if x58=true then(some 0)else(if 3≤(x0.size:Int)then((ay.f k (x0.extract 3 x0.size) (wrap64 (x1-1)) x2 (wrap64 (x3-1))).bind fun t147=>(if t147=0 then(some 0)else(if(x0.size:Int)<(wrap64 (t147+4))then(some 0)else(if 0≤(wrap64 (t147+3))then(if(wrap64 (t147+3))<(x0.size:Int)then(if(bt x0 (wrap64 (t147+3)))=125 then(some (wrap64 (t147+4)))else(some 0))else(none))else(none)))))else(none))
def ay.l0:Nat→bG→Int→Int→Int→Int→Option (Int)
 |0,_,_,_,_,_=>none
 |k+1,x0,x1,x2,x3,x11=>if x11<(x0.size:Int)then(if 0≤x11 then(ay.j5 k x0 x1 x2 x3 x11 ((bt x0 x11) != 41))else(none))else(ay.j5 k x0 x1 x2 x3 x11 false)
def ay.j5:Nat→bG→Int→Int→Int→Int→Bool→Option (Int)
 |0,_,_,_,_,_,_=>none
 |k+1,x0,x1,x2,x3,x11,x113=>if x113=true then(if 0≤x11 then(if x11≤(x0.size:Int)then((ay.f k (x0.extract (x11:Int).toNat x0.size) x1 (wrap64 (x2-1)) x3).bind fun t149=>(if t149=0 then(some 0)else(ay.l0 k x0 x1 x2 x3 (wrap64 (x11+t149)))))else(none))else(none))else(if x11>1 then(if x11<(x0.size:Int)then(some (wrap64 (x11+1)))else(some 0))else(some 0))
def ay.f:Nat→bG→Int→Int→Int→Option (Int)
 |0,_,_,_,_=>none
 |k+1,a0,a1,a2,a3=>if a0.toList=([]:List UInt8)then(ay.j0 k a0 a1 a2 a3 true)else(if a1<0 then(ay.j0 k a0 a1 a2 a3 true)else(if a2<0 then(ay.j0 k a0 a1 a2 a3 true)else(ay.j0 k a0 a1 a2 a3 (decide (a3<0)))))
end
theorem ay.dZ:∀k,(∀y0 y1 y2 y3,fE (ay.f k y0 y1 y2 y3) (ay.f (k+1) y0 y1 y2 y3))∧(∀y0 y1 y2 y3 y4,fE (ay.j0 k y0 y1 y2 y3 y4) (ay.j0 (k+1) y0 y1 y2 y3 y4))∧(∀y0 y1 y2 y3 y4,fE (ay.j1 k y0 y1 y2 y3 y4) (ay.j1 (k+1) y0 y1 y2 y3 y4))∧(∀y0 y1 y2 y3 y4,fE (ay.j2 k y0 y1 y2 y3 y4) (ay.j2 (k+1) y0 y1 y2 y3 y4))∧(∀y0 y1 y2 y3 y4,fE (ay.j3 k y0 y1 y2 y3 y4) (ay.j3 (k+1) y0 y1 y2 y3 y4))∧(∀y0 y1 y2 y3 y4,fE (ay.l0 k y0 y1 y2 y3 y4) (ay.l0 (k+1) y0 y1 y2 y3 y4))∧(∀y0 y1 y2 y3 y4 y5,fE (ay.j5 k y0 y1 y2 y3 y4 y5) (ay.j5 (k+1) y0 y1 y2 y3 y4 y5))
 |0=>by refine⟨?_,?_,?_,?_,?_,?_,?_⟩<;>(intros;intro r h;simp[ay.f,ay.j0,ay.j1,ay.j2,ay.j3,ay.l0,ay.j5]at h)
 |k+1=>by
  obtain⟨pO,ih1,ih2,ih3,ih4,ih5,ih6⟩:=ay.dZ k
  refine⟨?_,?_,?_,?_,?_,?_,?_⟩
  all_goals
   intros
   first|unfold ay.f|unfold ay.j0|unfold ay.j1|unfold ay.j2|unfold ay.j3|unfold ay.l0|unfold ay.j5
   repeat' first|(with_reducible first|exact fE.refl _|exact fE.none _|refine fE.ite ?_ ?_|refine fE.bind ?_ (fun _=>?_)|apply pO|apply ih1|apply ih2|apply ih3|apply ih4|apply ih5|apply ih6)|apply pO|apply ih1|apply ih2|apply ih3|apply ih4|apply ih5|apply ih6|refine fE.ite ?_ ?_|refine fE.bind ?_ (fun _=>?_)
theorem ay.mono:∀a0 a1 a2 a3 k,fE (ay.f k a0 a1 a2 a3) (ay.f (k+1) a0 a1 a2 a3):=by
 intro a0 a1 a2 a3 k
 obtain⟨pO,ih1,ih2,ih3,ih4,ih5,ih6⟩:=ay.dZ k
 exact pO a0 a1 a2 a3
theorem ay.calls (k:Nat):∀(a0:bG) (a1:Int) (a2:Int) (a3:Int) (r:Int) (w:World) (h:ay.f k a0 a1 a2 a3=some r),
  Calls prog 126 #[.string a0,.int .i64 a1,.int .i64 a2,.int .i64 a3] w fun e w'=>e=.returned (.int .i64 r)∧iD w w':=by
 induction k using Nat.strongRecOn with
 | _ k ih =>
 intro a0 a1 a2 a3 r w h
 cases k with
 |zero=>exact absurd h (by simp[ay.f])
 |succ k =>
 simp only[ay.f]at h
 have H:(if a0.toList=([]:List UInt8)then(ay.j0 k a0 a1 a2 a3 true)else(if a1<0 then(ay.j0 k a0 a1 a2 a3 true)else(if a2<0 then(ay.j0 k a0 a1 a2 a3 true)else(ay.j0 k a0 a1 a2 a3 (decide (a3<0))))))=some r:=h
 have Qm:=aj.mk H
 go_enter func126,ntmps126
 go_upto_region 1 with (fail)
 go_cut [26] (fun v26 wc=>∃(kq:Nat) (adF:Bool),v26=.bool adF∧aj (ay.j0 kq a0 a1 a2 a3 adF=some r)∧aj (kq≤k)∧iD w wc)
 case first =>
  have H:=Qm.o
  replace H:=de H;obtain⟨tC,FC,H⟩|⟨tC,FC,c6,H⟩:=H
  ·(first|rw[tC]|(simp only[gZ,iK];rw[tC])|skip)
   have H':=aj.mk H
   go_wp2
   go_meet
   case rel=>exact⟨_,(true),rf,H',⟨by first|omega|exact bW⟩,dr⟩
  ·(first|rw[tC]|(simp only[gZ,iK];rw[tC])|skip)
   replace H:=di H;obtain⟨Kv,H⟩|⟨Kv,H⟩:=H
   ·have H':=aj.mk H
    go_wp2
    go_meet
    case rel=>exact⟨_,(true),rf,H',⟨by first|omega|exact bW⟩,dr⟩
   ·replace H:=di H;obtain⟨Oy,H⟩|⟨Oy,H⟩:=H
    ·have H':=aj.mk H
     go_wp2
     go_meet
     case rel=>exact⟨_,(true),rf,H',⟨by first|omega|exact bW⟩,dr⟩
    ·have H':=aj.mk H
     go_wp2
     go_meet
     case rel=>exact⟨_,(decide (a3<0)),rf,H',⟨by first|omega|exact bW⟩,dr⟩
 case rest =>
  obtain⟨kq,adF,rfl,HA,JY,⟨mc4,rfl⟩⟩:=hcut
  cases kq with
  |zero=>exact absurd HA.o (by simp[ay.j0])
  |succ kj4 =>
   have H:=HA.o
   simp only[ay.j0]at H
   replace H:=db H;obtain⟨rfl,H⟩|⟨rfl,H⟩:=H
   ·obtain rfl:=dU H
    go_wp2
    go_ret
    exact⟨rf,dr⟩
   ·have apB:=aj.mk H
    go_upto_region 3 with (fail)
    go_cut [27] (fun v27 wc=>∃(kq:Nat) (adG:Bool),v27=.bool adG∧aj (ay.j1 kq a0 a1 a2 a3 adG=some r)∧aj (kq≤kj4)∧iD w wc)
    case first =>
     have H:=apB.o
     replace H:=dn H;obtain⟨zM,c11,H⟩:=H
     have Oq:decide (0<a0.size)=true:=decide_eq_true (by omega)
     (first|rw[zM]|(simp only[gZ,iK];rw[zM])|skip)
     replace H:=Option.bind_eq_some_iff.mp H
     obtain⟨t145,apg,H⟩:=H
     replace H:(if t145=true then(ay.j1 kj4 a0 a1 a2 a3 true)else(ay.j1 kj4 a0 a1 a2 a3 ((bt a0 0)==118)))=some r:=H
     have A13:=aj.mk apg
     replace H:=db H;obtain⟨rfl,H⟩|⟨rfl,H⟩:=H
     ·have H':=aj.mk H
      have p12:0≤(0:Int):=(by omega)
      have q12:0<a0.size:=(by have:(0:Int)<(a0.size:Int):=od;omega)
      have aqU:∀h:0<a0.size,((a0[0]'h).toNat:Int)=bt a0 0:=lI a0 0
      have aqY:(0<(a0.size:Int))=True:=eq_true (od)
      replace q12:=eq_true q12
      go_wp2_with ((with_reducible refine dG (f:=125) rfl ?_);refine iU (some 30) rfl rfl func125 (by kernel_rfl) rfl #[.int .u8 (bt a0 0)] rfl (by(try simp only[List.map_toArray,List.map_cons,List.map_nil]);first|done|rfl|(simp only[List.length_drop,List.length_take];rfl)) ?_;(with_reducible refine(eF.calls (bt a0 0) true _ A13.o).mono ?_);rintro e w' ⟨rfl,⟨nd,rfl⟩⟩;refine⟨_,rfl,?_⟩)
      go_meet
      case rel=>exact⟨_,(true),rf,H',⟨by have:=JY.o;first|omega|exact bW⟩,dr⟩
     ·have H':=aj.mk H
      have p12:0≤(0:Int):=(by omega)
      have q12:0<a0.size:=(by have:(0:Int)<(a0.size:Int):=od;omega)
      have aqU:∀h:0<a0.size,((a0[0]'h).toNat:Int)=bt a0 0:=lI a0 0
      have aqY:(0<(a0.size:Int))=True:=eq_true (od)
      replace q12:=eq_true q12
      go_wp2_with ((with_reducible refine dG (f:=125) rfl ?_);refine iU (some 30) rfl rfl func125 (by kernel_rfl) rfl #[.int .u8 (bt a0 0)] rfl (by(try simp only[List.map_toArray,List.map_cons,List.map_nil]);first|done|rfl|(simp only[List.length_drop,List.length_take];rfl)) ?_;(with_reducible refine(eF.calls (bt a0 0) false _ A13.o).mono ?_);rintro e w' ⟨rfl,⟨nd,rfl⟩⟩;refine⟨_,rfl,?_⟩;have p15:0≤(0:Int):=(by omega);have q15:0<a0.size:=(by have:(0:Int)<(a0.size:Int):=od;omega);have auc:∀h:0<a0.size,((a0[0]'h).toNat:Int)=bt a0 0:=lI a0 0;clear p15;have auj:(0<(a0.size:Int))=True:=eq_true (od);replace q15:=eq_true q15)
      go_meet
      case rel=>exact⟨_,(((bt a0 0)==118)),rf,H',⟨by have:=JY.o;first|omega|exact bW⟩,dr⟩
    case rest =>
     obtain⟨kq,adG,rfl,HA,N_,⟨mc9,rfl⟩⟩:=hcut
     cases kq with
     |zero=>exact absurd HA.o (by simp[ay.j1])
     |succ kj9 =>
      have H:=HA.o
      simp only[ay.j1]at H
      replace H:=db H;obtain⟨rfl,H⟩|⟨rfl,H⟩:=H
      ·obtain rfl:=dU H
       go_wp2
       go_ret
       exact⟨rf,dr⟩
      ·have apC:=aj.mk H
       go_upto_region 5 with (fail)
       go_cut [36] (fun v36 wc=>∃(kq:Nat) (Ul:Bool),v36=.bool Ul∧aj (ay.j2 kq a0 a1 a2 a3 Ul=some r)∧aj (kq≤kj9)∧iD w wc)
       case first =>
        have H:=apC.o
        replace H:=dn H;obtain⟨aaw,c18,H⟩:=H
        have ak0:decide (0<a0.size)=true:=decide_eq_true (by omega)
        (first|rw[aaw]|(simp only[gZ,iK];rw[aaw])|skip)
        replace H:=de H;obtain⟨Ot,ak2,H⟩|⟨Ot,ak2,c20,H⟩:=H
        ·replace H:=dp H;obtain⟨UM,c21,H⟩|⟨UM,c21,H⟩:=H
         ·have ag1:decide (1<a0.size)=true:=decide_eq_true (by omega)
          replace H:=dn H;obtain⟨ak3,c22,H⟩:=H
          have arT:decide (1<a0.size)=true:=decide_eq_true (by omega)
          have H':=aj.mk H
          have p19:0≤(0:Int):=(by omega)
          have q19:0<a0.size:=(by have:(0:Int)<(a0.size:Int):=od;omega)
          have amh:∀h:0<a0.size,((a0[0]'h).toNat:Int)=bt a0 0:=lI a0 0
          have amq:(0<(a0.size:Int))=True:=eq_true (od)
          replace q19:=eq_true q19
          have p23:0≤(1:Int):=(by omega)
          have q23:1<a0.size:=(by have:(1:Int)<(a0.size:Int):=od;omega)
          have aud:∀h:1<a0.size,((a0[1]'h).toNat:Int)=bt a0 1:=lI a0 1
          have auk:(1<(a0.size:Int))=True:=eq_true (od)
          replace q23:=eq_true q23
          go_wp2
          go_meet
          case rel=>exact⟨_,(((bt a0 1)==123)),rf,H',⟨by have:=JY.o;have:=N_.o;first|omega|exact bW⟩,dr⟩
         ·have ag1:decide (1<a0.size)=false:=decide_eq_false (by omega)
          have H':=aj.mk H
          have p19:0≤(0:Int):=(by omega)
          have q19:0<a0.size:=(by have:(0:Int)<(a0.size:Int):=od;omega)
          have amh:∀h:0<a0.size,((a0[0]'h).toNat:Int)=bt a0 0:=lI a0 0
          have amq:(0<(a0.size:Int))=True:=eq_true (od)
          replace q19:=eq_true q19
          go_wp2
          go_meet
          case rel=>exact⟨_,(false),rf,H',⟨by have:=JY.o;have:=N_.o;first|omega|exact bW⟩,dr⟩
        ·have H':=aj.mk H
         have p19:0≤(0:Int):=(by omega)
         have q19:0<a0.size:=(by have:(0:Int)<(a0.size:Int):=od;omega)
         have amh:∀h:0<a0.size,((a0[0]'h).toNat:Int)=bt a0 0:=lI a0 0
         have amq:(0<(a0.size:Int))=True:=eq_true (od)
         replace q19:=eq_true q19
         go_wp2
         go_meet
         case rel=>exact⟨_,(false),rf,H',⟨by have:=JY.o;have:=N_.o;first|omega|exact bW⟩,dr⟩
       case rest =>
        obtain⟨kq,Ul,rfl,HA,zB,⟨auf,rfl⟩⟩:=hcut
        cases kq with
        |zero=>exact absurd HA.o (by simp[ay.j2])
        |succ YB =>
         have H:=HA.o
         simp only[ay.j2]at H
         replace H:=db H;obtain⟨rfl,H⟩|⟨rfl,H⟩:=H
         ·have apD:=aj.mk H
          go_upto_region 6 with (fail)
          go_cut [58] (fun v58 wc=>∃(kq:Nat) (Um:Bool),v58=.bool Um∧aj (ay.j3 kq a0 a1 a2 a3 Um=some r)∧aj (kq≤YB)∧iD w wc)
          case first =>
           have H:=apD.o
           replace H:=dp H;obtain⟨Ja,c26,H⟩|⟨Ja,c26,H⟩:=H
           ·have ak5:decide (a0.size<4)=true:=decide_eq_true (by omega)
            (first|rw[Ja]|(simp only[gZ,iK];rw[Ja])|skip)
            have H':=aj.mk H
            go_wp2
            go_meet
            case rel=>exact⟨_,(true),rf,H',⟨by have:=JY.o;have:=N_.o;have:=zB.o;first|omega|exact bW⟩,dr⟩
           ·have ak5:decide (a0.size<4)=false:=decide_eq_false (by omega)
            (first|rw[Ja]|(simp only[gZ,iK];rw[Ja])|skip)
            replace H:=dn H;obtain⟨ak6,c27,H⟩:=H
            have arY:decide (2<a0.size)=true:=decide_eq_true (by omega)
            replace H:=Option.bind_eq_some_iff.mp H
            obtain⟨t146,apo,H⟩:=H
            replace H:(ay.j3 YB a0 a1 a2 a3 (!t146))=some r:=H
            have A29:=aj.mk apo
            have H':=aj.mk H
            have p28:0≤(2:Int):=(by omega)
            have q28:2<a0.size:=(by have:(2:Int)<(a0.size:Int):=od;omega)
            have hx28:∀h:2<a0.size,((a0[2]'h).toNat:Int)=bt a0 2:=lI a0 2
            have aul:(2<(a0.size:Int))=True:=eq_true (od)
            replace q28:=eq_true q28
            go_wp2_with (go_at_call 125;(with_reducible refine(eF.calls (bt a0 2) t146 _ A29.o).mono ?_);rintro e w' ⟨rfl,⟨nd,rfl⟩⟩)
            go_meet
            case rel=>exact⟨_,(!t146),rf,H',⟨by have:=JY.o;have:=N_.o;have:=zB.o;first|omega|exact bW⟩,dr⟩
          case rest =>
           obtain⟨kq,Um,rfl,HA,adX,⟨aug,rfl⟩⟩:=hcut
           cases kq with
           |zero=>exact absurd HA.o (by simp[ay.j3])
           |succ afM =>
            have H:=HA.o
            simp only[ay.j3]at H
            replace H:=db H;obtain⟨rfl,H⟩|⟨rfl,H⟩:=H
            ·obtain rfl:=dU H
             go_wp2
             go_ret
             exact⟨rf,dr⟩
            ·by_cases c31:3≤(a0.size:Int)
             ·rw[if_pos c31]at H
              have ar2:=eq_true c31
              have ar4:decide (3≤(a0.size:Int))=true:=decide_eq_true c31
              replace H:=Option.bind_eq_some_iff.mp H
              obtain⟨t147,apq,H⟩:=H
              replace H:(if t147=0 then(some 0)else(if(a0.size:Int)<(wrap64 (t147+4))then(some 0)else(if 0≤(wrap64 (t147+3))then(if(wrap64 (t147+3))<(a0.size:Int)then(if(bt a0 (wrap64 (t147+3)))=125 then(some (wrap64 (t147+4)))else(some 0))else(none))else(none))))=some r:=H
              have A32:=aj.mk apq
              replace H:=de H;obtain⟨ak7,ak8,H⟩|⟨ak7,ak8,c33,H⟩:=H
              ·obtain rfl:=dU H
               go_wp2_with ((with_reducible refine dG (f:=126) rfl ?_);refine iU (some 66) rfl rfl func126 (by kernel_rfl) rfl #[.string (a0.extract 3 a0.size),.int .i64 (wrap64 (a1-1)),.int .i64 a2,.int .i64 (wrap64 (a3-1))] rfl (by(try simp only[List.map_toArray,List.map_cons,List.map_nil]);first|done|rfl|(simp only[List.length_drop,List.length_take];rfl)) ?_;(with_reducible refine(ih afM (by have:=JY.o;have:=N_.o;have:=zB.o;have:=adX.o;omega) (a0.extract 3 a0.size) (wrap64 (a1-1)) a2 (wrap64 (a3-1)) t147 _ A32.o).mono ?_);rintro e w' ⟨rfl,⟨nd,rfl⟩⟩;refine⟨_,rfl,?_⟩)
               go_ret
               exact⟨rf,dr⟩
              ·replace H:=di H;obtain⟨ak9,H⟩|⟨ak9,H⟩:=H
               ·obtain rfl:=dU H
                go_wp2_with ((with_reducible refine dG (f:=126) rfl ?_);refine iU (some 66) rfl rfl func126 (by kernel_rfl) rfl #[.string (a0.extract 3 a0.size),.int .i64 (wrap64 (a1-1)),.int .i64 a2,.int .i64 (wrap64 (a3-1))] rfl (by(try simp only[List.map_toArray,List.map_cons,List.map_nil]);first|done|rfl|(simp only[List.length_drop,List.length_take];rfl)) ?_;(with_reducible refine(ih afM (by have:=JY.o;have:=N_.o;have:=zB.o;have:=adX.o;omega) (a0.extract 3 a0.size) (wrap64 (a1-1)) a2 (wrap64 (a3-1)) t147 _ A32.o).mono ?_);rintro e w' ⟨rfl,⟨nd,rfl⟩⟩;refine⟨_,rfl,?_⟩)
                go_ret
                exact⟨rf,dr⟩
               ·obtain⟨Iq,Jm⟩:∃j_:Int,(wrap64 (t147+3))=j_:=⟨_,rfl⟩
                replace H:(if 0≤(Iq)then(if(Iq)<(a0.size:Int)then(if(bt a0 (Iq))=125 then(some (wrap64 (t147+4)))else(some 0))else(none))else(none))=some r:=by first|(rw[Jm]at H;exact H)|(simp only[Jm]at H ⊢;exact H)
                (try rw[Jm]at A32)
                have aqG:(IntKind.i64.wrap (t147+3))=Iq:=(gZ _).trans Jm
                replace H:=dn H;obtain⟨ar5,-,H⟩:=H
                replace H:=dn H;obtain⟨ar6,-,H⟩:=H
                replace H:=de H;obtain⟨ala,alb,H⟩|⟨ala,alb,c39,H⟩:=H
                ·obtain rfl:=dU H
                 go_wp2_with ((with_reducible refine dG (f:=126) rfl ?_);refine iU (some 66) rfl rfl func126 (by kernel_rfl) rfl #[.string (a0.extract 3 a0.size),.int .i64 (wrap64 (a1-1)),.int .i64 a2,.int .i64 (wrap64 (a3-1))] rfl (by(try simp only[List.map_toArray,List.map_cons,List.map_nil]);first|done|rfl|(simp only[List.length_drop,List.length_take];rfl)) ?_;(with_reducible refine(ih afM (by have:=JY.o;have:=N_.o;have:=zB.o;have:=adX.o;omega) (a0.extract 3 a0.size) (wrap64 (a1-1)) a2 (wrap64 (a3-1)) t147 _ A32.o).mono ?_);rintro e w' ⟨rfl,⟨nd,rfl⟩⟩;refine⟨_,rfl,?_⟩;have p38:0≤((Iq):Int):=od;have q38:(Iq)<(a0.size:Int):=od;have hx38:=lI a0 (Iq);replace p38:=eq_true p38;replace q38:=eq_true q38)
                 go_ret
                 exact⟨by first|rfl|(simp;done)|(simp only[←Jm]<;>(first|rfl|simp))|(simp[*];done),dr⟩
                ·obtain rfl:=dU H
                 go_wp2_with ((with_reducible refine dG (f:=126) rfl ?_);refine iU (some 66) rfl rfl func126 (by kernel_rfl) rfl #[.string (a0.extract 3 a0.size),.int .i64 (wrap64 (a1-1)),.int .i64 a2,.int .i64 (wrap64 (a3-1))] rfl (by(try simp only[List.map_toArray,List.map_cons,List.map_nil]);first|done|rfl|(simp only[List.length_drop,List.length_take];rfl)) ?_;(with_reducible refine(ih afM (by have:=JY.o;have:=N_.o;have:=zB.o;have:=adX.o;omega) (a0.extract 3 a0.size) (wrap64 (a1-1)) a2 (wrap64 (a3-1)) t147 _ A32.o).mono ?_);rintro e w' ⟨rfl,⟨nd,rfl⟩⟩;refine⟨_,rfl,?_⟩;have p38:0≤((Iq):Int):=od;have q38:(Iq)<(a0.size:Int):=od;have hx38:=lI a0 (Iq);replace p38:=eq_true p38;replace q38:=eq_true q38)
                 go_ret
                 exact⟨by first|rfl|(simp;done)|(simp only[←Jm]<;>(first|rfl|simp))|(simp[*];done),dr⟩
             ·rw[if_neg c31]at H
              exact absurd H (by simp)
         ·replace H:=dn H;obtain⟨ar7,c40,H⟩:=H
          have ar8:decide (0<a0.size)=true:=decide_eq_true (by omega)
          replace H:=de H;obtain⟨alc,ald,H⟩|⟨alc,ald,c42,H⟩:=H
          ·by_cases c43:1≤(a0.size:Int)
           ·rw[if_pos c43]at H
            have ar9:=eq_true c43
            have asa:decide (1≤(a0.size:Int))=true:=decide_eq_true c43
            replace H:=Option.bind_eq_some_iff.mp H
            obtain⟨t148,apr,H⟩:=H
            replace H:(if t148>0 then(some (wrap64 (t148+1)))else(some 0))=some r:=H
            have A44:=aj.mk apr
            replace H:=di H;obtain⟨ale,H⟩|⟨ale,H⟩:=H
            ·obtain rfl:=dU H
             have p41:0≤(0:Int):=(by omega)
             have q41:0<a0.size:=(by have:(0:Int)<(a0.size:Int):=od;omega)
             have aiS:∀h:0<a0.size,((a0[0]'h).toNat:Int)=bt a0 0:=lI a0 0
             have ajE:(0<(a0.size:Int))=True:=eq_true (od)
             replace q41:=eq_true q41
             go_wp2_with ((with_reducible refine dG (f:=126) rfl ?_);refine iU (some 95) rfl rfl func126 (by kernel_rfl) rfl #[.string (a0.extract 1 a0.size),.int .i64 (wrap64 (a1-1)),.int .i64 a2,.int .i64 a3] rfl (by(try simp only[List.map_toArray,List.map_cons,List.map_nil]);first|done|rfl|(simp only[List.length_drop,List.length_take];rfl)) ?_;(with_reducible refine(ih YB (by have:=JY.o;have:=N_.o;have:=zB.o;omega) (a0.extract 1 a0.size) (wrap64 (a1-1)) a2 a3 t148 _ A44.o).mono ?_);rintro e w' ⟨rfl,⟨nd,rfl⟩⟩;refine⟨_,rfl,?_⟩)
             go_ret
             exact⟨rf,dr⟩
            ·obtain rfl:=dU H
             have p41:0≤(0:Int):=(by omega)
             have q41:0<a0.size:=(by have:(0:Int)<(a0.size:Int):=od;omega)
             have aiS:∀h:0<a0.size,((a0[0]'h).toNat:Int)=bt a0 0:=lI a0 0
             have ajE:(0<(a0.size:Int))=True:=eq_true (od)
             replace q41:=eq_true q41
             go_wp2_with ((with_reducible refine dG (f:=126) rfl ?_);refine iU (some 95) rfl rfl func126 (by kernel_rfl) rfl #[.string (a0.extract 1 a0.size),.int .i64 (wrap64 (a1-1)),.int .i64 a2,.int .i64 a3] rfl (by(try simp only[List.map_toArray,List.map_cons,List.map_nil]);first|done|rfl|(simp only[List.length_drop,List.length_take];rfl)) ?_;(with_reducible refine(ih YB (by have:=JY.o;have:=N_.o;have:=zB.o;omega) (a0.extract 1 a0.size) (wrap64 (a1-1)) a2 a3 t148 _ A44.o).mono ?_);rintro e w' ⟨rfl,⟨nd,rfl⟩⟩;refine⟨_,rfl,?_⟩)
             go_ret
             exact⟨rf,dr⟩
           ·rw[if_neg c43]at H
            exact absurd H (by simp)
          ·replace H:=de H;obtain⟨alf,alg,H⟩|⟨alf,alg,c47,H⟩:=H
           ·have H':=aj.mk H
            have p41:0≤(0:Int):=(by omega)
            have q41:0<a0.size:=(by have:(0:Int)<(a0.size:Int):=od;omega)
            have aiS:∀h:0<a0.size,((a0[0]'h).toNat:Int)=bt a0 0:=lI a0 0
            have ajE:(0<(a0.size:Int))=True:=eq_true (od)
            replace q41:=eq_true q41
            have p46:0≤(0:Int):=(by omega)
            have q46:0<a0.size:=(by have:(0:Int)<(a0.size:Int):=od;omega)
            have aqV:∀h:0<a0.size,((a0[0]'h).toNat:Int)=bt a0 0:=lI a0 0
            have aqZ:(0<(a0.size:Int))=True:=eq_true (od)
            replace q46:=eq_true q46
            go_wp2
            go_loopg [11] YB (fun kq v11 w'=>∃(pF:Int),v11=.int .i64 pF∧aj (ay.l0 kq a0 a1 a2 a3 pF=some r)∧aj (kq≤YB)∧iD w w')
            case atStart=>exact⟨(1),rf,H',⟨bW⟩,dr⟩
            case round =>
             obtain⟨pF,rfl,HA,HK4,⟨m4,rfl⟩⟩:=hrel
             cases gk with
             |zero=>exact absurd HA.o (by simp[ay.l0])
             |succ k4 =>
              have H:=HA.o
              simp only[ay.l0]at H
              have apE:=aj.mk H
              go_upto_region 18 with (fail)
              go_cut [113] (fun aq7 wc=>∃(kq:Nat) (Ns:Bool),aq7=.bool Ns∧aj (ay.j5 kq a0 a1 a2 a3 pF Ns=some r)∧aj (kq≤k4)∧iD w wc)
              case first =>
               have H:=apE.o
               replace H:=di H;obtain⟨Ov,H⟩|⟨Ov,H⟩:=H
               ·(first|rw[Ov]|(simp only[gZ,iK];rw[Ov])|skip)
                replace H:=dn H;obtain⟨asb,-,H⟩:=H
                have H':=aj.mk H
                have p51:0≤(pF:Int):=od
                have q51:pF<(a0.size:Int):=od
                have aue:=lI a0 pF
                replace p51:=eq_true p51
                replace q51:=eq_true q51
                go_wp2
                go_meet
                case rel=>exact⟨_,(((bt a0 pF) != 41)),rf,H',⟨by have:=JY.o;have:=N_.o;have:=zB.o;have:=HK4.o;first|omega|exact bW⟩,dr⟩
               ·(first|rw[Ov]|(simp only[gZ,iK];rw[Ov])|skip)
                have H':=aj.mk H
                go_wp2
                go_meet
                case rel=>exact⟨_,(false),rf,H',⟨by have:=JY.o;have:=N_.o;have:=zB.o;have:=HK4.o;first|omega|exact bW⟩,dr⟩
              case rest =>
               obtain⟨kq,Ns,rfl,HA,adY,⟨auh,rfl⟩⟩:=hcut
               cases kq with
               |zero=>exact absurd HA.o (by simp[ay.j5])
               |succ afN =>
                have H:=HA.o
                simp only[ay.j5]at H
                replace H:=db H;obtain⟨rfl,H⟩|⟨rfl,H⟩:=H
                ·by_cases c53:0≤pF
                 ·rw[if_pos c53]at H
                  have ase:=eq_true c53
                  have asf:decide (0≤pF)=true:=decide_eq_true c53
                  by_cases c54:pF≤(a0.size:Int)
                  ·rw[if_pos c54]at H
                   have asg:=eq_true c54
                   have ash:decide (pF≤(a0.size:Int))=true:=decide_eq_true c54
                   replace H:=Option.bind_eq_some_iff.mp H
                   obtain⟨t149,aps,H⟩:=H
                   replace H:(if t149=0 then(some 0)else(ay.l0 afN a0 a1 a2 a3 (wrap64 (pF+t149))))=some r:=H
                   have A55:=aj.mk aps
                   replace H:=de H;obtain⟨alh,ali,H⟩|⟨alh,ali,c56,H⟩:=H
                   ·obtain rfl:=dU H
                    go_wp2_with ((with_reducible refine dG (f:=126) rfl ?_);refine iU (some 121) rfl rfl func126 (by kernel_rfl) rfl #[.string (a0.extract (pF:Int).toNat a0.size),.int .i64 a1,.int .i64 (wrap64 (a2-1)),.int .i64 a3] rfl (by(try simp only[List.map_toArray,List.map_cons,List.map_nil]);first|done|rfl|(simp only[List.length_drop,List.length_take];rfl)) ?_;(with_reducible refine(ih afN (by have:=JY.o;have:=N_.o;have:=zB.o;have:=HK4.o;have:=adY.o;omega) (a0.extract (pF:Int).toNat a0.size) a1 (wrap64 (a2-1)) a3 t149 _ A55.o).mono ?_);rintro e w' ⟨rfl,⟨nd,rfl⟩⟩;refine⟨_,rfl,?_⟩)
                    go_ret
                    exact⟨rf,dr⟩
                   ·have H':=aj.mk H
                    go_wp2_with ((with_reducible refine dG (f:=126) rfl ?_);refine iU (some 121) rfl rfl func126 (by kernel_rfl) rfl #[.string (a0.extract (pF:Int).toNat a0.size),.int .i64 a1,.int .i64 (wrap64 (a2-1)),.int .i64 a3] rfl (by(try simp only[List.map_toArray,List.map_cons,List.map_nil]);first|done|rfl|(simp only[List.length_drop,List.length_take];rfl)) ?_;(with_reducible refine(ih afN (by have:=JY.o;have:=N_.o;have:=zB.o;have:=HK4.o;have:=adY.o;omega) (a0.extract (pF:Int).toNat a0.size) a1 (wrap64 (a2-1)) a3 t149 _ A55.o).mono ?_);rintro e w' ⟨rfl,⟨nd,rfl⟩⟩;refine⟨_,rfl,?_⟩)
                    go_roundg afN
                    case measure=>have:=JY.o;have:=N_.o;have:=zB.o;have:=HK4.o;have:=adY.o;omega
                    case rel=>exact⟨(wrap64 (pF+t149)),rf,H',⟨by have:=JY.o;have:=N_.o;have:=zB.o;have:=HK4.o;have:=adY.o;omega⟩,dr⟩
                  ·rw[if_neg c54]at H
                   exact absurd H (by simp)
                 ·rw[if_neg c53]at H
                  exact absurd H (by simp)
                ·replace H:=di H;obtain⟨alj,H⟩|⟨alj,H⟩:=H
                 ·replace H:=di H;obtain⟨alk,H⟩|⟨alk,H⟩:=H
                  ·obtain rfl:=dU H
                   go_wp2
                   go_ret
                   exact⟨rf,dr⟩
                  ·obtain rfl:=dU H
                   go_wp2
                   go_ret
                   exact⟨rf,dr⟩
                 ·obtain rfl:=dU H
                  go_wp2
                  go_ret
                  exact⟨rf,dr⟩
           ·obtain rfl:=dU H
            have p41:0≤(0:Int):=(by omega)
            have q41:0<a0.size:=(by have:(0:Int)<(a0.size:Int):=od;omega)
            have aiS:∀h:0<a0.size,((a0[0]'h).toNat:Int)=bt a0 0:=lI a0 0
            have ajE:(0<(a0.size:Int))=True:=eq_true (od)
            replace q41:=eq_true q41
            have p46:0≤(0:Int):=(by omega)
            have q46:0<a0.size:=(by have:(0:Int)<(a0.size:Int):=od;omega)
            have aqV:∀h:0<a0.size,((a0[0]'h).toNat:Int)=bt a0 0:=lI a0 0
            have aqZ:(0<(a0.size:Int))=True:=eq_true (od)
            replace q46:=eq_true q46
            go_wp2
            go_ret
            exact⟨rf,dr⟩
end
section
attribute [local go_sem] mW qc
def bP.f (k:Nat) (a0:bG):Option (Int):=(ay.f k a0 32 32 32).bind fun t150=>(some t150)
theorem bP.mono:∀a0 k,fE (bP.f k a0) (bP.f (k+1) a0):=by
 intro a0 k
 unfold bP.f
 repeat' first
  |(with_reducible exact ay.mono _ _ _ _ _)
  |(with_reducible exact fE.refl _)
  |(with_reducible exact fE.none _)
  |(with_reducible refine fE.ite ?_ ?_)
  |(with_reducible refine fE.bind ?_ (fun _=>?_))
  |exact ay.mono _ _ _ _ _
  |exact fE.none _
  |refine fE.ite ?_ ?_
  |refine fE.bind ?_ (fun _=>?_)
theorem bP.calls (k:Nat) (a0:bG) (r:Int) (w:World) (h:bP.f k a0=some r) :
  Calls prog 95 #[.string a0] w fun e w'=>e=.returned (.int .i64 r)∧iD w w':=by
 have H:((ay.f k a0 32 32 32).bind fun t150=>(some t150))=some r:=h
 replace H:=Option.bind_eq_some_iff.mp H
 obtain⟨t150,A20,H⟩:=H
 replace H:(some t150)=some r:=H
 have A2:=aj.mk A20
 obtain rfl:=dU H
 go_enter func95,ntmps95
 go_wp2_with ((with_reducible refine dG (f:=126) rfl ?_);refine iU (some 4) rfl rfl func126 (by kernel_rfl) rfl #[.string a0,.int .i64 32,.int .i64 32,.int .i64 32] rfl mt ?_;(with_reducible refine(ay.calls k a0 32 32 32 t150 _ A2.o).mono ?_);rintro e w' ⟨rfl,⟨nd,rfl⟩⟩;refine⟨_,rfl,?_⟩)
 go_ret
 exact⟨rf,dr⟩
def dD.l0:Nat→bG→List bG→Option (List bG×Bool)
 |0,_,_=>none
 |k+1,x0,x4=>if x0.toList=([]:List UInt8)then(some (x4,true))else((bP.f k x0).bind fun t151=>(if t151=0 then(some (([]:List bG),false))else(if 0≤t151 then(if t151≤(x0.size:Int)then(if x4.length<8796093022208 then(dD.l0 k (x0.extract (t151:Int).toNat x0.size) (x4++[x0.extract 0 (t151:Int).toNat]))else(none))else(none))else(none))))
def dD.f (k:Nat) (a0:bG):Option (List bG×Bool):=if(a0.size:Int)>255 then(some (([]:List bG),false))else(dD.l0 k a0 ([]:List bG))
theorem dD.dZ:∀k,(∀y0 y1,fE (dD.l0 k y0 y1) (dD.l0 (k+1) y0 y1))
 |0=>fun _ _ r h=>by simp[dD.l0]at h
 |k+1=>by
  have pO:=dD.dZ k
  ·intro y0 y1
   unfold dD.l0
   repeat' first
   |(with_reducible exact pO _ _)
   |(with_reducible exact bP.mono _ _)
   |(with_reducible exact fE.refl _)
   |(with_reducible exact fE.none _)
   |(with_reducible refine fE.ite ?_ ?_)
   |(with_reducible refine fE.bind ?_ (fun _=>?_))
   |exact pO _ _
   |exact bP.mono _ _
   |exact fE.none _
   |refine fE.ite ?_ ?_
   |refine fE.bind ?_ (fun _=>?_)
theorem dD.calls (k:Nat) (a0:bG) (r1:List bG) (r2:Bool) (w:World) (h:dD.f k a0=some (r1,r2)) :
  Calls prog 65 #[.string a0] w fun e w'=>∃v0_:Value,e=.returned (.tuple #[v0_,.bool r2])∧Kd.R Kd.string 9 w' w.heap.size (fun _=>True) v0_ r1∧Below w.heap.size w w':=by
 have HB:=aj.mk (jM w)
 have H:(if(a0.size:Int)>255 then(some (([]:List bG),false))else(dD.l0 k a0 ([]:List bG)))=some (r1,r2):=h
 replace H:=dp H;obtain⟨Eh,c2,H⟩|⟨Eh,c2,H⟩:=H
 ·have aax:decide (255<a0.size)=true:=decide_eq_true (by omega)
  simp only[Option.some.injEq,Prod.mk.injEq]at H
  obtain⟨rfl,rfl⟩:=H
  go_enter func65,ntmps65
  go_wp2
  go_ret2
  exact⟨_,re,kn,ab⟩
 ·have aax:decide (255<a0.size)=false:=decide_eq_false (by omega)
  have H':=aj.mk H
  go_enter func65,ntmps65
  go_wp2
  go_loopg [0,4] k (fun kq v0 v4 w'=>∃(tZ:bG) (Ql:List bG),v0=.string tZ∧aj (dD.l0 kq tZ Ql=some (r1,r2))∧aj (kq≤k)∧aj (Kd.R Kd.string 9 w' w.heap.size (fun _=>True) v4 Ql)∧aj (Below w.heap.size w w'))
  case atStart=>exact⟨(a0),(([]:List bG)),rf,H',⟨bW⟩,⟨kn⟩,⟨ab⟩⟩
  case round =>
   obtain⟨tZ,Ql,rfl,HA,pX,akC,HB⟩:=hrel
   cases gk with
   |zero=>exact absurd HA.o (by simp[dD.l0])
   |succ k1 =>
    have H:=HA.o
    simp only[dD.l0]at H
    replace H:=de H;obtain⟨yU,Ou,H⟩|⟨yU,Ou,c3,H⟩:=H
    ·simp only[Option.some.injEq,Prod.mk.injEq]at H
     obtain⟨rfl,rfl⟩:=H
     go_wp2
     go_ret2
     exact⟨_,re,kr akC.o,ab⟩
    ·replace H:=Option.bind_eq_some_iff.mp H
     obtain⟨t151,A40,H⟩:=H
     replace H:(if t151=0 then(some (([]:List bG),false))else(if 0≤t151 then(if t151≤(tZ.size:Int)then(if Ql.length<8796093022208 then(dD.l0 k1 (tZ.extract (t151:Int).toNat tZ.size) (Ql++[tZ.extract 0 (t151:Int).toNat]))else(none))else(none))else(none)))=some (r1,r2):=H
     have A4:=aj.mk A40
     replace H:=de H;obtain⟨Ku,Rq,H⟩|⟨Ku,Rq,c5,H⟩:=H
     ·simp only[Option.some.injEq,Prod.mk.injEq]at H
      obtain⟨rfl,rfl⟩:=H
      go_wp2_with ((with_reducible refine dG (f:=95) rfl ?_);refine iU (some 12) rfl rfl func95 (by kernel_rfl) rfl #[.string tZ] rfl mt ?_;(with_reducible refine(bP.calls k1 tZ t151 _ A4.o).mono ?_);rintro e w' ⟨rfl,⟨nd,rfl⟩⟩;refine⟨_,rfl,?_⟩)
      go_ret2
      exact⟨_,re,kn,ab⟩
     ·by_cases c6:0≤t151
      ·rw[if_pos c6]at H
       have tC:=eq_true c6
       have FC:decide (0≤t151)=true:=decide_eq_true c6
       by_cases c7:t151≤(tZ.size:Int)
       ·rw[if_pos c7]at H
        have Kv:=eq_true c7
        have Rt:decide (t151≤(tZ.size:Int))=true:=decide_eq_true c7
        by_cases c8:Ql.length<8796093022208
        ·rw[if_pos c8]at H
         have apO:=aj.mk c8
         obtain⟨y152,hy152⟩:∃y_:List bG,y_=(Ql++[tZ.extract 0 (t151:Int).toNat]):=⟨_,rfl⟩
         replace H:(dD.l0 k1 (tZ.extract (t151:Int).toNat tZ.size) y152)=some (r1,r2):=by first|(rw[hy152];with_reducible exact H)|(have EU:=(Option.bind_some _ _).symm.trans H;rw[hy152];with_reducible exact EU)|(have EU:=(Option.bind_some _ _).symm.trans H;with_reducible exact EU)|with_reducible exact H|(rw[hy152];exact H)|exact H
         have akK:=aj.mk hy152
         have yV:=eq_true (od:0≤t151)
         have Oo:=eq_true (od:t151≤(tZ.size:Int))
         have H':=aj.mk H
         go_wp2_with (first|((with_reducible refine dG (f:=95) rfl ?_);refine iU (some 12) rfl rfl func95 (by kernel_rfl) rfl #[.string tZ] rfl mt ?_;(with_reducible refine(bP.calls k1 tZ t151 _ A4.o).mono ?_);rintro e w' ⟨rfl,⟨nd,rfl⟩⟩;refine⟨_,rfl,?_⟩)|((with_reducible refine jH (b:=.append) (xs:=#[.tmp 15,.tmp 19]) rfl ?_);at_builtin;refine Kd.zF Kd.string (w0:=w) w.heap.size rfl (.tmp 15) (.tmp 19) 119 9 (.string ⟨#[]⟩) 16 rfl underlying119 abS rfl (by decide) (by omega) u4 Ql (tZ.extract 0 (t151:Int).toNat) [.string (tZ.extract 0 (t151:Int).toNat)] (fun _=>True) (fun _=>False) rfl rfl ?aP (fun _ hk=>hk.elim) ?aF ?aO ?aB ?aS ?aL ?_;(case aP=>exact rfl);(case aB=>exact ab);(case aF=>exact(fun _ _=>trivial));(case aO=>exact(kr akC.o));(case aS=>exact(iF ab));(case aL=>have:=apO.o;omega);intro auQ w11 ho hb hg hat;rw[←akK.o]at ho;have HB:=aj.mk (hb);have akA:=aj.mk (ho);clear ho hb hg hat))
         go_roundg k1
         case measure=>have:=pX.o;omega
         case rel=>exact⟨(tZ.extract (t151:Int).toNat tZ.size),(y152),rf,H',⟨by have:=pX.o;omega⟩,⟨kr akA.o⟩,⟨ab⟩⟩
        ·rw[if_neg c8]at H
         exact absurd H (by simp)
       ·rw[if_neg c7]at H
        exact absurd H (by simp)
      ·rw[if_neg c6]at H
       exact absurd H (by simp)
def iH.f (k:Nat) (a0:bG):Option (Bool):=(dD.f k a0).bind fun aaq=>(some aaq.2)
theorem iH.calls (k:Nat) (a0:bG) (r:Bool) (w:World) (h:iH.f k a0=some r) :
  fC 45 #[.string a0] w (.bool r):=by
 have HB:=aj.mk (jM w)
 have H:((dD.f k a0).bind fun aaq=>(some aaq.2))=some r:=h
 replace H:=Option.bind_eq_some_iff.mp H
 obtain⟨⟨t155,t156⟩,A20,H⟩:=H
 replace H:(some t156)=some r:=H
 have A2:=aj.mk A20
 obtain rfl:=dU H
 go_enter func45,ntmps45
 go_wp2_with ((with_reducible refine dG (f:=65) rfl ?_);refine iU (some 7) rfl rfl func65 (by kernel_rfl) rfl #[.string a0] rfl mt ?_;(with_reducible refine(dD.calls k a0 t155 t156 _ A2.o).mono ?_);rintro e w3 ⟨v157,rfl,ho0,hb⟩;refine⟨_,rfl,?_⟩;have arN:=aj.mk (Kd.qF ho0 (iF ab));have HB:=aj.mk (bT ab hb))
 go_ret
 exact⟨re,ab⟩
def iw.f (a0:Int) (a1:Int):Option (Bool):=if a0=121 then(some (decide (a1<256)))else(if a0=98 then(some (decide (a1<2)))else(if a0=110 then(some ((IntKind.u64.wrap (wrap64 (IntKind.i16.wrap (a1))))==a1))else(if a0=113 then(some (decide (a1<65536)))else(if a0=105 then(some ((IntKind.u64.wrap (wrap64 (wrap32 (a1))))==a1))else(if a0=117 then(some (decide (a1<4294967296)))else(if a0=104 then(some (decide (a1<4294967296)))else(if a0=120 then(some true)else(if a0=116 then(some true)else(if a0=100 then(some true)else(some (a1==0)))))))))))
theorem iw.calls (a0:Int) (a1:Int) (r:Bool) (w:World) (h:iw.f a0 a1=some r) :
  Calls prog 122 #[.int .u8 a0,.int .u64 a1] w fun e w'=>e=.returned (.bool r)∧iD w w':=by
 have H:(if a0=121 then(some (decide (a1<256)))else(if a0=98 then(some (decide (a1<2)))else(if a0=110 then(some ((IntKind.u64.wrap (wrap64 (IntKind.i16.wrap (a1))))==a1))else(if a0=113 then(some (decide (a1<65536)))else(if a0=105 then(some ((IntKind.u64.wrap (wrap64 (wrap32 (a1))))==a1))else(if a0=117 then(some (decide (a1<4294967296)))else(if a0=104 then(some (decide (a1<4294967296)))else(if a0=120 then(some true)else(if a0=116 then(some true)else(if a0=100 then(some true)else(some (a1==0))))))))))))=some r:=h
 replace H:=de H;obtain⟨yU,Ou,H⟩|⟨yU,Ou,c3,H⟩:=H
 ·obtain rfl:=dU H
  go_enter func122,ntmps122
  go_wp2
  go_ret
  exact⟨rf,dr⟩
 ·replace H:=de H;obtain⟨u_,Ox,H⟩|⟨u_,Ox,c4,H⟩:=H
  ·obtain rfl:=dU H
   go_enter func122,ntmps122
   go_wp2
   go_ret
   exact⟨rf,dr⟩
  ·replace H:=de H;obtain⟨Ku,Rq,H⟩|⟨Ku,Rq,c5,H⟩:=H
   ·obtain rfl:=dU H
    go_enter func122,ntmps122
    go_wp2
    go_ret
    exact⟨rf,dr⟩
   ·replace H:=de H;obtain⟨tC,FC,H⟩|⟨tC,FC,c6,H⟩:=H
    ·obtain rfl:=dU H
     go_enter func122,ntmps122
     go_wp2
     go_ret
     exact⟨rf,dr⟩
    ·replace H:=de H;obtain⟨Kv,Rt,H⟩|⟨Kv,Rt,c7,H⟩:=H
     ·obtain rfl:=dU H
      go_enter func122,ntmps122
      go_wp2
      go_ret
      exact⟨rf,dr⟩
     ·replace H:=de H;obtain⟨Oy,aay,H⟩|⟨Oy,aay,c8,H⟩:=H
      ·obtain rfl:=dU H
       go_enter func122,ntmps122
       go_wp2
       go_ret
       exact⟨rf,dr⟩
      ·replace H:=de H;obtain⟨yV,aaz,H⟩|⟨yV,aaz,c9,H⟩:=H
       ·obtain rfl:=dU H
        go_enter func122,ntmps122
        go_wp2
        go_ret
        exact⟨rf,dr⟩
       ·replace H:=de H;obtain⟨Oo,aar,H⟩|⟨Oo,aar,c10,H⟩:=H
        ·obtain rfl:=dU H
         go_enter func122,ntmps122
         go_wp2
         go_ret
         exact⟨rf,dr⟩
        ·replace H:=de H;obtain⟨zM,Oq,H⟩|⟨zM,Oq,c11,H⟩:=H
         ·obtain rfl:=dU H
          go_enter func122,ntmps122
          go_wp2
          go_ret
          exact⟨rf,dr⟩
         ·replace H:=de H;obtain⟨wL,UL,H⟩|⟨wL,UL,c12,H⟩:=H
          ·obtain rfl:=dU H
           go_enter func122,ntmps122
           go_wp2
           go_ret
           exact⟨rf,dr⟩
          ·obtain rfl:=dU H
           go_enter func122,ntmps122
           go_wp2
           go_ret
           exact⟨rf,dr⟩
end
end Go.Proofs.YtllcccekodcdmaaGreatDoor.bK
