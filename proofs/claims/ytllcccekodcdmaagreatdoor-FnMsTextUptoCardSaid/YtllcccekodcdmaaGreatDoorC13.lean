import Derived.Laws.IdiomStrings
import Derived.Lib.ItoaNum
import Derived.Maps.Own
import Derived.Maps.OwnOps
import Derived.Maps.RangeWalk
import Derived.Test.YtllcccekodcdmaaGreatDoorC09
import Derived.Test.YtllcccekodcdmaaGreatDoorC12
set_option linter.unusedVariables false
set_option linter.unusedSimpArgs false
set_option maxRecDepth 100000
set_option maxHeartbeats 32000000
open Go.Proofs.Tryz
namespace Go.Proofs.YtllcccekodcdmaaGreatDoor.Ms
open Go Go.RowKit Go.Proofs.ak.aT Go.Proofs.YtllcccekodcdmaaGreatDoor.bK
theorem JD (l:List dS) (hb:dJ l+2*eu l≤1000000):∃k,dA.f k l=some (bs (iY l)):=by
 have hl:=fK l
 have loop:∀(j i:Nat) (pre:List UInt8),l.length-i≤j→i≤l.length→pre.length+(iY (l.drop i)).length≤3000000 →
   ∃k,dA.l0 k (bs pre) l (l.length:Int) (i:Int)=some (bs (pre++iY (l.drop i))):=by
  intro j
  induction j with
  |zero =>
   intro i pre hj hi hp
   have e1:i=l.length:=by omega
   subst e1
   refine⟨1,?_⟩
   simp only[dA.l0]
   rw[if_neg (by omega),List.drop_length];simp[iY]
  |succ j Ip =>
   intro i pre hj hi hp
   by_cases hlt:i<l.length
   ·have hc:=iT l i hlt
    have hbl:=lH l i hlt
    obtain⟨k1,h1⟩:=GZ _ l[i] bW (by omega)
    rw[xC _ _ hlt,dY]at hp
    obtain⟨k2,h2⟩:=Ip (i+1) (pre++jh l[i]) (by omega) (by omega) (by rw[dY];omega)
    refine⟨max k1 k2+1,?_⟩
    simp only[dA.l0]
    rw[if_pos (by omega),if_pos (by omega),if_pos (by omega),o9 _ _ hlt,eY (F:=fun j=>aN.f j (l[i]).f0 (l[i]).f1 (l[i]).f2 (l[i]).f3) (fun j=>aN.mono _ _ _ _ j) (Nat.le_max_left k1 k2) h1]
    simp only[Option.bind_some]
    rw[if_pos (by rw[aH,aH];omega),EM i (by omega),dh]
    have h3:=eY (F:=fun j=>dA.l0 j (bs (pre++jh l[i])) l (l.length:Int) ((i+1:Nat):Int)) (fun j=>dA.dZ j _ _ _ _) (Nat.le_max_right k1 k2) h2
    rw[xC _ _ hlt,←ni]
    exact h3
   ·have e1:i=l.length:=by omega
    subst e1
    refine⟨1,?_⟩
    simp only[dA.l0]
    rw[if_neg (by omega),List.drop_length];simp[iY]
 have hlen:=yc l
 obtain⟨k,hk⟩:=loop _ 0 [] bW (jf _) (by rw[List.drop_zero];simp;omega)
 exact⟨k,hk⟩
mutual
def wO:dS→Nat
 |⟨k,_,_,l⟩=>oG l+(if k=97∨k=40∨k=123∨k=118 then 1 else 0)
def oG:List dS→Nat
 |[]=>0
 |a::l=>max (wO a) (oG l)
end
theorem xE (x:dS):wO x=oG x.f3+(if x.f0=97∨x.f0=40∨x.f0=123∨x.f0=118 then 1 else 0):=by cases x;rw[wO]
theorem Rx (l:List dS) (i:Nat) (h:i<l.length):oG (l.drop i)=max (wO l[i]) (oG (l.drop (i+1))):=by
 rw[List.drop_eq_getElem_cons h];rfl
mutual
theorem aev:∀x:dS,wO x≤kZ x
 |⟨k,_,_,l⟩=>by
  have:=FV l
  rw[wO,kZ]
  split<;>omega
theorem FV:∀l:List dS,oG l≤eu l
 |[]=>bW
 |a::l=>by
  have:=aev a
  have:=FV l
  simp only[oG,eu];omega
end
theorem ai7 (a b:Nat):mx (a:Int) (b:Int)=((max a b:Nat):Int):=by unfold mx;split<;>omega
theorem aaG (n:Nat):∀x:dS,kZ x≤n→kZ x≤1000000→∃k,bV.f k x.f0 x.f1 x.f2 x.f3=some (wO x:Int):=by
 induction n with
 |zero=>intro x h;rw[iG]at h;omega
 |succ n ih =>
 intro x hn hb
 rw[iG]at hn hb
 have hl:=fK x.f3
 have hd:=FV x.f3
 have loop:∀(j i:Nat) (m:Nat),x.f3.length-i≤j→i≤x.f3.length→max m (oG (x.f3.drop i))=oG x.f3 →
   ∃k,bV.l0 k (m:Int) x.f3 (x.f3.length:Int) (i:Int) x.f0 x.f1 x.f2 x.f3=some (wO x:Int):=by
  have fin:∀m:Nat,max m (oG (x.f3.drop x.f3.length))=oG x.f3→bV.l0 1 (m:Int) x.f3 (x.f3.length:Int) (x.f3.length:Int) x.f0 x.f1 x.f2 x.f3=some (wO x:Int):=by
   intro m hm
   rw[List.drop_length]at hm
   have hm:m=oG x.f3:=by rw[←hm];simp[oG]
   subst hm
   simp only[bV.l0]
   rw[if_neg (by omega),xE,EM _ (by omega)]
   by_cases h1:x.f0=97
   ·rw[if_pos h1,if_pos (.inl h1)]
   by_cases h2:x.f0=40
   ·rw[if_neg h1,if_pos h2,if_pos (.inr (.inl h2))]
   by_cases h3:x.f0=123
   ·rw[if_neg h1,if_neg h2,if_pos h3,if_pos (.inr (.inr (.inl h3)))]
   by_cases h4:x.f0=118
   ·rw[if_neg h1,if_neg h2,if_neg h3,if_pos h4,if_pos (.inr (.inr (.inr h4)))]
   ·rw[if_neg h1,if_neg h2,if_neg h3,if_neg h4,if_neg (by rintro(h|h|h|h)<;>contradiction)];rfl
  intro j
  induction j with
  |zero =>
   intro i m hj hi hm
   have e1:i=x.f3.length:=by omega
   subst e1
   exact⟨1,fin m hm⟩
  |succ j Ip =>
   intro i m hj hi hm
   by_cases hlt:i<x.f3.length
   ·have hc:=iT x.f3 i hlt
    obtain⟨k1,h1⟩:=ih x.f3[i] (by omega) (by omega)
    obtain⟨k2,h2⟩:=Ip (i+1) (max m (wO x.f3[i])) (by omega) (by omega) (by rw[Rx _ _ hlt]at hm;omega)
    refine⟨max k1 k2+1,?_⟩
    simp only[bV.l0]
    rw[if_pos (by omega),if_pos (by omega),if_pos (by omega),o9 _ _ hlt,eY (F:=fun j=>bV.f j (x.f3[i]).f0 (x.f3[i]).f1 (x.f3[i]).f2 (x.f3[i]).f3) (fun j=>bV.mono _ _ _ _ j) (Nat.le_max_left k1 k2) h1]
    simp only[Option.bind_some]
    rw[EM i (by omega),ai7]
    exact eY (F:=fun j=>bV.l0 j ((max m (wO x.f3[i]):Nat):Int) x.f3 (x.f3.length:Int) ((i+1:Nat):Int) x.f0 x.f1 x.f2 x.f3) (fun j=>(bV.dZ j).2 _ _ _ _ _ _ _ _) (Nat.le_max_right k1 k2) h2
   ·have e1:i=x.f3.length:=by omega
    subst e1
    exact⟨1,fin m hm⟩
 obtain⟨k,hk⟩:=loop _ 0 0 bW (jf _) (by rw[List.drop_zero];simp)
 exact⟨k+1,hk⟩
mutual
def mY:dS→Prop
 |⟨k,_,s,l⟩=>(k=97→lD s.data.toList)∧oh l
def oh:List dS→Prop
 |[]=>True
 |a::l=>mY a∧oh l
end
theorem QI (x:dS):mY x=((x.f0=97→lD x.f2.data.toList)∧oh x.f3):=by cases x;rw[mY]
theorem Ig (l:List dS) (i:Nat) (h:i<l.length):oh (l.drop i)=(mY l[i]∧oh (l.drop (i+1))):=by
 rw[List.drop_eq_getElem_cons h];rfl
theorem afL (n:Nat):∀x:dS,kZ x≤n→kZ x≤1000000→jv x≤100000→∃k r,aX.f k x.f0 x.f1 x.f2 x.f3=some r∧(r=true→mY x):=by
 induction n with
 |zero=>intro x h;rw[iG]at h;omega
 |succ n ih =>
 intro x hn hb hbl
 rw[iG]at hn hb
 rw[jF]at hbl
 have hl:=fK x.f3
 have loop:∀(j i:Nat),x.f3.length-i≤j→i≤x.f3.length →
   ∃k r,aX.l0 k true (i:Int) x.f0 x.f1 x.f2 x.f3=some r∧(r=true→oh (x.f3.drop i)):=by
  have fin:aX.l0 1 true (x.f3.length:Int) x.f0 x.f1 x.f2 x.f3=some true∧oh (x.f3.drop x.f3.length):=by
   constructor
   ·simp only[aX.l0]
    rw[if_pos trivial,if_neg (by omega)]
   ·rw[List.drop_length];trivial
  intro j
  induction j with
  |zero =>
   intro i hj hi
   have e1:i=x.f3.length:=by omega
   subst e1
   exact⟨1,true,fin.1,fun _=>fin.2⟩
  |succ j Ip =>
   intro i hj hi
   by_cases hlt:i<x.f3.length
   ·have hc:=iT x.f3 i hlt
    have atC:=lH x.f3 i hlt
    obtain⟨k1,r1,h1,g1⟩:=ih x.f3[i] (by omega) (by omega) (by omega)
    cases r1 with
    |false =>
     refine⟨k1+2,false,?_,fun h=>nomatch h⟩
     have h1:=eY (F:=fun j=>aX.f j (x.f3[i]).f0 (x.f3[i]).f1 (x.f3[i]).f2 (x.f3[i]).f3) (fun j=>aX.mono _ _ _ _ j) (Nat.le_succ k1) h1
     rw[aX.l0]
     rw[if_pos rfl,if_pos (by omega),if_pos (by omega),o9 _ _ hlt,h1]
     simp only[Option.bind_some,aX.l0]
     rw[if_neg (by decide)]
    |true =>
     obtain⟨k2,r2,h2,g2⟩:=Ip (i+1) (by omega) (by omega)
     refine⟨max k1 k2+1,r2,?_,fun hr=>by rw[Ig _ _ hlt];exact⟨g1 rfl,g2 hr⟩⟩
     rw[aX.l0]
     rw[if_pos rfl,if_pos (by omega),if_pos (by omega),o9 _ _ hlt,eY (F:=fun j=>aX.f j (x.f3[i]).f0 (x.f3[i]).f1 (x.f3[i]).f2 (x.f3[i]).f3) (fun j=>aX.mono _ _ _ _ j) (Nat.le_max_left k1 k2) h1]
     simp only[Option.bind_some]
     rw[EM i (by omega)]
     exact eY (F:=fun j=>aX.l0 j true ((i+1:Nat):Int) x.f0 x.f1 x.f2 x.f3) (fun j=>(aX.dZ j).2.2 _ _ _ _ _ _) (Nat.le_max_right k1 k2) h2
   ·have e1:i=x.f3.length:=by omega
    subst e1
    exact⟨1,true,fin.1,fun _=>fin.2⟩
 obtain⟨k,r,hk,hr⟩:=loop _ 0 bW (jf _)
 rw[List.drop_zero]at hr
 rw[QI]
 by_cases h97:x.f0=97
 ·obtain⟨k3,r3,h3,g3⟩:=YA x.f2.data.toList (by rw[show x.f2.data.toList.length=x.f2.size by rw[Array.length_toList];rfl];omega)
  rw[o8]at h3
  cases r3 with
  |false =>
   refine⟨k3+3,false,?_,fun h=>nomatch h⟩
   simp only[aX.f]
   rw[if_pos h97,eY (F:=fun j=>bI.f j x.f2) (fun j=>bI.mono _ j) (show k3≤k3+2 by omega) h3]
   simp only[Option.bind_some,aX.j0,aX.l0]
   rw[if_neg (by decide)]
  |true =>
   refine⟨max k k3+2,r,?_,fun h=>⟨fun _=>g3 rfl,hr h⟩⟩
   simp only[aX.f]
   rw[if_pos h97,eY (F:=fun j=>bI.f j x.f2) (fun j=>bI.mono _ j) (show k3≤max k k3+1 by omega) h3]
   simp only[Option.bind_some,aX.j0]
   exact eY (F:=fun j=>aX.l0 j true 0 x.f0 x.f1 x.f2 x.f3) (fun j=>(aX.dZ j).2.2 _ _ _ _ _ _) (Nat.le_max_left k k3) hk
 ·refine⟨k+2,r,?_,fun h=>⟨fun e=>absurd e h97,hr h⟩⟩
  simp only[aX.f,aX.j0]
  rw[if_neg h97]
  exact hk
theorem wK {x y:bG} (h:x.toList=y.toList):x=y:=by
 rw[ByteArray.toList_eq,ByteArray.toList_eq]at h
 exact ByteArray.ext (Array.ext' h)
theorem agh (n:Nat):∀x y:dS,kZ x≤n→kZ x≤1000000→∃k r,aU.f k x.f0 x.f1 x.f2 x.f3 y.f0 y.f1 y.f2 y.f3=some r∧(r=false→x≠y):=by
 induction n with
 |zero=>intro x y h;rw[iG]at h;omega
 |succ n ih =>
 intro x y hn hb
 rw[iG]at hn hb
 have hl:=fK x.f3
 by_cases h0:x.f0=y.f0
 ·by_cases h1:x.f1=y.f1
  ·by_cases h2:x.f2.toList=y.f2.toList
   ·by_cases h3:x.f3.length=y.f3.length
    ·have loop:∀(j i:Nat),x.f3.length-i≤j→i≤x.f3.length →
       ∃k r,aU.l0 k (x.f3.length:Int) (i:Int) x.f0 x.f1 x.f2 x.f3 y.f0 y.f1 y.f2 y.f3=some r∧(r=false→x.f3≠y.f3):=by
      intro j
      induction j with
      |zero =>
       intro i hj hi
       have e1:i=x.f3.length:=by omega
       subst e1
       refine⟨1,true,?_,fun h=>nomatch h⟩
       simp only[aU.l0]
       rw[if_neg (by omega)]
      |succ j Ip =>
       intro i hj hi
       by_cases hlt:i<x.f3.length
       ·have hc:=iT x.f3 i hlt
        have hlt2:i<y.f3.length:=by omega
        obtain⟨k1,r1,h5,g1⟩:=ih x.f3[i] y.f3[i] (by omega) (by omega)
        cases r1 with
        |false =>
         refine⟨k1+1,false,?_,fun _ e=>g1 rfl (by simp only[e])⟩
         simp only[aU.l0]
         rw[if_pos (by omega),if_pos (by omega),if_pos (by omega),if_pos (by omega),o9 _ _ hlt,o9 _ _ hlt2,h5]
         rfl
        |true =>
         obtain⟨k2,r2,h6,g2⟩:=Ip (i+1) (by omega) (by omega)
         refine⟨max k1 k2+1,r2,?_,g2⟩
         simp only[aU.l0]
         rw[if_pos (by omega),if_pos (by omega),if_pos (by omega),if_pos (by omega),o9 _ _ hlt,o9 _ _ hlt2,eY (F:=fun j=>aU.f j (x.f3[i]).f0 (x.f3[i]).f1 (x.f3[i]).f2 (x.f3[i]).f3 (y.f3[i]).f0 (y.f3[i]).f1 (y.f3[i]).f2 (y.f3[i]).f3) (fun j=>aU.mono _ _ _ _ _ _ _ _ j) (Nat.le_max_left k1 k2) h5]
         simp only[Option.bind_some]
         rw[if_pos trivial,EM i (by omega)]
         exact eY (F:=fun j=>aU.l0 j (x.f3.length:Int) ((i+1:Nat):Int) x.f0 x.f1 x.f2 x.f3 y.f0 y.f1 y.f2 y.f3) (fun j=>(aU.dZ j).2.2 _ _ _ _ _ _ _ _ _ _) (Nat.le_max_right k1 k2) h6
       ·have e1:i=x.f3.length:=by omega
        subst e1
        refine⟨1,true,?_,fun h=>nomatch h⟩
        simp only[aU.l0]
        rw[if_neg (by omega)]
     obtain⟨k,r,hk,hr⟩:=loop _ 0 bW (jf _)
     refine⟨k+2,r,?_,fun h e=>hr h (by rw[e])⟩
     simp only[aU.f,aU.j0]
     rw[if_pos h0,if_pos h1,if_pos h2,if_neg (by simp[h3])]
     exact hk
    ·refine⟨2,false,?_,fun _ e=>h3 (by rw[e])⟩
     simp only[aU.f,aU.j0]
     rw[if_pos h0,if_pos h1,if_pos h2,if_pos (by simp;omega)]
   ·refine⟨2,false,?_,fun _ e=>h2 (by rw[e])⟩
    simp only[aU.f,aU.j0]
    rw[if_pos h0,if_pos h1,if_neg h2];rfl
  ·refine⟨2,false,?_,fun _ e=>h1 (by rw[e])⟩
   simp only[aU.f,aU.j0]
   rw[if_pos h0,if_neg h1];rfl
 ·refine⟨2,false,?_,fun _ e=>h0 (by rw[e])⟩
  simp only[aU.f,aU.j0]
  rw[if_neg h0];rfl
mutual
def rV:dS→Prop
 |⟨k,_,_,l⟩=>(k=97→∀(i:Nat) (h:i<l.length),(l[i]).f0=123→∀(j:Nat) (hj:j<l.length),j≤i→0<(l[j]).f3.length)∧uj l
def uj:List dS→Prop
 |[]=>True
 |a::l=>rV a∧uj l
end
mutual
def Z8:dS→Prop
 |⟨k,_,_,l⟩=>(k=97→∀(i:Nat) (h:i<l.length),(l[i]).f0=123→∀(j:Nat) (hj:j<l.length),j<i→(l[j]).f3.getD 0 zo≠(l[i]).f3.getD 0 zo)∧EY l
def EY:List dS→Prop
 |[]=>True
 |a::l=>Z8 a∧EY l
end
theorem QE (x:dS):rV x=((x.f0=97→∀(i:Nat) (h:i<x.f3.length),(x.f3[i]).f0=123→∀(j:Nat) (hj:j<x.f3.length),j≤i→0<(x.f3[j]).f3.length)∧uj x.f3):=by cases x;rw[rV]
theorem aeb (x:dS):Z8 x=((x.f0=97→∀(i:Nat) (h:i<x.f3.length),(x.f3[i]).f0=123→∀(j:Nat) (hj:j<x.f3.length),j<i→(x.f3[j]).f3.getD 0 zo≠(x.f3[i]).f3.getD 0 zo)∧EY x.f3):=by cases x;rw[Z8]
theorem zC:∀(l:List dS),uj l→∀(i:Nat) (h:i<l.length),rV l[i]
 |a::l,h,0,_=>h.1
 |a::l,h,i+1,hi=>zC l h.2 i (by simpa using hi)
theorem QM (l:List dS) (i:Nat) (h:i<l.length):EY (l.drop i)=(Z8 l[i]∧EY (l.drop (i+1))):=by
 rw[List.drop_eq_getElem_cons h];rfl
theorem EK (l:List dS):aA l 0=l.getD 0 zo:=rfl
theorem OE (n:Nat):∀x:dS,kZ x≤n→kZ x≤1000000→rV x→∃k r,aJ.f k x.f0 x.f1 x.f2 x.f3=some r∧(r=true→Z8 x):=by
 induction n with
 |zero=>intro x h;rw[iG]at h;omega
 |succ n ih =>
 intro x hn hb hk
 rw[iG]at hn hb
 rw[QE]at hk
 have hl:=fK x.f3
 have inner:∀(i:Nat) (hi:i<x.f3.length) (R:Option Bool→Prop) (rest:Nat→Prop),True:=fun _ _ _ _=>trivial
 have amk:∀(j i p:Nat),i-p≤j→p≤i→(hi:i<x.f3.length)→∀(k2:Nat) (r2:Bool),aJ.l0 k2 (x.f3.length:Int) ((i+1:Nat):Int) x.f0 x.f1 x.f2 x.f3=some r2 →
   ∃k r,aJ.l1 k (i:Int) (p:Int) (x.f3.length:Int) (i:Int) x.f0 x.f1 x.f2 x.f3=some r ∧
    (r=true→r2=true∧(x.f0=97→(x.f3[i]).f0=123→∀(q:Nat) (hq:q<x.f3.length),p≤q→q<i→(x.f3[q]).f3.getD 0 zo≠(x.f3[i]).f3.getD 0 zo)):=by
  intro j
  induction j with
  |zero =>
   intro i p hj hp hi k2 r2 h2
   have e1:p=i:=by omega
   subst e1
   refine⟨k2+2,r2,?_,fun hr=>⟨hr,fun _ _ q _ h3 h4=>by omega⟩⟩
   simp only[aJ.l1,aJ.j2]
   rw[if_neg (by omega),if_neg (by decide),EM p (by omega)]
   exact h2
  |succ j Ip =>
   intro i p hj hp hi k2 r2 h2
   have stop:∀(hx:¬(x.f0=97∧(x.f3[i]).f0=123)),p<i→∃k r,aJ.l1 k (i:Int) (p:Int) (x.f3.length:Int) (i:Int) x.f0 x.f1 x.f2 x.f3=some r ∧
    (r=true→r2=true∧(x.f0=97→(x.f3[i]).f0=123→∀(q:Nat) (hq:q<x.f3.length),p≤q→q<i→(x.f3[q]).f3.getD 0 zo≠(x.f3[i]).f3.getD 0 zo)):=by
    intro hx hpi
    refine⟨k2+2,r2,?_,fun hr=>⟨hr,fun h4 h5=>absurd ⟨h4,h5⟩ hx⟩⟩
    by_cases h97:x.f0=97
    ·have mP:¬(x.f3[i]).f0=123:=fun h=>hx ⟨h97,h⟩
     simp only[aJ.l1,aJ.j2]
     rw[if_pos (by omega),if_pos h97,if_pos (by omega),if_pos (by omega),o9 _ _ hi,if_neg (by simpa using mP),EM i (by omega)]
     exact h2
    ·simp only[aJ.l1,aJ.j2]
     rw[if_pos (by omega),if_neg h97,if_neg (by decide),EM i (by omega)]
     exact h2
   by_cases hpi:p<i
   ·by_cases hx:x.f0=97∧(x.f3[i]).f0=123
    ·have hpl:p<x.f3.length:=by omega
     have k1:=hk.1 hx.1 i hi hx.2 i hi bW
     have k3:=hk.1 hx.1 i hi hx.2 p hpl (by omega)
     have c1:=iT x.f3 p hpl
     have c2:=iG x.f3[p]
     have c3:=iT (x.f3[p]).f3 0 k3
     have g0:(x.f3[p]).f3.getD 0 zo=(x.f3[p]).f3[0]:=by simp[wC,gQ k3]
     obtain⟨k4,r4,h4,e4⟩:=agh _ ((x.f3[p]).f3.getD 0 zo) ((x.f3[i]).f3.getD 0 zo) bW (by rw[g0];omega)
     cases r4 with
     |true =>
      refine⟨k4+2,false,?_,fun h=>nomatch h⟩
      simp only[aJ.l1,aJ.j2]
      rw[if_pos (by omega),if_pos hx.1,if_pos (by omega),if_pos (by omega),o9 _ _ hi,if_pos (by rw[hx.2];rfl),if_pos (by omega),if_pos (by omega),o9 _ _ hpl,if_pos (by omega),if_pos (by omega),if_pos (by omega),if_pos (by omega),EK,EK,h4]
      rfl
     |false =>
      obtain⟨k5,r5,h5,g5⟩:=Ip i (p+1) (by omega) (by omega) hi k2 r2 h2
      refine⟨max k4 k5+2,r5,?_,fun hr=>⟨(g5 hr).1,fun a1 a2 q hq q1 q2=>?_⟩⟩
      ·simp only[aJ.l1,aJ.j2]
       rw[if_pos (by omega),if_pos hx.1,if_pos (by omega),if_pos (by omega),o9 _ _ hi,if_pos (by rw[hx.2];rfl),if_pos (by omega),if_pos (by omega),o9 _ _ hpl,if_pos (by omega),if_pos (by omega),if_pos (by omega),if_pos (by omega),EK,EK,
        eY (F:=fun j=>aU.f j ((x.f3[p]).f3.getD 0 zo).f0 ((x.f3[p]).f3.getD 0 zo).f1 ((x.f3[p]).f3.getD 0 zo).f2 ((x.f3[p]).f3.getD 0 zo).f3 ((x.f3[i]).f3.getD 0 zo).f0 ((x.f3[i]).f3.getD 0 zo).f1 ((x.f3[i]).f3.getD 0 zo).f2 ((x.f3[i]).f3.getD 0 zo).f3) (fun j=>aU.mono _ _ _ _ _ _ _ _ j) (Nat.le_max_left k4 k5) h4]
       simp only[Option.bind_some]
       rw[if_neg (by decide),EM p (by omega)]
       exact eY (F:=fun j=>aJ.l1 j (i:Int) ((p+1:Nat):Int) (x.f3.length:Int) (i:Int) x.f0 x.f1 x.f2 x.f3) (fun j=>(aJ.dZ j).2.2.1 _ _ _ _ _ _ _ _) (Nat.le_max_right k4 k5) h5
      ·by_cases e:q=p
       ·subst e;exact e4 rfl
       ·exact(g5 hr).2 a1 a2 q hq (by omega) q2
    ·exact stop hx hpi
   ·have e1:p=i:=by omega
    subst e1
    refine⟨k2+2,r2,?_,fun hr=>⟨hr,fun _ _ q _ h3 h4=>by omega⟩⟩
    simp only[aJ.l1,aJ.j2]
    rw[if_neg (by omega),if_neg (by decide),EM p (by omega)]
    exact h2
 have loop:∀(j i:Nat),x.f3.length-i≤j→i≤x.f3.length →
   ∃k r,aJ.l0 k (x.f3.length:Int) (i:Int) x.f0 x.f1 x.f2 x.f3=some r∧(r=true→EY (x.f3.drop i)∧(x.f0=97→∀(m:Nat) (hm:m<x.f3.length),i≤m→(x.f3[m]).f0=123→∀(q:Nat) (hq:q<x.f3.length),q<m→(x.f3[q]).f3.getD 0 zo≠(x.f3[m]).f3.getD 0 zo)):=by
  have fin:aJ.l0 1 (x.f3.length:Int) (x.f3.length:Int) x.f0 x.f1 x.f2 x.f3=some true∧EY (x.f3.drop x.f3.length):=by
   constructor
   ·simp only[aJ.l0]
    rw[if_neg (by omega)]
   ·rw[List.drop_length];trivial
  intro j
  induction j with
  |zero =>
   intro i hj hi
   have e1:i=x.f3.length:=by omega
   subst e1
   exact⟨1,true,fin.1,fun _=>⟨fin.2,fun _ m hm h=>by omega⟩⟩
  |succ j Ip =>
   intro i hj hi
   by_cases hlt:i<x.f3.length
   ·have hc:=iT x.f3 i hlt
    obtain⟨k1,r1,h1,g1⟩:=ih x.f3[i] (by omega) (by omega) (zC _ hk.2 i hlt)
    cases r1 with
    |false =>
     refine⟨k1+1,false,?_,fun h=>nomatch h⟩
     simp only[aJ.l0]
     rw[if_pos (by omega),if_pos (by omega),if_pos (by omega),o9 _ _ hlt,h1]
     rfl
    |true =>
     obtain⟨k2,r2,h2,g2⟩:=Ip (i+1) (by omega) (by omega)
     obtain⟨k3,r3,h3,g3⟩:=amk _ i 0 bW (jf _) hlt k2 r2 h2
     refine⟨max k1 k3+1,r3,?_,fun hr=>?_⟩
     ·rw[aJ.l0]
      rw[if_pos (by omega),if_pos (by omega),if_pos (by omega),o9 _ _ hlt,eY (F:=fun j=>aJ.f j (x.f3[i]).f0 (x.f3[i]).f1 (x.f3[i]).f2 (x.f3[i]).f3) (fun j=>aJ.mono _ _ _ _ j) (Nat.le_max_left k1 k3) h1]
      simp only[Option.bind_some]
      rw[if_pos trivial]
      exact eY (F:=fun j=>aJ.l1 j (i:Int) 0 (x.f3.length:Int) (i:Int) x.f0 x.f1 x.f2 x.f3) (fun j=>(aJ.dZ j).2.2.1 _ _ _ _ _ _ _ _) (Nat.le_max_right k1 k3) h3
     ·obtain⟨e2,f2⟩:=g3 hr
      obtain⟨o2,m2⟩:=g2 e2
      refine⟨by rw[QM _ _ hlt];exact⟨g1 rfl,o2⟩,fun a1 m hm him a2 q hq hqm=>?_⟩
      by_cases e:m=i
      ·subst e;exact f2 a1 a2 q hq (jf _) hqm
      ·exact m2 a1 m hm (by omega) a2 q hq hqm
   ·have e1:i=x.f3.length:=by omega
    subst e1
    exact⟨1,true,fin.1,fun _=>⟨fin.2,fun _ m hm h=>by omega⟩⟩
 obtain⟨k,r,hk1,hr⟩:=loop _ 0 bW (jf _)
 refine⟨k+1,r,hk1,fun h=>?_⟩
 obtain⟨h1,h2⟩:=hr h
 rw[List.drop_zero]at h1
 rw[aeb]
 exact⟨fun a i hi b j hj hji=>h2 a i hi (jf _) b j hj hji,h1⟩
end Go.Proofs.YtllcccekodcdmaaGreatDoor.Ms
namespace Go.Proofs.YtllcccekodcdmaaGreatDoor.Ms
open Go Go.RowKit Go.Maps Go.Proofs.ak.aT Go.Proofs.ak.cO Go.Proofs.YtllcccekodcdmaaGreatDoor.bK
section
def Rv (v:Value):Option (DataW Value×List MemPlace):=some (.held v,[])
abbrev Mp (w:World) (k:TypeId) (b n:Nat) (D:DataW Value):Prop:=w.ownsMap prog k Rv b n D
section
variable {ops:Array Oper} {o:Oper} {a:Act} {Q:Exit→Act→World→Prop} {Kc:Act→World→Prop}
theorem acn (w:World) (hgd:o.guard=none) (m x v:Operand) (t:TypeId) (hop:o.op=Op.mapUpdate t m x v) (hd:o.dst=none)
  (k e:TypeId) (K:Keyed prog k) (ht:prog.underlying t=some (.map k e)) (b n:Nat) (D:DataW Value) (hm:a.eval m=.map (some b)) (hown:Mp w k b n D) (hn:n<maxLen)
  (key val:Value) (kl:Lit) (hx:a.eval x=key) (hv:a.eval v=val) (hkey:keyOf prog k key=some kl)
  (h:∀w',Mp w' k b (n+1) (D.put kl (.held val))→w.grownBy w' (some b)→Kc (a.put o.dst undef) w') :
  if Region.wanted o (yielded ops a.tmps)=true then Oper.wp prog o a w Kc Q else Kc (a.put o.dst undef) w:=by
 have hw:Region.wanted o (yielded ops a.tmps)=true:=by simp[Region.wanted,hgd]
 rw[if_pos hw]
 obtain⟨w',hrun,r1,r2⟩:=hown.update K ht hn hkey (rfl:Rv val=some (.held val,[]))
 unfold Oper.wp
 simp[execOp,hop,hm,hx,hv,hrun,Result.andThen]
 exact h w' r1 r2
end
end
end Go.Proofs.YtllcccekodcdmaaGreatDoor.Ms
namespace Go.Proofs.YtllcccekodcdmaaGreatDoor.Ms
open Go Go.RowKit Go.Proofs.ak.aT Go.Proofs.ak.cO Go.Proofs.YtllcccekodcdmaaGreatDoor.bK
theorem lN (t:TypeId) (u:Value) (c:UInt8) (l:List UInt8) (k:Int) (hk:kindOf c.toNat=k) (w:World) :
  fC 77 #[.agg #[.iface t u,.string (bs (c::l))]] w (.int .i64 k):=by
 have HB:=aj.mk ((jM w).alloc bW (.cells #[.iface t u,.string (bs (c::l))] 94))
 go_enter func77,ntmps77
 go_wp2_with (go_at_call 68;refine gU (dQ c l k hk _) ?_)
 go_ret
 exact⟨rfl,HB.o⟩
theorem Pv (b:Nat) (ty:Value) (s:Value) (w:World) (hb:w.heap[b]?=some (.cells #[ty,s] 102 (0,0))) :
  uQ 113 #[.iface 100 (.pointer (some ⟨b,0,none⟩))] w s:=by
 have c1:=au hb 1 (v:=s) rfl
 clear hb
 go_enter func113,ntmps113
 go_wp2
 go_ret
 exact⟨rfl,rfl⟩
theorem xZ (b:Nat) (ty:Value) (A:Option Addr) (n c:Nat) (sg:bG) (w:World) (hb:w.heap[b]?=some (.cells #[ty,.slice A n c] 102 (0,0))) :
  fC 78 #[.agg #[.iface 100 (.pointer (some ⟨b,0,none⟩)),.string sg]] w (.int .i64 (n:Nat)):=by
 have HB:=aj.mk ((jM w).alloc bW (.cells #[.iface 100 (.pointer (some ⟨b,0,none⟩)),.string sg] 94))
 have KB:=aj.mk (aQ hb (.cells #[.iface 100 (.pointer (some ⟨b,0,none⟩)),.string sg] 94))
 clear hb
 go_enter func78,ntmps78
 go_wp2_with (go_at_call 113;refine gU (Pv b ty _ _ KB.o) ?_)
 go_ret
 exact⟨rfl,HB.o⟩
theorem MH (b:Nat) (k t s2:Value) (A:Option Addr) (n c:Nat) (sg:bG) (w:World) (hb:w.heap[b]?=some (.cells #[k,t,.slice A n c,s2] 132 (0,0))) :
  fC 78 #[.agg #[.iface 129 (.pointer (some ⟨b,0,none⟩)),.string sg]] w (.int .i64 (n:Nat)):=by
 have HB:=aj.mk ((jM w).alloc bW (.cells #[.iface 129 (.pointer (some ⟨b,0,none⟩)),.string sg] 94))
 have hl:=lt_of_block hb
 have c2:=au hb 2 (v:=.slice A n c) rfl
 clear hb
 go_enter func78,ntmps78
 go_wp2
 go_ret
 exact⟨rfl,HB.o⟩
theorem GH (A:Option Addr) (n c:Nat) (sg:bG) (w:World) :
  fC 88 #[.agg #[.iface 91 (.agg #[.slice A n c]),.string sg]] w (.int .i64 (n:Nat)):=by
 go_enter func88,ntmps88
 go_wp2
 go_ret
 exact⟨rfl,((jM w).alloc bW _).alloc (by simp) _⟩
theorem ahf (k:Int) (sg:bG) (w:World):fC 110 #[.agg #[.iface 83 (.int .i16 k),.string sg]] w (.int .i64 (wrap64 k)):=by
 go_enter func110,ntmps110
 go_wp2
 go_ret
 exact⟨rfl,gG _⟩
theorem ahe (k:Int) (sg:bG) (w:World):fC 110 #[.agg #[.iface 21 (.int .i32 k),.string sg]] w (.int .i64 (wrap64 k)):=by
 go_enter func110,ntmps110
 go_wp2
 go_ret
 exact⟨rfl,gG _⟩
theorem ahg (k:Int) (sg:bG) (w:World):fC 110 #[.agg #[.iface 2 (.int .i64 k),.string sg]] w (.int .i64 k):=by
 go_enter func110,ntmps110
 go_wp2
 go_ret
 exact⟨rfl,gG _⟩
theorem adl (k:Int) (sg:bG) (w:World):fC 111 #[.agg #[.iface 84 (.int .u16 k),.string sg]] w (.int .u64 (IntKind.u64.wrap k)):=by
 go_enter func111,ntmps111
 go_wp2
 go_ret
 exact⟨rfl,gG _⟩
theorem ado (k:Int) (sg:bG) (w:World):fC 111 #[.agg #[.iface 22 (.int .u32 k),.string sg]] w (.int .u64 (IntKind.u64.wrap k)):=by
 go_enter func111,ntmps111
 go_wp2
 go_ret
 exact⟨rfl,gG _⟩
theorem adk (k:Int) (sg:bG) (w:World):fC 111 #[.agg #[.iface 88 (.int .u32 k),.string sg]] w (.int .u64 (IntKind.u64.wrap k)):=by
 go_enter func111,ntmps111
 go_wp2
 go_ret
 exact⟨rfl,gG _⟩
theorem adn (k:Int) (sg:bG) (w:World):fC 111 #[.agg #[.iface 30 (.int .u64 k),.string sg]] w (.int .u64 k):=by
 go_enter func111,ntmps111
 go_wp2
 go_ret
 exact⟨rfl,gG _⟩
theorem U7 (a:A) (hl:a.dN.ty.length≤1000000) (ok:Nat→Prop) (v:Value) (g n c i:Nat) (sg:bG) (w:World) (hv:HA w ok a v) (hi:i<n) (hc:w.cell? ⟨g,i,none⟩=some v) :
  fC 89 #[.agg #[.iface 91 (.agg #[.slice (some ⟨g,0,none⟩) n c]),.string sg],.int .i64 (i:Nat)] w (.agg #[v,.string (bs a.dN.ty)]):=by
 obtain⟨t,u,hvu⟩:=hv.iface
 subst hvu
 have hB:=(((jM w).alloc bW (.cells #[.iface 91 (.agg #[.slice (some ⟨g,0,none⟩) n c]),.string sg] 94)).alloc (by simp) (.cells #[.nilIface,.string ⟨#[]⟩] 94)).alloc (by simp;omega) (.cells #[.slice (some ⟨g,0,none⟩) n c] 91)
 have hc3:=(hB.cell (fA w _ hc)).trans hc
 have HV:=ah (fun (w1:World) (h:HA w1 ok a (.iface t u))=>valueOf a hl (.iface t u) ok w1 h)
 have HA3:=aj.mk (HA.below hv hB)
 have HB3:=aj.mk hB
 have KR:=aj.mk (aQ (aV (w.alloc (.cells #[.iface 91 (.agg #[.slice (some ⟨g,0,none⟩) n c]),.string sg] 94)) (.cells #[.nilIface,.string ⟨#[]⟩] 94) (w.heap.size+1) (by simp)) (.cells #[.slice (some ⟨g,0,none⟩) n c] 91))
 have hi1:((i:Nat):Int)<(n:Int):=by omega
 clear hv hB hc
 go_enter func89,ntmps89
 go_wp2_with (go_at_call 52;refine(HV.o _ HA3.o).mono ?_;rintro e w1 ⟨rfl,hb1⟩;have kr:=(hb1.block _ (lt_of_block KR.o)).trans KR.o;have k4:=au kr 0 (v:=.nilIface) rfl;have k5:=aI kr 0;have k6:=au kr 1 (v:=.string ⟨#[]⟩) rfl;have k7:=aI kr 1;have HB1:=aj.mk (HB3.o.trans (hb1.mono HB3.o.size));clear hb1 kr)
 refine iW (v:=.agg #[.iface t u,.string (bs a.dN.ty)]) (by simp[results,results89,go_sem,k4,k5,k6,k7]) rfl ⟨rfl,?_⟩
 exact(HB1.o.setCell (by simp) _).setCell (by simp) _
theorem indexOf (b g n c i:Nat) (ty:Value) (tt:List UInt8) (t:TypeId) (u:Value) (w:World) (hb:w.heap[b]?=some (.cells #[ty,.slice (some ⟨g,0,none⟩) n c] 102 (0,0))) (hi:i<n) (hc:w.cell? ⟨g,i,none⟩=some (.iface t u)) :
  fC 80 #[.agg #[.iface 100 (.pointer (some ⟨b,0,none⟩)),.string (bs (91::tt))],.int .i64 (i:Nat)] w (.agg #[.iface t u,.string (bs tt)]):=by
 have hB:=((jM w).alloc bW (.cells #[.iface 100 (.pointer (some ⟨b,0,none⟩)),.string (bs (91::tt))] 94)).alloc (by simp) (.cells #[.nilIface,.string ⟨#[]⟩] 94)
 have c0:=(hB.cell (fA w _ hc)).trans hc
 have c1:=au (aQ (aV w (.cells #[.iface 100 (.pointer (some ⟨b,0,none⟩)),.string (bs (91::tt))] 94) _ rfl) (.cells #[.nilIface,.string ⟨#[]⟩] 94)) 0 (v:=.iface 100 (.pointer (some ⟨b,0,none⟩))) rfl
 have c2:=au (aQ (aV w (.cells #[.iface 100 (.pointer (some ⟨b,0,none⟩)),.string (bs (91::tt))] 94) _ rfl) (.cells #[.nilIface,.string ⟨#[]⟩] 94)) 1 (v:=.string (bs (91::tt))) rfl
 have KB:=aj.mk (aQ (aQ hb (.cells #[.iface 100 (.pointer (some ⟨b,0,none⟩)),.string (bs (91::tt))] 94)) (.cells #[.nilIface,.string ⟨#[]⟩] 94))
 have hi1:((i:Nat):Int)<(n:Int):=by omega
 have HB:=aj.mk hB
 clear hB hc hb
 go_enter func80,ntmps80
 go_wp2
 refine lgo [10] ((fun w'=>w'.cell? ⟨g,i,none⟩=some (.iface t u)∧w'.cell? ⟨w.heap.size,0,none⟩=some (.iface 100 (.pointer (some ⟨b,0,none⟩)))∧w'.cell? ⟨w.heap.size,1,none⟩=some (.string (bs (91::tt))))) fun hHeld=>?_
 refine jS 0 ?_
 refine jS 1 ?_
 refine jS 3 ?_
 refine jS 6 ?_
 refine jS 7 ?_
 refine ln 2 fun K hK=>?_
 go_simp
 refine(Pv b ty (.slice (some ⟨g,0,none⟩) n c) _ ?_).mono ?_;(exact KB.o);rintro e w1 ⟨rfl,rfl⟩
 (try go_wp2_with fail)
 refine ji hK ?_;clear hK K hHeld;intro hHeld
 refine jS 4 ?_
 refine jS 5 ?_
 refine ln 8 fun K hK=>?_
 go_simp
 refine gU (xG _ _) ?_
 (try go_wp2_with fail)
 refine ji hK ?_;clear hK K hHeld;intro hHeld
 refine jS 9 ?_
 refine PG 10 fun K hK=>?_
 go_simp
 refine Qe hK ?_
 clear hK K
 refine uJ ?_
 go_wp2
 refine iW (v:=.agg #[.iface t u,.string (bs tt)]) (by simp[results,results80,go_sem]) rfl ⟨rfl,?_⟩
 exact(((jM w).alloc bW _).alloc (by simp) _).drew
def uq (b:Bool):bG:=if b then⟨#[116,114,117,101]⟩else⟨#[102,97,108,115,101]⟩
theorem OM (b:Bool) (w:World):uQ 129 #[.bool b] w (.string (uq b)):=by
 cases b
 ·go_enter func129,ntmps129
  go_wp2
  go_ret
  exact⟨rfl,rfl⟩
 ·go_enter func129,ntmps129
  go_wp2
  go_ret
  exact⟨rfl,rfl⟩
theorem formatBool (b:Bool) (w:World):uQ 106 #[.bool b] w (.string (uq b)):=by
 go_enter func106,ntmps106
 go_wp2_with (go_at_call 129;refine gU (OM b _) ?_)
 go_ret
 exact⟨rfl,rfl⟩
theorem acT (b:Bool) (w:World):uQ 75 #[.iface 4 (.bool b)] w (.string (uq b)):=by
 go_enter func75,ntmps75
 go_wp2_with (go_at_call 106;refine gU (formatBool b _) ?_)
 go_ret
 exact⟨rfl,rfl⟩
end Go.Proofs.YtllcccekodcdmaaGreatDoor.Ms
namespace Go.Proofs.YtllcccekodcdmaaGreatDoor.Ms
open Go Go.RowKit Go.Maps Go.Proofs.ak.aT
theorem Bh:Keyed prog 110:=int_keyed underlying110
theorem abZ (c:Nat) (h:c<256):keyOf prog 110 (.int .u8 (c:Int))=some (.int .u8 (c:Int)) :=
 keyOf_int_mk underlying110 (by simp[Lit.wf,IntKind.min,IntKind.max,IntKind.bits,IntKind.signed];omega)
theorem akl (w:World):(zeroValue 70).run prog w=.ok (.agg #[.string ⟨#[]⟩,.nilIface]) w:=by kernel_rfl
def HD (w:World) (ok:Nat→Prop) (D:DataW Value) (c:Nat):Option A→Prop
 |none=>∀zd,D.atKey (.int .u8 (c:Int)) zd=zd
 |some a=>∃v,(∀zd,D.atKey (.int .u8 (c:Int)) zd=.held (.agg #[.string (bs a.dN.sig),v]))∧HA w ok a v
def Hm (w:World) (ok:Nat→Prop) (mb:Nat) (H:Nat→Option A):Prop :=
 ∃n D,Mp w 110 mb n D∧n≤1000∧IsMap D∧∀c,c<256→HD w ok D c (H c)
theorem HD.move {w w':World} {ok:Nat→Prop} {D:DataW Value} {c:Nat} {x:Option A} (h:HD w ok D c x) (hm:∀a v,HA w ok a v→HA w' ok a v):HD w' ok D c x:=by
 cases x with
 |none=>exact h
 |some a=>obtain⟨v,h1,h2⟩:=h;exact⟨v,h1,hm a v h2⟩
theorem Oi {w w':World} (hb:Below w.heap.size w w'):w.grownBy w' none:=⟨hb.1,hb.2,hb.3,hb.size,fun i hi _=>hb.block i hi⟩
theorem Hm.below {w w':World} {ok:Nat→Prop} {mb:Nat} {H:Nat→Option A} (h:Hm w ok mb H) (hb:Below w.heap.size w w'):Hm w' ok mb H:=by
 obtain⟨n,D,h1,h2,h3,h4⟩:=h
 have hlt:=h1.lt
 obtain⟨es,clock,hb1,F,hs,hD⟩:=h1
 exact⟨n,D,⟨es,clock,(hb.block _ hlt).trans hb1,F,hs,hD⟩,h2,h3,fun c hc=>(h4 c hc).move fun a v ha=>ha.below hb⟩
theorem ai3 {w:World} {ok:Nat→Prop} {mb:Nat} {H:Nat→Option A} (h:Hm w ok mb H) (c:Nat) (hc:c<256) :
  (H c=none∧(Instr.lookup 106 (.map (some mb)) (.int .u8 (c:Int)) true).run prog w=.ok (.tuple #[.agg #[.string ⟨#[]⟩,.nilIface],.bool false]) w) ∨
  ∃a v,H c=some a∧HA w ok a v∧(Instr.lookup 106 (.map (some mb)) (.int .u8 (c:Int)) true).run prog w=.ok (.tuple #[.agg #[.string (bs a.dN.sig),v],.bool true]) w:=by
 obtain⟨n,D,⟨es,clock,hb,F,hs,rfl⟩,h2,h3,h4⟩:=h
 have hd:=h4 c hc
 rcases fit_look true Bh underlying106 (akl w) hb F (abZ c hc)with ⟨hrun,_,hat⟩|⟨e0,y,_,_,hrun,hRv,hat,_⟩
 ·cases hH:H c with
  |none=>exact .inl ⟨rfl,hrun⟩
  |some a =>
   rw[hH]at hd
   obtain⟨v,h1,_⟩:=hd
   have:=(hat .nil).symm.trans (h1 .nil)
   cases this
 ·have hy:y.1=.held e0.val:=by cases hRv;rfl
  cases hH:H c with
  |none =>
   rw[hH]at hd
   have:=(hd .nil).symm.trans (hat .nil)
   rw[hy]at this
   cases this
  |some a =>
   rw[hH]at hd
   obtain⟨v,h1,h2⟩:=hd
   have:=(h1 .nil).symm.trans (hat .nil)
   rw[hy]at this
   injection this with e
   refine .inr ⟨a,v,rfl,h2,?_⟩
   rw[e]
   exact hrun
theorem Hm.wp {ops:Array Oper} {rest:List Oper} {o:Oper} {b:Act} {Q:Exit→Act→World→Prop} (hgd:o.guard=none) (m x:Operand) (hop:o.op=Op.lookup 106 m x true)
  {w:World} {ok:Nat→Prop} {mb:Nat} {H:Nat→Option A} (h:Hm w ok mb H) (c:Nat) (hc:c<256) (hm:b.eval m=.map (some mb)) (hx:b.eval x=.int .u8 (c:Int))
  (h0:H c=none→wpList prog ops Q rest (b.put o.dst (.tuple #[.agg #[.string ⟨#[]⟩,.nilIface],.bool false])) w)
  (h1:∀a v,H c=some a→HA w ok a v→wpList prog ops Q rest (b.put o.dst (.tuple #[.agg #[.string (bs a.dN.sig),v],.bool true])) w) :
  wpList prog ops Q (o::rest) b w:=by
 refine wpList_plain hgd fun K' hK'=>?_
 unfold Oper.wp
 rcases ai3 h c hc with ⟨e,hrun⟩|⟨a,v,e,ha,hrun⟩
 ·simp[execOp,hop,hm,hx,hrun,Result.andThen]
  exact hK' _ _ (h0 e)
 ·simp[execOp,hop,hm,hx,hrun,Result.andThen]
  exact hK' _ _ (h1 a v e ha)
def E8 (w:World) (ok:Nat→Prop) (mb r:Nat) (H:Nat→Option A) (todo:Nat→Bool) (kZ:Nat):Prop :=
 ∃n D left,w.ranges prog 110 Rv mb r n D left kZ∧(∀c,c<256→HD w (fun k=>ok k∧k≠r) D c (H c))∧∀c,c<256→todo c=left (.int .u8 (c:Int))
theorem E8.below {w w':World} {ok:Nat→Prop} {mb r:Nat} {H:Nat→Option A} {todo:Nat→Bool} {kZ:Nat} (h:E8 w ok mb r H todo kZ) (hb:Below w.heap.size w w'):E8 w' ok mb r H todo kZ:=by
 obtain⟨n,D,left,h1,h2,h3⟩:=h
 exact⟨n,D,left,h1.kept (Oi hb) (by simp) (by simp),fun c hc=>(h2 c hc).move fun a v ha=>ha.below hb,h3⟩
theorem E8.left {w:World} {ok:Nat→Prop} {mb r:Nat} {H:Nat→Option A} {todo:Nat→Bool} {kZ:Nat} (h:E8 w ok mb r H todo kZ):w.rangeLeft mb r=kZ:=by
 obtain⟨n,D,left,h1,-⟩:=h
 exact h1.left_eq
theorem Hm.acH {ops:Array Oper} {rest:List Oper} {o:Oper} {b:Act} {Q:Exit→Act→World→Prop} (hgd:o.guard=none) (m:Operand) (hop:o.op=Op.range 106 m)
  {w:World} {ok:Nat→Prop} {mb:Nat} {H:Nat→Option A} (h:Hm w ok mb H) (hm:b.eval m=.map (some mb))
  (hK:∀w' kZ,E8 w' ok mb w.heap.size H (fun c=>(H c).isSome) kZ→Below w.heap.size w w'→wpList prog ops Q rest (b.put o.dst (.pointer (some ⟨w.heap.size,0,none⟩))) w') :
  wpList prog ops Q (o::rest) b w:=by
 obtain⟨n,D,h1,h2,h3,h4⟩:=h
 refine wpList_range_own w hgd m 106 hop 110 70 Bh underlying106 Rv mb n D hm h1 fun w' r1 r2 r3=>?_
 have hb:Below w.heap.size w w':=⟨r2.os,r2.tape,r2.output,r2.size,fun k hk=>r2.block k hk (by simp)⟩
 refine hK w' _ ⟨n,D,_,r1,fun c hc=>?_,fun c hc=>?_⟩ hb
 ·have hd:=h4 c hc
  cases hH:H c with
  |none=>rw[hH]at hd;exact hd
  |some a =>
   rw[hH]at hd
   obtain⟨v,e,ha⟩:=hd
   exact⟨v,e,(ha.bound.mono (ok':=fun k=>ok k∧k≠w.heap.size) (fun k hk=>⟨hk.1,by omega⟩)).below hb⟩
 ·have hd:=h4 c hc
  show(H c).isSome=_
  cases hH:H c with
  |none=>rw[hH]at hd;exact(has_false_of_atKey hd).symm
  |some a =>
   rw[hH]at hd
   obtain⟨v,e,ha⟩:=hd
   exact(has_true_of_atKey e).symm
theorem E8.wp {ops:Array Oper} {rest:List Oper} {o:Oper} {b:Act} {Q:Exit→Act→World→Prop} (hgd:o.guard=none) (it:Operand) (hop:o.op=Op.next it false)
  {w:World} {ok:Nat→Prop} {mb r:Nat} {H:Nat→Option A} {todo:Nat→Bool} {kZ:Nat} (h:E8 w ok mb r H todo kZ) (hit:b.eval it=.pointer (some ⟨r,0,none⟩))
  (h0:(∀c,c<256→todo c=false)→wpList prog ops Q rest (b.put o.dst (.tuple #[.bool false])) w)
  (h1:∀c a v w' cnt',c<256→H c=some a→HA w' ok a v→E8 w' ok mb r H (fun d=>todo d&&decide (d≠c)) cnt'→cnt'<kZ→w.grownBy w' (some r)→w'.heap.size=w.heap.size →
    (Instr.entry (.pointer (some ⟨r,0,none⟩))).run prog w'=.ok (.tuple #[.int .u8 (c:Int),.agg #[.string (bs a.dN.sig),v]]) w'→wpList prog ops Q rest (b.put o.dst (.tuple #[.bool true,.int .u8 (c:Int),.agg #[.string (bs a.dN.sig),v]])) w') :
  wpList prog ops Q (o::rest) b w:=by
 obtain⟨n,D,left,hr,h2,h3⟩:=h
 refine wpList_next_ranges w hgd it hop 110 Bh Rv (fun x:Int=>.int .u8 x) (fun v:Value=>v) (fun key kl hk=>?_) (fun v y _=>⟨v,rfl⟩) mb r n D left kZ hit hr (fun _ hl=>h0 fun c hc=>by rw[h3 c hc];exact hl _) ?_
 ·obtain⟨x,e,_⟩:=keyOf_int_inv underlying110 hk
  exact⟨x,e⟩
 ·intro x v kl y w' cnt' hkey hlk hv hat hr' hlt hg hs hen
  obtain⟨x',e1,e2,hwf⟩:=keyOf_int_inv underlying110 hkey
  cases e1
  subst e2
  have hx:0≤x∧x<256:=by
   simp[Lit.wf,IntKind.min,IntKind.max,IntKind.bits,IntKind.signed]at hwf;omega
  obtain⟨c,rfl⟩:∃c:Nat,x=c:=⟨x.toNat,by omega⟩
  have hc:c<256:=by omega
  have hy:y.1=.held v:=by cases hv;rfl
  have hmv:∀a u,HA w (fun k=>ok k∧k≠r) a u→HA w' (fun k=>ok k∧k≠r) a u:=fun a u ha=>ha.step fun k hk hlt=>hg.block k hlt (by simpa using hk.2)
  have hd:=h2 c hc
  cases hH:H c with
  |none =>
   rw[hH]at hd
   have:=(hd .nil).symm.trans (hat .nil)
   rw[hy]at this
   cases this
  |some a =>
   rw[hH]at hd
   obtain⟨u,e,ha⟩:=hd
   have:=(e .nil).symm.trans (hat .nil)
   rw[hy]at this
   injection this with ev
   subst ev
   refine h1 c a u w' cnt' hc hH ((hmv a u ha).mono fun k hk=>hk.1) ⟨n,D,_,hr',fun d hd=>(h2 d hd).move hmv,fun d hd=>?_⟩ hlt hg hs hen
   show(todo d&&_)=_
   rw[h3 d hd]
   congr 1
   by_cases e:d=c
   ·subst e;simp[Lit.sameKey]
   ·rw[sameKey_ne (by intro h;injection h with _ h;exact e (by omega))];simp[e]
section
def uz (c:Nat):UInt8:=if c=1 then 111 else if c=5∨c=9 then 117 else if c=8 then 103 else 115
theorem nine {c:Nat} (h1:1≤c) (h9:c≤9):c=1∨c=2∨c=3∨c=4∨c=5∨c=6∨c=7∨c=8∨c=9:=by omega
theorem aic (c:Nat) (h1:1≤c) (h9:c≤9) (w:World):uQ 168 #[.int .u8 (c:Nat)] w (.string (bs [uz c])):=by
 rcases nine h1 h9 with rfl|rfl|rfl|rfl|rfl|rfl|rfl|rfl|rfl
 all_goals (
  clear h1 h9
  go_enter func168,ntmps168
  go_wp2
  go_ret
  exact⟨rfl,rfl⟩)
def iC (ty:Nat):List Nat:=if ty=1 then[1,3]else if ty=2 then[5]else if ty=3 then[4,5]else[1,2,3]
theorem Ju (ty:Nat):(iC ty).length≤3:=by unfold iC;(repeat' split)<;>simp
theorem acz (ty z:Nat) (h:z∈iC ty):z<256:=by
 unfold iC at h
 (repeat' split at h)<;>simp at h<;>omega
def QK (ty:Nat) (w:World) (e:Ending) (w':World):Prop :=
 ∃g n c cs,e=.returned (.slice (some ⟨g,0,none⟩) n c)∧(iC ty).length=n∧w'.heap[g]?=some (.cells cs 110 (0,0))∧(∀i (h:i<(iC ty).length),cs[i]?=some (.int .u8 ((iC ty)[i]:Nat)))∧Below w.heap.size w w'
theorem acK (ty:Nat) (h1:1≤ty) (h4:ty≤4) (w:World):Calls prog 169 #[.int .u8 (ty:Nat)] w (QK ty w):=by
 have fin:∀(l:List Nat) (cs:Array Value),iC ty=l→l.length=cs.size→(∀i (h:i<l.length),cs[i]?=some (.int .u8 (l[i]:Nat)))→QK ty w (.returned (.slice (some ⟨w.heap.size,0,none⟩) cs.size cs.size)) (w.alloc (.cells cs 110)):=by
  intro l cs h hl hc
  unfold QK
  rw[h]
  exact⟨_,_,_,cs,rfl,hl,aV _ _ _ rfl,hc,gG _⟩
 rcases (by omega:ty=1∨ty=2∨ty=3∨ty=4)with rfl|rfl|rfl|rfl
 ·have F:=ah (fin [1,3] #[.int .u8 1,.int .u8 3] rfl rfl (fun i hi=>by match i,hi with|0,_=>rfl|1,_=>rfl))
  clear fin h1 h4
  go_enter func169,ntmps169
  go_wp2
  go_ret
  exact F.o
 ·have F:=ah (fin [5] #[.int .u8 5] rfl rfl (fun i hi=>by match i,hi with|0,_=>rfl))
  clear fin h1 h4
  go_enter func169,ntmps169
  go_wp2
  go_ret
  exact F.o
 ·have F:=ah (fin [4,5] #[.int .u8 4,.int .u8 5] rfl rfl (fun i hi=>by match i,hi with|0,_=>rfl|1,_=>rfl))
  clear fin h1 h4
  go_enter func169,ntmps169
  go_wp2
  go_ret
  exact F.o
 ·have F:=ah (fin [1,2,3] #[.int .u8 1,.int .u8 2,.int .u8 3] rfl rfl (fun i hi=>by match i,hi with|0,_=>rfl|1,_=>rfl|2,_=>rfl))
  clear fin h1 h4
  go_enter func169,ntmps169
  go_wp2
  go_ret
  exact F.o
structure Mg (w:World) (ok:Nat→Prop) (M mb ty fl kG:Nat) (A0:Option Addr) (n c:Nat) (H:Nat→Option A):Prop where
 kE:w.heap[M]?=some (.cells #[.int .u8 ty,.int .u8 fl,.map (some mb),.slice A0 n c,.int .u32 kG] 109 (0,0))
 map:Hm w ok mb H
 f_:∀d a,d<256→H d=some a→a.dN.ty.length≤1000000
section
variable {w w':World} {ok:Nat→Prop} {M mb ty fl kG:Nat} {A0:Option Addr} {n c:Nat} {H:Nat→Option A}
theorem Mg.below (h:Mg w ok M mb ty fl kG A0 n c H) (hb:Below w.heap.size w w'):Mg w' ok M mb ty fl kG A0 n c H :=
 ⟨(hb.block _ (lt_of_block h.kE)).trans h.kE,h.map.below hb,h.f_⟩
theorem Mg.cells (h:Mg w ok M mb ty fl kG A0 n c H):w.cell? ⟨M,0,none⟩=some (.int .u8 ty)∧w.cell? ⟨M,1,none⟩=some (.int .u8 fl)∧w.cell? ⟨M,2,none⟩=some (.map (some mb))∧w.cell? ⟨M,3,none⟩=some (.slice A0 n c)∧w.cell? ⟨M,4,none⟩=some (.int .u32 kG) :=
 ⟨au h.kE 0 rfl,au h.kE 1 rfl,au h.kE 2 rfl,au h.kE 3 rfl,au h.kE 4 rfl⟩
end
def FOk (c:Nat) (a:A):Prop:=1≤c∧c≤9∧a.dN.ty=[uz c]
def NY (H:Nat→Option A) (c:Nat) (f:List UInt8→Bool):Prop:=∀a s,H c=some a→(a=.sc (.s s)∨a=.sc (.o s))→f s.data.toList=true
structure yE (ty fl:Nat) (H:Nat→Option A) (n:Nat):Prop where
 flags:fl≤7
 type:1≤ty∧ty≤4
 kinds:∀c a,c<256→H c=some a→FOk c a
 iC:∀c∈iC ty,H c≠none
 path:NY H 1 je
 iface:NY H 2 g_
 aml:NY H 3 nO
 err:NY H 4 g_
 sig:n≠0→H 8≠none
theorem wu (a:A) (w:World) (ok:Nat→Prop) (v:Value) (h:HA w ok a v):(a.dN.ty=[115]→∃s,a=.sc (.s s)∧v=.iface 9 (.string s))∧(a.dN.ty=[111]→∃s,a=.sc (.o s)∧v=.iface 87 (.string s))∧(a.dN.ty=[117]→∃k,a=.sc (.u k)∧v=.iface 22 (.int .u32 k)):=by
 cases a with
 |sc x =>
  have hv:v=x.val:=h
  subst hv
  cases x<;>simp[A.dN,T.ty,Sc.code,Sc.val]
 |var t a=>simp[A.dN,T.ty]
 |jJ l=>simp[A.dN,T.ty]
 |list t l=>simp[A.dN,T.ty]
 |dict k t ks es=>simp[A.dN,T.ty]
end
end Go.Proofs.YtllcccekodcdmaaGreatDoor.Ms
namespace Go.Proofs.YtllcccekodcdmaaGreatDoor.Ms
open Go Go.RowKit Go.Proofs.ak.aT Go.Proofs.ak.cO
def bv (l:List UInt8):List Value:=l.map fun c=>.int .u8 (c.toNat:Nat)
theorem aiX:(prog.info? 5).map (fun i=>(i.zero,i.size,i.bytes))=some (some (.int .u8 0),1,1):=by kernel_rfl
theorem JJ {ops:Array Oper} {rest:List Oper} {o:Oper} {a:Act} {Q:Exit→Act→World→Prop} (hgd:o.guard=none) (s x:Operand)
  (ho:o.op=.call {callee:=.builtin .append,args:=#[s,x],argTypes:=#[65,65]}) (base:Nat) (W0 W:World) (v:Value) (k:Nat) (xs:List Value) (y:Int) (hs:a.eval s=v) (hx:a.eval x=.slice (some ⟨W.heap.size,0,none⟩) 1 1)
  (HO:W.ownsRow base 5 1 v k xs) (HB:Below base W0 W) (hbase:base≤W.heap.size) (hk:k≤1000000)
  (h:∀v1 w1,w1.ownsRow base 5 1 v1 (k+1) (xs++[.int .u8 y])→Below base W0 w1→wpList prog ops Q rest (a.put o.dst v1) w1) :
  wpList prog ops Q (o::rest) a (W.alloc (.cells #[.int .u8 y] 5)):=by
 obtain⟨i0,hi,hzz⟩:=Option.map_eq_some_iff.1 aiX
 simp only[Prod.mk.injEq]at hzz
 obtain⟨hz0,hz1,hz2⟩:=hzz
 refine wpList_append_own (w:=W.alloc (.cells #[.int .u8 y] 5)) hgd s x 65 ho base 5 i0 _ 1 1 underlying65 hi hz0 hz1 hz2 rfl (by decide) v k xs hs (HO.alloc _) ⟨W.heap.size,0,none⟩ 1 1 [.int .u8 y] hx rfl
  (by simpa using World.news_of_block (cs:=#[.int .u8 y]) (t:=5) (fr:=(0,0)) (heap_alloc_new W (.cells #[.int .u8 y] 5))) (fun u hu=>by cases List.mem_singleton.1 hu;rfl) (by simp only[maxLen];omega) (by omega) (by simp;omega) ?_
 intro v' w' h1 h2 _
 exact h v' w' h1 ((HB.alloc hbase _).grown h2 (by simp;omega) (rE HO))
theorem aaI (n:Nat) (D:List UInt8):Lib.decDigits n++D=(if n/10=0 then[]else Lib.decDigits (n/10))++UInt8.ofNat (48+n%10)::D:=by
 rw[Lib.decDigits]
 by_cases h9:n<10
 ·rw[dif_pos h9,if_pos (by omega),Nat.mod_eq_of_lt h9];rfl
 ·rw[dif_neg h9,if_neg (by omega)];simp
theorem UR (n:Nat):∀k,k<10^(n+1)→(Lib.decDigits k).length≤n+1:=by
 induction n with
 |zero=>intro k hk;rw[Lib.decDigits,dif_pos (by omega)];simp
 |succ n ih =>
  intro k hk
  rw[Lib.decDigits]
  split
  ·simp
  ·have:=ih (k/10) (by rw[Nat.pow_succ]at hk;omega)
   simp;omega
def Dg (k n:Nat) (D:List UInt8):Prop:=D.length≤20∧Lib.decDigits k=(if n=0 then[]else Lib.decDigits n)++D.reverse
theorem Dg.next {k n q r:Nat} {D:List UInt8} {b:Bool} (hk:k<18446744073709551616) (h:(b=true→D=[]∧n=k)∧(b=false→D≠[]∧Dg k n D)) (hn:b=false→0<n) (hr:n%10=r) (hq:n/10=q):Dg k q (D++[UInt8.ofNat (48+r)]):=by
 subst hr hq
 have e:Lib.decDigits k=(if n/10=0 then[]else Lib.decDigits (n/10))++(D++[UInt8.ofNat (48+n%10)]).reverse:=by
  rw[List.reverse_append,List.reverse_cons,List.reverse_nil,List.nil_append,List.singleton_append,←aaI]
  cases b
  ·have h1:=(h.2 rfl).2.2
   rwa [if_neg (by have:=hn rfl;omega)]at h1
  ·obtain⟨rfl,rfl⟩:=h.1 rfl
   simp
 refine⟨?_,e⟩
 have h1:=congrArg List.length e
 have h2:=UR 19 k (by omega)
 simp only[dY,List.length_reverse]at h1 ⊢
 omega
def Sw (D:List UInt8) (i j:Nat) (cur:Array Value):Prop:=D.length≤cur.size∧∀p,p<D.length→cur[p]?=some (.int .u8 (((D.getD (if p<i∨j<p then D.length-1-p else p) 0).toNat:Nat):Int))
theorem Sw.step {D:List UInt8} {i j:Nat} {cur:Array Value} (h:Sw D i j cur) (hij:i+j+1=D.length) (hlt:i<j):Sw D (i+1) (j-1) ((cur.setIfInBounds i (.int .u8 (((D.getD j 0).toNat:Nat):Int))).setIfInBounds j (.int .u8 (((D.getD i 0).toNat:Nat):Int))):=by
 obtain⟨h1,h2⟩:=h
 refine⟨by simpa using h1,fun p hp=>?_⟩
 rw[Array.getElem?_setIfInBounds,Array.getElem?_setIfInBounds]
 by_cases e1:j=p
 ·subst e1
  rw[if_pos rfl,if_pos (by simp;omega),if_pos (by omega),show D.length-1-j=i by omega]
 ·rw[if_neg e1]
  by_cases e2:i=p
  ·subst e2
   rw[if_pos rfl,if_pos (by omega),if_pos (by omega),show D.length-1-i=j by omega]
  ·rw[if_neg e2,h2 p hp]
   by_cases e3:p<i∨j<p
   ·rw[if_pos e3,if_pos (by omega)]
   ·rw[if_neg e3,if_neg (by omega)]
theorem Sw.done {D:List UInt8} {i j:Nat} {cur:Array Value} (h:Sw D i j cur) (hij:i+j+1=D.length) (hlt:¬i<j):∀p (hp:p<D.reverse.length),cur[p]?=some (.int .u8 (((D.reverse[p]).toNat:Nat):Int)):=by
 intro p hp
 have hp':p<D.length:=by simpa using hp
 rw[h.2 p hp',List.getElem_reverse]
 have e:(if p<i∨j<p then D.length-1-p else p)=D.length-1-p:=by split<;>omega
 rw[e,wC,gQ (by omega)]
 rfl
theorem FU (k:Nat) (hk:k<18446744073709551616) (w:World):fC 17 #[.int .u64 k] w (.string (bs (Lib.decDigits k))):=by
 go_enter func17,ntmps17
 go_wp2
 go_loopw [0,3,4] (fun v0 v3 v4 wr=>∃(b:Bool) (n m:Nat) (D:List UInt8),v0=.int .u64 n∧v4=.bool b∧n≤k∧D.length=m∧aj ((b=true→D=[]∧n=k)∧(b=false→D≠[]∧Dg k n D)∧wr.ownsRow w.heap.size 5 1 v3 m (bv D)∧Below w.heap.size w wr)) (fun v0 _ v4 _=>(intOf v0).toNat+(match v4 with| .bool true=>1| _=>0))
 case atStart=>exact⟨true,k,0,[],rfl,rfl,bW,rfl,⟨fun _=>⟨rfl,rfl⟩,(fun h=>absurd h (by decide)),by first|exact World.ownsRow_nil _ _ _ _|exact⟨rfl,.inr ⟨_,0,#[],rfl,bW,aV _ _ _ rfl,bW,by decide,rfl,rfl⟩⟩,by first|exact jc|exact gG _⟩⟩
 case round =>
  obtain⟨b,n,m,D,rfl,rfl,hn,hm,HR⟩:=hrel
  have aqM:n<18446744073709551616:=by omega
  by_cases hc:b=true∨0<n
  ·have aqL:m≤20:=by
    cases b
    ·have h1:=(HR.o.2.1 rfl).2.1;omega
    ·have h1:=(HR.o.1 rfl).1;subst h1;simp at hm;omega
   have HO:=ah HR.o.2.2.1
   have HB:=ah HR.o.2.2.2
   have HR2:=ah (⟨HR.o.1,HR.o.2.1⟩:(b=true→D=[]∧n=k)∧(b=false→D≠[]∧Dg k n D))
   clear HR
   obtain⟨r,hr⟩:∃r,n%10=r:=⟨_,rfl⟩
   obtain⟨q,hq⟩:∃q,n/10=q:=⟨_,rfl⟩
   have hr1:(n:Int)%10=(r:Nat):=by omega
   have hq1:(n:Int)/10=(q:Nat):=by omega
   have hr9:r≤9:=by omega
   have hq9:q≤n:=by omega
   have HQ:=ah (⟨hr,hq⟩:n%10=r∧n/10=q)
   clear hr hq
   have HD:=ah (Dg.next hk HR2.o (fun e=>by subst e;simp at hc;exact hc) HQ.o.1 HQ.o.2)
   have HV:=ah (by rw[UInt8.toNat_ofNat'];omega:(((UInt8.ofNat (48+r)).toNat:Nat):Int)=48+(r:Int))
   have HP:=ah hc
   cases b
   ·have hp2:decide (0<n)=true:=by simp at hc ⊢;omega
    clear hc
    go_wp2_with (at_builtin;refine JJ rfl (.tmp 13) (.tmp 18) rfl w.heap.size w _ _ m _ _ rfl rfl HO.o HB.o HB.o.size (by omega) ?_;intro v1 w2 h1 h2;have OWN:=ah h1;have BN:=ah h2;clear h1 h2)
    go_roundw
    case rel=>exact⟨false,q,m+1,D++[UInt8.ofNat (48+r)],rfl,rfl,by omega,by simp[hm],⟨(fun h=>absurd h (by decide)),(fun _=>⟨by simp,HD.o⟩),by have:=OWN.o;rw[←HV.o]at this;simpa[bv]using this,BN.o⟩⟩
    case measure=>have:=HQ.o;have:=HP.o;simp[intOf]<;>simp at this<;>omega
   ·clear hc
    go_wp2_with (at_builtin;refine JJ rfl (.tmp 13) (.tmp 18) rfl w.heap.size w _ _ m _ _ rfl rfl HO.o HB.o HB.o.size (by omega) ?_;intro v1 w2 h1 h2;have OWN:=ah h1;have BN:=ah h2;clear h1 h2)
    go_roundw
    case rel=>exact⟨false,q,m+1,D++[UInt8.ofNat (48+r)],rfl,rfl,by omega,by simp[hm],⟨(fun h=>absurd h (by decide)),(fun _=>⟨by simp,HD.o⟩),by have:=OWN.o;rw[←HV.o]at this;simpa[bv]using this,BN.o⟩⟩
    case measure=>have:=HQ.o;have:=HP.o;simp[intOf]<;>simp at this<;>omega
  ·have hb:b=false:=by cases b;rfl;simp at hc
   subst hb
   have hn0:n=0:=by simp at hc;exact hc
   obtain⟨h1,h2,h3⟩:=HR.o.2.1 rfl
   have HDD:=ah (by rw[h3,if_pos hn0];rfl:Lib.decDigits k=D.reverse)
   have hm1:1≤m:=by
    cases D
    ·exact absurd rfl h1
    ·simp at hm;omega
   have aqL:m≤20:=by omega
   obtain⟨g,cap,cur,hv,hg,hcur,hcz,hgz⟩:∃g cap cur,u3=.slice (some ⟨g,0,none⟩) m cap∧wr.heap[g]?=some (.cells cur 5 (0,0))∧cur.toList.take m=bv D∧m≤cur.size∧w.heap.size≤g:=by
    rcases HR.o.2.2.1.2 with ⟨_,e⟩|⟨g,cap,cur,e,h0,hg,h4,h5,h6,h7⟩
    ·omega
    ·exact⟨g,cap,cur,e,hg,by simpa using h7,by omega,h0⟩
   subst hv
   have HG:=ah hg
   have HS:=ah (⟨by omega,fun p hp=>by
    rw[if_neg (by omega)]
    have h8:(bv D)[p]?=some (.int .u8 (((D.getD p 0).toNat:Nat):Int)):=by simp[bv,wC,gQ hp]
    rw[←hcur,List.getElem?_take,if_pos (by omega)]at h8
    simpa using h8⟩:Sw D 0 (m-1) cur)
   have HB:=ah HR.o.2.2.2
   have HM:=ah hm
   have HGZ:=ah hgz
   have hms:((m:Int)-1)=((m-1:Nat):Int):=by omega
   have hp2:decide (0<n)=false:=by simp[hn0]
   clear HR hc h1 h2 h3 hm hg hcur hcz hn aqM hgz hn0
   go_wp2
   obtain⟨wo,rfl⟩:∃wo:World,wo=wr:=⟨_,rfl⟩
   go_loopw [5,6] (fun v5 v6 wq=>∃(i j:Nat) (cu:Array Value),v5=.int .i64 i∧v6=.int .i64 j∧i+j+1=m∧aj (wq.heap[g]?=some (.cells cu 5 (0,0))∧Sw D i j cu∧Below w.heap.size w wq)) (fun v5 v6 _=>(intOf v6).toNat-(intOf v5).toNat)
   case atStart=>exact⟨0,m-1,cur,rfl,by rw[←hms],by omega,⟨HG.o,HS.o,HB.o⟩⟩
   case round =>
    clear HB HG HS hms
    obtain⟨i,j,cu,rfl,rfl,hij,HR⟩:=hrel
    have KG:=ah HR.o.1
    have SW:=ah HR.o.2.1
    have HB:=ah HR.o.2.2
    have HIJ:=ah (by rw[HM.o];exact hij:i+j+1=D.length)
    clear HR
    have hil:i<m:=by omega
    have hjl:j<m:=by omega
    have hi9:i+1≤21:=by omega
    by_cases hlt:i<j
    ·have hd:decide ((i:Int)<(j:Int))=true:=by simp;omega
     have q0:=au KG.o i (by have:=SW.o.2 i (by have:=HM.o;omega);rwa [if_neg (by omega)]at this)
     have q1:=au KG.o j (by have:=SW.o.2 j (by have:=HM.o;omega);rwa [if_neg (by omega)]at this)
     have f0:=aI KG.o i
     have f1:=aI KG.o j
     have hj1:((j:Int)-1)=((j-1:Nat):Int):=by omega
     have SW2:=ah (SW.o.step HIJ.o hlt)
     have KG2:=ah (fun a b=>Joins.block_setCell (Joins.block_setCell KG.o (i:=i) a) (i:=j) b)
     have HB2:=ah (fun a b=>(HB.o.setCell (p:=⟨g,i,none⟩) HGZ.o a).setCell (p:=⟨g,j,none⟩) HGZ.o b)
     have XD:=ah hlt
     generalize (((D.getD i 0).toNat:Nat):Int)=a at *
     generalize (((D.getD j 0).toNat:Nat):Int)=b at *
     clear hlt hij
     go_wp2
     refine lgo [13,15] ((fun w'=>w'.cell? ⟨g,i,none⟩=some (.int .u8 a)∧w'.cell? ⟨g,j,none⟩=some (.int .u8 b))) fun hHeld=>?_
     refine jS 0 ?_
     refine jS 1 ?_
     refine EJ 2 ?_
     refine EJ 3 ?_
     refine jS 4 ?_
     refine jS 5 ?_
     refine jS 6 ?_
     refine jS 7 ?_
     refine jS 8 ?_
     refine jS 9 ?_
     refine jS 10 ?_
     refine jS 11 ?_
     refine EJ 12 ?_
     refine PG 13 fun K hK=>?_
     go_simp
     refine Qe hK ?_
     clear hK K
     refine EJ 14 ?_
     refine PG 15 fun K hK=>?_
     go_simp
     refine Qe hK ?_
     clear hK K
     refine uJ ?_
     go_wp2
     go_roundw
     case rel=>exact⟨i+1,j-1,_,by go_num,by rw[←hj1],by have:=XD.o;have:=HIJ.o;have:=HM.o;omega,⟨KG2.o _ _,SW2.o,by first|exact(HB2.o _ _).drew|exact(HB2.o _ _).drew.drew⟩⟩
     case measure=>have:=XD.o;simp[intOf];omega
    ·have hd:decide ((i:Int)<(j:Int))=false:=by simp;omega
     have hd2:decide (i<j)=false:=by simp;omega
     have HDN:=ah (SW.o.done HIJ.o hlt)
     have hcv:(convert 65 9 (.slice (some ⟨g,0,none⟩) m cap)).run prog wr=.ok (.string (bs D.reverse)) wr:=by
      have h:=run_convert_bytes_back (P:=prog) wr 65 9 5 ⟨g,0,none⟩ cap D.reverse underlying65 underlying5 underlying9 (fun p hp=>by
       rw[add_plain]
       exact au KG.o p (HDN.o p hp))
      rw[List.length_reverse,HM.o]at h
      exact h
     clear hlt hij
     go_wp2
     go_ret
     exact⟨congrArg (fun l=>Ending.returned (Value.string (bs l))) HDD.o.symm,HB.o⟩
end Go.Proofs.YtllcccekodcdmaaGreatDoor.Ms
namespace Go.Proofs.YtllcccekodcdmaaGreatDoor.Ms
open Go Go.RowKit Go.Maps Go.Proofs.ak.aT Go.Proofs.ak.cO Go.Proofs.YtllcccekodcdmaaGreatDoor.bK
section
def Ib (H:Nat→Option A) (c:Nat) (a:A) (d:Nat):Option A:=if d=c then some a else H d
def Ee (l:List (Nat×A)):Nat→Option A:=l.foldl (fun H p=>Ib H p.1 p.2) (fun _=>none)
theorem Ob (l:List (Nat×A)) (p:Nat×A):Ee (l++[p])=Ib (Ee l) p.1 p.2:=by simp[Ee]
def Hn (w:World) (ok:Nat→Prop) (mb:Nat) (H:Nat→Option A) (m:Nat):Prop :=
 ∃n D,Mp w 110 mb n D∧n≤m∧IsMap D∧∀c,c<256→HD w ok D c (H c)
theorem Hn.hm {w:World} {ok:Nat→Prop} {mb m:Nat} {H:Nat→Option A} (h:Hn w ok mb H m) (hm:m≤1000):Hm w ok mb H:=by
 obtain⟨n,D,h1,h2,h3,h4⟩:=h
 exact⟨n,D,h1,by omega,h3,h4⟩
theorem Hn.below {w w':World} {ok:Nat→Prop} {mb m:Nat} {H:Nat→Option A} (h:Hn w ok mb H m) (hb:Below w.heap.size w w'):Hn w' ok mb H m:=by
 obtain⟨n,D,h1,h2,h3,h4⟩:=h
 have hlt:=h1.lt
 obtain⟨es,clock,hb1,F,hs,hD⟩:=h1
 exact⟨n,D,⟨es,clock,(hb.block _ hlt).trans hb1,F,hs,hD⟩,h2,h3,fun c hc=>(h4 c hc).move fun a v ha=>ha.below hb⟩
theorem Hn.new (w:World) (ok:Nat→Prop) (mb:Nat) (h:mb=w.heap.size):Hn (w.alloc (.map #[] 0)) ok mb (fun _=>none) 0 :=
 h▸⟨0,.map [],World.ownsMap_made _ _ _ _,by omega,isMap_empty,fun c hc zd=>rfl⟩
section
variable {ops:Array Oper} {o:Oper} {a:Act} {Q:Exit→Act→World→Prop} {Kc:Act→World→Prop}
theorem Hn.put {w:World} {ok:Nat→Prop} {mb m:Nat} {H:Nat→Option A} (h:Hn w ok mb H m) (hok:¬ok mb) (hgd:o.guard=none) (om ox ov:Operand) (hop:o.op=Op.mapUpdate 106 om ox ov) (hd:o.dst=none) (hm:m≤1000)
  (c:Nat) (hc:c<256) (b:A) (v:Value) (ha:HA w ok b v) (h1:a.eval om=.map (some mb)) (h2:a.eval ox=.int .u8 (c:Int)) (h3:a.eval ov=.agg #[.string (bs b.dN.sig),v])
  (hk:∀w',Hn w' ok mb (Ib H c b) (m+1)→w.grownBy w' (some mb)→Kc (a.put o.dst undef) w') :
  if Region.wanted o (yielded ops a.tmps)=true then Oper.wp prog o a w Kc Q else Kc (a.put o.dst undef) w:=by
 obtain⟨n,D,q1,q2,q3,q4⟩:=h
 refine acn w hgd om ox ov 106 hop hd 110 70 Bh underlying106 mb n D h1 q1 (by simp[maxLen];omega) _ _ _ h2 h3 (abZ c hc) fun w' r1 r2=>hk w' ⟨n+1,_,r1,by omega,q3.put _ _,fun d hd=>?_⟩ r2
 have hmv:∀x u,HA w ok x u→HA w' ok x u:=fun x u hx=>hx.step fun k hk hlt=>r2.block k hlt (fun e=>by cases e;exact hok hk)
 by_cases hdc:d=c
 ·subst hdc
  rw[show Ib H d b d=some b by simp[Ib]]
  exact⟨v,fun zd=>atKey_put_same (k:=.int .u8 (d:Int)) q3 trivial _ _,hmv _ _ ha⟩
 ·have hne:(Lit.int .u8 (d:Int))≠Lit.int .u8 (c:Int):=by simp;omega
  have e:=q4 d hd
  rw[show Ib H c b d=H d by simp[Ib,hdc]]
  cases hH:H d with
  |none=>rw[hH]at e;exact fun zd=>(atKey_put_other hne _ _).trans (e zd)
  |some x=>rw[hH]at e;obtain⟨u,e1,e2⟩:=e;exact⟨u,fun zd=>(atKey_put_other hne _ _).trans (e1 zd),hmv _ _ e2⟩
end
end
end Go.Proofs.YtllcccekodcdmaaGreatDoor.Ms
