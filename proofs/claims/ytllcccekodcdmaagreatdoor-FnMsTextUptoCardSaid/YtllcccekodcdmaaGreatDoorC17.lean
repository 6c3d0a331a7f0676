import Derived.Test.YtllcccekodcdmaaGreatDoorC13
import Derived.Test.YtllcccekodcdmaaGreatDoorC16
set_option linter.unusedVariables false
set_option linter.unusedSimpArgs false
set_option maxRecDepth 100000
set_option maxHeartbeats 32000000
open Go.Proofs.Tryz
namespace Go.Proofs.YtllcccekodcdmaaGreatDoor.Ms
open Go Go.RowKit Go.Proofs.ak.aT Go.Proofs.ak.cO Go.Proofs.YtllcccekodcdmaaGreatDoor.bK
def zI (s:bG):Prop:=Lib.validD s.data.toList=true∧∀(i:Nat) (h:i<s.size),s[i]≠0
theorem Dy (s:bG) (w:World) (hs:s.size≤1000000) (hT:Lib.Utf8Tabs 8 9 w):Calls prog 123 #[.string s] w (yG (zI s) w):=by
 have UV:=ah (utf8_ValidString s w (by omega) hT)
 obtain⟨n,hn⟩:∃n,s.size=n:=⟨_,rfl⟩
 have HN:=ah hn
 go_enter func123,ntmps123
 go_wp2
 go_loopw [3] (fun t wr=>∃(k:Nat),k≤n∧t=.int .i64 (k:Nat)∧aj (∀(j:Nat) (h:j<s.size),j<k→s[j]≠0)∧wr=w) (fun t _=>n-(intOf t).toNat)
 case atStart=>exact⟨0,jf _,rfl,⟨fun j h hj=>by omega⟩,rfl⟩
 case round =>
  obtain⟨k,hk,rfl,HZ,rfl⟩:=hrel
  by_cases hlt:k<n
  ·have hks:k<s.size:=by omega
   have hd:decide ((k:Int)<(s.size:Int))=true:=by simp;omega
   by_cases hz:s[k]=0
   ·have hz':(((s[k].toNat:Nat):Int)==0)=true:=by rw[hz];rfl
    go_wp2
    go_ret
    exact⟨false,rfl,jc,fun h=>nomatch h⟩
   ·have hz':(((s[k].toNat:Nat):Int)==0)=false:=by
     rw[kS]
     intro e
     exact hz (UInt8.toNat_inj.1 (by have:=Int.ofNat.inj e;exact this))
    have HZ2:=ah hz
    go_wp2
    go_roundw
    case rel =>
     refine⟨k+1,hlt,by go_num,⟨fun j h hj=>?_⟩,by first|rfl|trivial⟩
     by_cases e:j=k
     ·subst e;exact HZ2.o
     ·exact HZ.o j h (by omega)
    case measure=>simp[intOf];omega
  ·have hd:decide ((k:Int)<(s.size:Int))=false:=by simp;omega
   go_wp2_with (go_at_call 150;refine UV.o.mono ?_;rintro e w1 ⟨rfl,hb⟩;have HB:=ah hb;clear hb)
   go_ret
   exact⟨_,rfl,HB.o,fun h=>⟨h,fun j hj=>HZ.o j hj (by have:=HN.o;omega)⟩⟩
def CB (s:bG):Prop:=je s.data.toList=true
def Kq (k:Int):Prop:=eF.f k=some true
mutual
def Td:dS→Prop
 |⟨k,n,s,l⟩=>iw.f k n=some true∧(k≠97→k≠115→k≠111→k≠103→s=⟨#[]⟩)∧(k=115→zI s∧l=[])∧(k=111→CB s∧l=[])∧(k=103→E_ s.data.toList∧l=[]) ∧
    (k=97→ZL s.data.toList∧∀kid∈l,jh kid=s.data.toList)∧(k=40∨k=123→l≠[]∧∀kid∈l,kid.f0≠123)∧(k=123→l.length=2∧Kq (l.getD 0 zo).f0) ∧
    (k=118→l.length=1∧(l.getD 0 zo).f0≠123∧E_ (jh (l.getD 0 zo)))∧(k≠115→k≠111→k≠103→k≠97→k≠40→k≠123→k≠118→Kq k∧l=[])∧Tds l
def Tds:List dS→Prop
 |[]=>True
 |a::l=>Td a∧Tds l
end
def qp (x:dS):Prop:=∀(A:Option Addr) (c:Nat) (w:World),Kd.C qx w A x.f3.length x.f3→x.f3.length≤c→Lib.Utf8Tabs 8 9 w →
 Calls prog 92 #[.agg #[.int .u8 x.f0,.int .u64 x.f1,.string x.f2,.slice A x.f3.length c]] w (yG (Td x) w)
theorem abU {c:Prop} [Decidable c] {x y:Option Bool} (hx:∃r,x=some r) (hy:∃r,y=some r):∃r,(if c then x else y)=some r:=by
 split
 ·exact hx
 ·exact hy
theorem rD (k n:Int):∃r,iw.f k n=some r:=by
 unfold iw.f
 repeat (first|exact⟨_,rfl⟩|refine abU ⟨_,rfl⟩ ?_)
theorem Fh (k:Int):∃r,eF.f k=some r:=by
 unfold eF.f
 repeat (first|exact⟨_,rfl⟩|refine abU ⟨_,rfl⟩ ?_)
theorem dR {W:World} {b:Nat} {k n:Int} {s:bG} {v:Value} (h:W.heap[b]?=some (.cells #[.int .u8 k,.int .u64 n,.string s,v] 32 (0,0))) :
  W.cell? ⟨b,0,none⟩=some (.int .u8 k)∧W.cell? ⟨b,1,none⟩=some (.int .u64 n)∧W.cell? ⟨b,2,none⟩=some (.string s)∧W.cell? ⟨b,3,none⟩=some v :=
 ⟨au h 0 rfl,au h 1 rfl,au h 2 rfl,au h 3 rfl⟩
theorem Zh (k n:Int) (s:bG) (l:List dS) (hs:s.size≤1000000) (hl:l.length≤1000000) (hk:k≠97∧k≠40∧k≠123∧k≠118):qp ⟨k,n,s,l⟩:=by
 intro A c w hc hcc hT
 show Calls prog 92 #[.agg #[.int .u8 k,.int .u64 n,.string s,.slice A l.length c]] w _
 obtain⟨m,hm⟩:∃m,l.length=m:=⟨_,rfl⟩
 rw[hm]
 have HM:=ah hm
 have PT:=ah hT
 obtain⟨r1,hr1⟩:=rD k n
 have IR:=ah (fun W=>iw.calls k n r1 W hr1)
 have HR1:=ah hr1
 have PV:=ah (fun W=>(by
  have h:=yP s.data.toList (by rw[show s.data.toList.length=s.size by rw[Array.length_toList];rfl];omega) W
  rw[o8]at h
  exact h.mono fun e w' h=>⟨_,h.1,h.2,fun e=>e⟩:Calls prog 41 #[.string s] W (yG (CB s) W)))
 obtain⟨kv,rv,hv,gv⟩:=Hq s.data.toList
 rw[o8]at hv
 have SV:=ah (fun W=>(iH.calls kv s rv W hv).mono fun e w' h=>⟨rv,h.1,h.2,gv⟩:∀W,Calls prog 45 #[.string s] W (yG (E_ s.data.toList) W))
 have d97:(k==97)=false:=kS.2 hk.1
 go_enter func92,ntmps92
 go_wp2_with (go_at_call 122;refine(IR.o _).mono ?_;rintro e w1 ⟨rfl,hd⟩;have hb:=hd.below;refine Hid.o ?_)
 refine ah ?_
 obtain⟨hB,kr,hlt⟩:=dP (X:=.cells #[.int .u8 k,.int .u64 n,.string s,.slice A m c] 32) hb
 have HB:=ah hB
 have KR:=ah kr
 obtain⟨c0,c1,c2,c3⟩:=dR KR.o
 cases r1
 ·go_wp2
  go_ret
  exact⟨false,rfl,HB.o,fun h=>nomatch h⟩
 have hm0:∀b:Bool,(decide (m=0)=b)→((m:Int)==0)=b:=fun b h=>by subst h;by_cases e:m=0<;>simp[e]
 by_cases aeJ:k=115
 ·subst aeJ
  go_wp2_with (go_at_call 123;refine(Dy s _ hs (Utf8Tabs_below PT.o HB.o)).mono ?_;rintro e w2 ⟨r2,rfl,hb2,hr2⟩;refine Hid.o ?_)
  refine ah ?_
  have HB:=ah (HB.o.trans (hb2.mono HB.o.size))
  have KR:=ah ((hb2.block _ (lt_of_block KR.o)).trans KR.o)
  have HR2:=ah hr2
  obtain⟨c0,c1,c2,c3⟩:=dR KR.o
  cases r2
  ·go_wp2
   go_ret
   exact⟨false,rfl,HB.o,fun h=>nomatch h⟩
  ·obtain⟨b0,hb0⟩:∃b0,decide (m=0)=b0:=⟨_,rfl⟩
   have hz:=hm0 b0 hb0
   have HZ:=ah hb0
   go_wp2
   go_ret
   refine⟨b0,rfl,HB.o,fun h=>?_⟩
   subst h
   have e0:l=[]:=List.length_eq_zero_iff.1 (HM.o.trans (of_decide_eq_true HZ.o))
   have q2:=HR2.o (by trivial)
   exact⟨HR1.o,fun _ a b c=>absurd rfl a,fun _=>⟨q2,e0⟩,fun h=>absurd h (by decide),fun h=>absurd h (by decide),fun h=>absurd h (by decide),fun h=>absurd h (by decide),fun h=>absurd h (by decide),fun h=>absurd h (by decide),fun a b c _ _ _ _=>absurd rfl a,by subst e0;trivial⟩
 by_cases aeI:k=111
 ·subst aeI
  go_wp2_with (go_at_call 41;refine(PV.o _).mono ?_;rintro e w2 ⟨r2,rfl,hb2,hr2⟩;refine Hid.o ?_)
  refine ah ?_
  have HB:=ah (HB.o.trans (hb2.mono HB.o.size))
  have KR:=ah ((hb2.block _ (lt_of_block KR.o)).trans KR.o)
  have HR2:=ah hr2
  obtain⟨c0,c1,c2,c3⟩:=dR KR.o
  cases r2
  ·go_wp2
   go_ret
   exact⟨false,rfl,HB.o,fun h=>nomatch h⟩
  ·obtain⟨b0,hb0⟩:∃b0,decide (m=0)=b0:=⟨_,rfl⟩
   have hz:=hm0 b0 hb0
   have HZ:=ah hb0
   go_wp2
   go_ret
   refine⟨b0,rfl,HB.o,fun h=>?_⟩
   subst h
   have e0:l=[]:=List.length_eq_zero_iff.1 (HM.o.trans (of_decide_eq_true HZ.o))
   have q2:=HR2.o (by trivial)
   exact⟨HR1.o,fun _ a b c=>absurd rfl b,fun h=>absurd h (by decide),fun _=>⟨q2,e0⟩,fun h=>absurd h (by decide),fun h=>absurd h (by decide),fun h=>absurd h (by decide),fun h=>absurd h (by decide),fun h=>absurd h (by decide),fun a b c _ _ _ _=>absurd rfl b,by subst e0;trivial⟩
 by_cases Af:k=103
 ·subst Af
  go_wp2_with (go_at_call 45;refine(SV.o _).mono ?_;rintro e w2 ⟨r2,rfl,hb2,hr2⟩;refine Hid.o ?_)
  refine ah ?_
  have HB:=ah (HB.o.trans (hb2.mono HB.o.size))
  have KR:=ah ((hb2.block _ (lt_of_block KR.o)).trans KR.o)
  have HR2:=ah hr2
  obtain⟨c0,c1,c2,c3⟩:=dR KR.o
  cases r2
  ·go_wp2
   go_ret
   exact⟨false,rfl,HB.o,fun h=>nomatch h⟩
  ·obtain⟨b0,hb0⟩:∃b0,decide (m=0)=b0:=⟨_,rfl⟩
   have hz:=hm0 b0 hb0
   have HZ:=ah hb0
   go_wp2
   go_ret
   refine⟨b0,rfl,HB.o,fun h=>?_⟩
   subst h
   have e0:l=[]:=List.length_eq_zero_iff.1 (HM.o.trans (of_decide_eq_true HZ.o))
   have q2:=HR2.o (by trivial)
   exact⟨HR1.o,fun _ a b c=>absurd rfl c,fun h=>absurd h (by decide),fun h=>absurd h (by decide),fun _=>⟨q2,e0⟩,fun h=>absurd h (by decide),fun h=>absurd h (by decide),fun h=>absurd h (by decide),fun h=>absurd h (by decide),fun a b c _ _ _ _=>absurd rfl c,by subst e0;trivial⟩
 have HS2:=ah (⟨hk,aeJ,aeI,Af⟩:(k≠97∧k≠40∧k≠123∧k≠118)∧k≠115∧k≠111∧k≠103)
 have e115:(k==115)=false:=kS.2 aeJ
 have ah2:(k==111)=false:=kS.2 aeI
 have ah1:(k==103)=false:=kS.2 Af
 have e40:(k==40)=false:=kS.2 hk.2.1
 have apX:(k==123)=false:=kS.2 hk.2.2.1
 have e118:(k==118)=false:=kS.2 hk.2.2.2
 obtain⟨n97,n40,n123,n118⟩:=hk
 obtain⟨r3,hr3⟩:=Fh k
 have BA:=ah (fun W=>eF.calls k r3 W hr3)
 have HR3:=ah hr3
 by_cases hse:s=⟨#[]⟩
 ·subst hse
  go_wp2_with (go_at_call 125;refine(BA.o _).mono ?_;rintro e w2 ⟨rfl,hd2⟩;have hb2:=hd2.below;refine Hid.o ?_)
  refine ah ?_
  have HB:=ah (HB.o.trans (hb2.mono HB.o.size))
  have KR:=ah ((hb2.block _ (lt_of_block KR.o)).trans KR.o)
  obtain⟨c0,c1,c2,c3⟩:=dR KR.o
  cases r3
  ·go_wp2
   go_ret
   exact⟨false,rfl,HB.o,fun h=>nomatch h⟩
  ·obtain⟨b0,hb0⟩:∃b0,decide (m=0)=b0:=⟨_,rfl⟩
   have hz:=hm0 b0 hb0
   have HZ:=ah hb0
   go_wp2
   go_ret
   refine⟨b0,rfl,HB.o,fun h=>?_⟩
   subst h
   have e0:l=[]:=List.length_eq_zero_iff.1 (HM.o.trans (of_decide_eq_true HZ.o))
   exact⟨HR1.o,fun _ _ _ _=>rfl,fun h=>absurd h aeJ,fun h=>absurd h aeI,fun h=>absurd h Af,fun h=>absurd h n97,fun h=>absurd h (by rintro(h|h)<;>contradiction),fun h=>absurd h n123,fun h=>absurd h n118,fun _ _ _ _ _ _ _=>⟨HR3.o,e0⟩,by subst e0;trivial⟩
 ·have SI:¬s.toList=[]:=fun e=>hse (wK (by rw[e,ByteArray.toList_eq]))
  have aiR:s.toList.isEmpty=false:=by simpa using SI
  go_wp2
  go_ret
  exact⟨false,rfl,HB.o,fun h=>nomatch h⟩
theorem zJ:∀l:List dS,(∀(j:Nat) (h:j<l.length),Td l[j])→Tds l
 |[],_=>trivial
 |a::l,h=>⟨h 0 (by simp),zJ l (fun j hj=>h (j+1) (by simpa using hj))⟩
theorem ac6 (n:Int) (s:bG) (l:List dS) (hs:jv ⟨97,n,s,l⟩+2*kZ ⟨97,n,s,l⟩≤90000) (ih:∀(i:Nat) (h:i<l.length),qp l[i]):qp ⟨97,n,s,l⟩:=by
 intro A c w hc hcc hT
 show Calls prog 92 #[.agg #[.int .u8 97,.int .u64 n,.string s,.slice A l.length c]] w _
 rw[iG,jF]at hs
 simp only at hs
 have hl:=fK l
 have hsl:s.data.toList.length=s.size:=by rw[Array.length_toList];rfl
 obtain⟨r1,hr1⟩:=rD 97 n
 have IR:=ah (fun W=>iw.calls 97 n r1 W hr1)
 have HR1:=ah hr1
 obtain⟨kf,one,rest,rf,hf,gf⟩:=aaY s.data.toList (by omega)
 rw[o8]at hf
 have FI:=ah (fun W=>dX.calls kf s one rest rf W hf)
 have GF:=ah gf
 have HC:=ah hc
 have PT:=ah hT
 have IH:=ah ih
 have HN:=ah (show ∀(i:Nat) (hi:i<l.length),_ from fun i hi=>uY hc jc i hi)
 have SG:=ah (fun (i:Nat) (hi:i<l.length)=>GZ _ l[i] bW (by have:=iT l i hi;have:=lH l i hi;omega))
 obtain⟨m,hm⟩:∃m,l.length=m:=⟨_,rfl⟩
 rw[hm]at hcc hl ⊢
 have HM:=ah hm
 clear hr1 hf gf hc hT ih hm
 go_enter func92,ntmps92
 go_wp2_with (go_at_call 122;refine(IR.o _).mono ?_;rintro e w1 ⟨rfl,hd⟩;have hb:=hd.below;refine Hid.o ?_)
 refine ah ?_
 obtain⟨hB,kr,hlt⟩:=dP (X:=.cells #[.int .u8 97,.int .u64 n,.string s,.slice A m c] 32) hb
 have HB:=ah hB
 have KR:=ah kr
 clear hb hd hB kr hlt
 obtain⟨c0,c1,c2,c3⟩:=dR KR.o
 cases r1
 ·go_wp2
  go_ret
  exact⟨false,rfl,HB.o,fun h=>nomatch h⟩
 go_wp2_with (go_at_call 124;refine(FI.o _).mono ?_;rintro e w2 ⟨rfl,hd2⟩;have hb2:=hd2.below;refine Hid.o ?_)
 refine ah ?_
 have HB:=ah (HB.o.trans (hb2.mono HB.o.size))
 have KR:=ah ((hb2.block _ (lt_of_block KR.o)).trans KR.o)
 clear c0 c1 c2 c3 hb2 hd2
 obtain⟨c0,c1,c2,c3⟩:=dR KR.o
 cases rf
 ·go_wp2
  go_ret
  exact⟨false,rfl,HB.o,fun h=>nomatch h⟩
 by_cases hrest:rest=⟨#[]⟩
 ·by_cases hone:one=s
  ·have HEL:=ah (GF.o rfl hrest)
   subst hrest
   subst hone
   clear GF
   go_wp2
   have RL0:=ah (⟨KR.o,HB.o⟩:_∧_)
   clear KR HB c0 c1 c2 c3
   go_loopw [100] (fun t wr=>∃(k:Nat),k≤m∧t=.int .i64 (k:Nat)∧aj (wr.heap[w.heap.size]?=some (.cells #[.int .u8 97,.int .u64 n,.string one,.slice A m c] 32 (0,0))∧Below w.heap.size w wr)∧aj (∀(j:Nat) (h:j<l.length),j<k→jh l[j]=one.data.toList∧Td l[j])) (fun t _=>m-(intOf t).toNat)
   case atStart=>exact⟨0,jf _,rfl,⟨RL0.o⟩,⟨fun j h hj=>absurd hj (Nat.not_lt_zero _)⟩⟩
   case round =>
    clear RL0
    obtain⟨k,hk,rfl,Hy,Oa⟩:=hrel
    by_cases hlt:k<m
    ·have hd:decide ((k:Int)<(m:Int))=true:=by simp;omega
     have hkl:k<l.length:=by rw[HM.o];exact hlt
     obtain⟨ad,A3,c5,hA,r0,r1,r2,r3,r4,r5⟩:=HN.o k hkl
     obtain⟨ks,hks⟩:=SG.o k hkl
     subst hA
     have Ef:=ah (IH.o k hkl)
     obtain⟨x,hx⟩:∃x,l[k]=x:=⟨_,rfl⟩
     have HX:=ah hx
     rw[hx]at r0 r1 r2 r3 r4 r5 Ef hks
     clear hx
     have mF:=Hy.o.2
     have q0:=(mF.cell (fA w _ r0)).trans r0
     have q1:=(mF.cell (fA w _ r1)).trans r1
     have q2:=(mF.cell (fA w _ r2)).trans r2
     have q3:=(mF.cell (fA w _ r3)).trans r3
     have SGK:=ah (fun W (hb:Below w.heap.size w W)=>aN.calls ks x.f0 x.f1 x.f2 A3 c5 x.f3 _ W (Kd.bQ r5 hb) r4 hks)
     have IHX:=ah (fun W (hb:Below w.heap.size w W)=>Ef.o A3 c5 W (Kd.bQ r5 hb) r4 (Utf8Tabs_below PT.o hb))
     clear r0 r1 r2 r3 r5 hks mF Ef
     go_wp2
     have hB0:=(Hy.o.2.alloc Hy.o.2.size (.cells #[.int .u8 x.f0,.int .u64 x.f1,.string x.f2,.slice A3 x.f3.length c5] 32)).drew
     have k0:((wr.alloc (.cells #[.int .u8 x.f0,.int .u64 x.f1,.string x.f2,.slice A3 x.f3.length c5] 32)).drew).heap[w.heap.size]?=some (.cells #[.int .u8 97,.int .u64 n,.string one,.slice (some ad) m c] 32 (0,0)):=(kN _ _ _ (lt_of_block Hy.o.1)).trans Hy.o.1
     have k1:((wr.alloc (.cells #[.int .u8 x.f0,.int .u64 x.f1,.string x.f2,.slice A3 x.f3.length c5] 32)).drew).heap[wr.heap.size]?=some (.cells #[.int .u8 x.f0,.int .u64 x.f1,.string x.f2,.slice A3 x.f3.length c5] 32 (0,0)):=aV _ _ _ rfl
     have HB0:=ah hB0
     have K0:=ah k0
     have K1:=ah k1
     obtain⟨c0,c1,c2,c3⟩:=dR k0
     obtain⟨x0,x1,x2,x3⟩:=dR k1
     clear hB0 k0 k1 q0 q1 q2 q3
     by_cases hsg:jh x=one.data.toList
     ·have e1:bs (jh x)=one:=by rw[hsg,o8]
      rw[e1]at SGK
      have HSG:=ah hsg
      clear hsg e1
      go_region_with (first
       |(go_at_call 25;refine(SGK.o _ HB0.o).mono ?_;rintro e w5 ⟨rfl,hb⟩;have HB1:=ah (HB0.o.trans (hb.mono HB0.o.size));have K0:=ah ((hb.block _ (lt_of_block K0.o)).trans K0.o);have K1:=ah ((hb.block _ (lt_of_block K1.o)).trans K1.o);have ⟨c0,c1,c2,c3⟩:=dR K0.o;have ⟨x0,x1,x2,x3⟩:=dR K1.o;clear hb)
       |(go_at_call 92;refine(IHX.o _ HB1.o).mono ?_;rintro e w6 ⟨r,rfl,hb,hr⟩;have HB2:=ah (HB1.o.trans (hb.mono HB1.o.size));have K0:=ah ((hb.block _ (lt_of_block K0.o)).trans K0.o);have HR:=ah hr;clear hb hr))
      all_goals (
       cases r
       ·go_wp2
        go_ret
        exact⟨false,rfl,HB2.o,fun h=>nomatch h⟩
       ·go_wp2
        go_roundw
        case rel =>
         refine⟨k+1,hlt,by go_num,⟨⟨K0.o,HB2.o⟩⟩,⟨fun j h hj=>?_⟩⟩
         by_cases e:j=k
         ·subst e;exact⟨by rw[HX.o];exact HSG.o,by rw[HX.o];exact HR.o (by trivial)⟩
         ·exact Oa.o j h (by omega)
        case measure=>simp[intOf];omega)
     ·have hs1:¬(bs (jh x)).toList=one.toList:=fun e=>hsg (by have:=wK e;rw[←this,m_])
      have hs2:((bs (jh x)).toList==one.toList)=false:=by simpa using hs1
      have hs3:((bs (jh x)).toList != one.toList)=true:=by simpa using hs1
      clear hsg
      go_region_with (go_at_call 25;refine(SGK.o _ HB0.o).mono ?_;rintro e w5 ⟨rfl,hb⟩;have HB1:=ah (HB0.o.trans (hb.mono HB0.o.size));have K0:=ah ((hb.block _ (lt_of_block K0.o)).trans K0.o);have K1:=ah ((hb.block _ (lt_of_block K1.o)).trans K1.o);have ⟨c0,c1,c2,c3⟩:=dR K0.o;have ⟨x0,x1,x2,x3⟩:=dR K1.o;clear hb)
      all_goals (
       go_wp2
       go_ret
       exact⟨false,rfl,HB1.o,fun h=>nomatch h⟩)
    ·have hd:decide ((k:Int)<(m:Int))=false:=by simp;omega
     have ZQ:=ah (by omega:k=m)
     go_wp2
     go_ret
     refine⟨true,rfl,Hy.o.2,fun _=>?_⟩
     have hall:∀(j:Nat) (h:j<l.length),jh l[j]=one.data.toList∧Td l[j]:=fun j h=>Oa.o j h (by rw[ZQ.o,←HM.o];exact h)
     have h0:∀{P:Prop} {y:Int},(97:Int)≠y→(97:Int)=y→P:=fun a b=>absurd b a
     refine⟨HR1.o,fun a _ _ _=>absurd rfl a,h0 (by decide),h0 (by decide),h0 (by decide),fun _=>⟨by have:=HEL.o;exact this,fun kid hm=>?_⟩,fun h=>absurd h (by decide),h0 (by decide),h0 (by decide),fun _ _ _ a _ _ _=>absurd rfl a,zJ l (fun j h=>(hall j h).2)⟩
     obtain⟨j,hj,rfl⟩:=List.getElem_of_mem hm
     exact(hall j hj).1
  ·have amf:¬one.toList=s.toList:=fun e=>hone (wK e)
   have as3:(one.toList==s.toList)=false:=by simpa using amf
   subst hrest
   go_wp2
   all_goals (
    go_ret
    exact⟨false,rfl,HB.o,fun h=>nomatch h⟩)
 ·have aqS:¬rest.toList=[]:=fun e=>hrest (wK (by rw[e,ByteArray.toList_eq]))
  have atT:rest.toList.isEmpty=false:=by simpa using aqS
  go_wp2
  all_goals (
   go_ret
   exact⟨false,rfl,HB.o,fun h=>nomatch h⟩)
def aaf (x:dS):Prop:=x.f0≠123∧E_ (jh x)∧Td x
theorem Xl (x:dS) (hx:jv x+2*kZ x≤90000) (ih:qp x) (A:Option Addr) (c:Nat) (w:World) (hc:Kd.C qx w A x.f3.length x.f3) (hcc:x.f3.length≤c) (hT:Lib.Utf8Tabs 8 9 w) :
  Calls prog 60 #[.agg #[.int .u8 x.f0,.int .u64 x.f1,.string x.f2,.slice A x.f3.length c]] w (yG (aaf x) w):=by
 obtain⟨ks,hks⟩:=GZ _ x bW (by omega)
 obtain⟨kv,rv,hv,gv⟩:=Hq (jh x)
 have SG:=ah (fun W (hb:Below w.heap.size w W)=>aN.calls ks x.f0 x.f1 x.f2 A c x.f3 _ W (Kd.bQ hc hb) hcc hks)
 have SV:=ah (fun W=>iH.calls kv (bs (jh x)) rv W hv)
 have GV:=ah gv
 have IH:=ah (fun W (hb:Below w.heap.size w W)=>ih A c W (Kd.bQ hc hb) hcc (Utf8Tabs_below hT hb))
 obtain⟨k,n,s,l⟩:=x
 simp only at SG IH ⊢
 obtain⟨m,hm⟩:∃m,l.length=m:=⟨_,rfl⟩
 rw[hm]at SG IH ⊢
 obtain⟨Z,hZ⟩:∃Z,jh (⟨k,n,s,l⟩:dS)=Z:=⟨_,rfl⟩
 rw[hZ]at SG SV GV
 have HZ:=ah hZ
 have HB0:=ah ((jM w).alloc bW (.cells #[.int .u8 k,.int .u64 n,.string s,.slice A m c] 32))
 have K0:=ah (aV w (.cells #[.int .u8 k,.int .u64 n,.string s,.slice A m c] 32) _ rfl)
 by_cases mP:k=123
 ·subst mP
  go_enter func60,ntmps60
  go_wp2
  go_ret
  exact⟨false,rfl,HB0.o,fun h=>nomatch h⟩
 have apX:(k==123)=false:=kS.2 mP
 have atx:(k != 123)=true:=bne_iff_ne.2 mP
 have ZO:=ah mP
 go_enter func60,ntmps60
 go_wp2_with (first
  |(go_at_call 25;refine(SG.o _ HB0.o).mono ?_;rintro e w1 ⟨rfl,hb⟩;have HB1:=ah (HB0.o.trans (hb.mono HB0.o.size));have K1:=ah ((hb.block _ (lt_of_block K0.o)).trans K0.o);clear hb)
  |(go_at_call 45;refine(SV.o _).mono ?_;rintro e w2 ⟨rfl,hb⟩;refine Hid.o ?_))
 refine ah ?_
 have HB2:=ah (HB1.o.trans (hb.mono HB1.o.size))
 have K2:=ah ((hb.block _ (lt_of_block K1.o)).trans K1.o)
 obtain⟨c0,c1,c2,c3⟩:=dR K2.o
 cases rv
 ·go_wp2
  go_ret
  exact⟨false,rfl,HB2.o,fun h=>nomatch h⟩
 ·go_wp2_with (go_at_call 92;refine(IH.o _ HB2.o).mono ?_;rintro e w3 ⟨r,rfl,hb,hr⟩;have HB3:=ah (HB2.o.trans (hb.mono HB2.o.size));have HR:=ah hr;clear hb hr)
  go_ret
  exact⟨_,rfl,HB3.o,fun h=>⟨ZO.o,by rw[HZ.o];exact GV.o (by trivial),HR.o h⟩⟩
theorem ac8 (n:Int) (s:bG) (l:List dS) (hs:eu l≤90000) (ih:∀(i:Nat) (h:i<l.length),qp l[i]):qp ⟨40,n,s,l⟩:=by
 intro A c w hc hcc hT
 show Calls prog 92 #[.agg #[.int .u8 40,.int .u64 n,.string s,.slice A l.length c]] w _
 have hl:=fK l
 obtain⟨r1,hr1⟩:=rD 40 n
 have IR:=ah (fun W=>iw.calls 40 n r1 W hr1)
 have HR1:=ah hr1
 have HC:=ah hc
 have PT:=ah hT
 have IH:=ah ih
 have HN:=ah (show ∀(i:Nat) (hi:i<l.length),_ from fun i hi=>uY hc jc i hi)
 obtain⟨m,hm⟩:∃m,l.length=m:=⟨_,rfl⟩
 rw[hm]at hcc hl ⊢
 have HM:=ah hm
 go_enter func92,ntmps92
 go_wp2_with (go_at_call 122;refine(IR.o _).mono ?_;rintro e w1 ⟨rfl,hd⟩;have hb:=hd.below;refine Hid.o ?_)
 refine ah ?_
 obtain⟨hB,kr,hlt⟩:=dP (X:=.cells #[.int .u8 40,.int .u64 n,.string s,.slice A m c] 32) hb
 have HB:=ah hB
 have KR:=ah kr
 obtain⟨c0,c1,c2,c3⟩:=dR KR.o
 cases r1
 ·go_wp2
  go_ret
  exact⟨false,rfl,HB.o,fun h=>nomatch h⟩
 by_cases hse:s=⟨#[]⟩
 case neg =>
  have SI:¬s.toList=[]:=fun e=>hse (wK (by rw[e,ByteArray.toList_eq]))
  have aiR:s.toList.isEmpty=false:=by simpa using SI
  go_wp2
  all_goals (
   go_ret
   exact⟨false,rfl,HB.o,fun h=>nomatch h⟩)
 subst hse
 by_cases hm0:m=0
 ·have e0:((m:Int)==0)=true:=by simpa using hm0
  go_wp2
  all_goals (
   go_ret
   exact⟨false,rfl,HB.o,fun h=>nomatch h⟩)
 ·have e0:((m:Int)==0)=false:=by rw[kS];omega
  have Qn:=ah hm0
  go_wp2
  have RL0:=ah (⟨KR.o,HB.o⟩:_∧_)
  go_loopw [145] (fun t wr=>∃(k:Nat),k≤m∧t=.int .i64 (k:Nat)∧aj (wr.heap[w.heap.size]?=some (.cells #[.int .u8 40,.int .u64 n,.string ⟨#[]⟩,.slice A m c] 32 (0,0))∧Below w.heap.size w wr)∧aj (∀(j:Nat) (h:j<l.length),j<k→(l[j]).f0≠123∧Td l[j])) (fun t _=>m-(intOf t).toNat)
  case atStart=>exact⟨0,jf _,rfl,⟨RL0.o⟩,⟨fun j h hj=>absurd hj (Nat.not_lt_zero _)⟩⟩
  case round =>
   obtain⟨k,hk,rfl,Hy,Oa⟩:=hrel
   by_cases hlt:k<m
   ·have hd:decide ((k:Int)<(m:Int))=true:=by simp;omega
    have hkl:k<l.length:=by rw[HM.o];exact hlt
    obtain⟨ad,A3,c5,hA,r0,r1,r2,r3,r4,r5⟩:=HN.o k hkl
    subst hA
    have Ef:=ah (IH.o k hkl)
    obtain⟨x,hx⟩:∃x,l[k]=x:=⟨_,rfl⟩
    have HX:=ah hx
    rw[hx]at r0 r1 r2 r3 r4 r5 Ef
    have mF:=Hy.o.2
    have q0:=(mF.cell (fA w _ r0)).trans r0
    have q1:=(mF.cell (fA w _ r1)).trans r1
    have q2:=(mF.cell (fA w _ r2)).trans r2
    have q3:=(mF.cell (fA w _ r3)).trans r3
    have IHX:=ah (fun W (hb:Below w.heap.size w W)=>Ef.o A3 c5 W (Kd.bQ r5 hb) r4 (Utf8Tabs_below PT.o hb))
    have HB0:=ah (Hy.o.2.alloc Hy.o.2.size (.cells #[.int .u8 x.f0,.int .u64 x.f1,.string x.f2,.slice A3 x.f3.length c5] 32))
    have K0:=ah ((kN wr (.cells #[.int .u8 x.f0,.int .u64 x.f1,.string x.f2,.slice A3 x.f3.length c5] 32) _ (lt_of_block Hy.o.1)).trans Hy.o.1)
    by_cases mP:x.f0=123
    ·have e0:(x.f0==123)=true:=by simpa using mP
     have HBz:=HB0.o
     rw[mP]at HBz
     have HBY:=ah HBz
     go_wp2
     go_ret
     exact⟨false,rfl,HBY.o,fun h=>nomatch h⟩
    ·have e0:(x.f0==123)=false:=by simpa using mP
     have ZO:=ah mP
     go_wp2_with (go_at_call 92;refine(IHX.o _ HB0.o).mono ?_;rintro e w6 ⟨r,rfl,hb,hr⟩;have HB2:=ah (HB0.o.trans (hb.mono HB0.o.size));have K2:=ah ((hb.block _ (lt_of_block K0.o)).trans K0.o);have HR:=ah hr;refine Hid.o ?_)
     refine ah ?_
     cases r
     ·go_wp2
      go_ret
      exact⟨false,rfl,HB2.o,fun h=>nomatch h⟩
     ·go_wp2
      go_roundw
      case rel =>
       refine⟨k+1,hlt,by go_num,⟨⟨K2.o,HB2.o⟩⟩,⟨fun j h hj=>?_⟩⟩
       by_cases e:j=k
       ·subst e;exact⟨by rw[HX.o];exact ZO.o,by rw[HX.o];exact HR.o (by trivial)⟩
       ·exact Oa.o j h (by omega)
      case measure=>simp[intOf];omega
   ·have hd:decide ((k:Int)<(m:Int))=false:=by simp;omega
    have ZQ:=ah (by omega:k=m)
    go_wp2
    go_ret
    refine⟨true,rfl,Hy.o.2,fun _=>?_⟩
    have hall:∀(j:Nat) (h:j<l.length),(l[j]).f0≠123∧Td l[j]:=fun j h=>Oa.o j h (by rw[ZQ.o,←HM.o];exact h)
    have h0:∀{P:Prop} {y:Int},(40:Int)≠y→(40:Int)=y→P:=fun a b=>absurd b a
    refine⟨HR1.o,fun _ _ _ _=>rfl,h0 (by decide),h0 (by decide),h0 (by decide),h0 (by decide),fun _=>⟨fun e=>by have:=HM.o;rw[e]at this;simp at this;have:=Qn.o;omega,fun kid hm=>?_⟩,h0 (by decide),h0 (by decide),fun _ _ _ _ a b _=>absurd rfl a,zJ l (fun j h=>(hall j h).2)⟩
    obtain⟨j,hj,rfl⟩:=List.getElem_of_mem hm
    exact(hall j hj).1
theorem ac7 (n:Int) (s:bG) (l:List dS) (hs:eu l≤90000) (ih:∀(i:Nat) (h:i<l.length),qp l[i]):qp ⟨123,n,s,l⟩:=by
 intro A c w hc hcc hT
 show Calls prog 92 #[.agg #[.int .u8 123,.int .u64 n,.string s,.slice A l.length c]] w _
 have hl:=fK l
 obtain⟨r1,hr1⟩:=rD 123 n
 have IR:=ah (fun W=>iw.calls 123 n r1 W hr1)
 have HR1:=ah hr1
 have HC:=ah hc
 have PT:=ah hT
 have IH:=ah ih
 have HN:=ah (show ∀(i:Nat) (hi:i<l.length),_ from fun i hi=>uY hc jc i hi)
 obtain⟨m,hm⟩:∃m,l.length=m:=⟨_,rfl⟩
 rw[hm]at hcc hl ⊢
 have HM:=ah hm
 go_enter func92,ntmps92
 go_wp2_with (go_at_call 122;refine(IR.o _).mono ?_;rintro e w1 ⟨rfl,hd⟩;have hb:=hd.below;refine Hid.o ?_)
 refine ah ?_
 obtain⟨hB,kr,hlt⟩:=dP (X:=.cells #[.int .u8 123,.int .u64 n,.string s,.slice A m c] 32) hb
 have HB:=ah hB
 have KR:=ah kr
 obtain⟨c0,c1,c2,c3⟩:=dR KR.o
 cases r1
 ·go_wp2
  go_ret
  exact⟨false,rfl,HB.o,fun h=>nomatch h⟩
 by_cases hse:s=⟨#[]⟩
 case neg =>
  have SI:¬s.toList=[]:=fun e=>hse (wK (by rw[e,ByteArray.toList_eq]))
  have aiR:s.toList.isEmpty=false:=by simpa using SI
  go_wp2
  all_goals (
   go_ret
   exact⟨false,rfl,HB.o,fun h=>nomatch h⟩)
 subst hse
 by_cases hm2:m=2
 case neg =>
  have e2:((m:Int) != 2)=true:=by rw[bne_iff_ne];omega
  go_wp2
  all_goals (
   go_ret
   exact⟨false,rfl,HB.o,fun h=>nomatch h⟩)
 have e2:((m:Int) != 2)=false:=by rw[bne_eq_false_iff_eq];omega
 have e0:((m:Int)==0)=false:=by rw[kS];omega
 have i0:(0:Int)<(m:Int):=by omega
 have i1:0<m:=by omega
 have ZR:=ah hm2
 have hl0:0<l.length:=by rw[HM.o];exact i1
 obtain⟨ad,A3,c5,hA,r0,-,-,-,-,-⟩:=HN.o 0 hl0
 subst hA
 have q0:=(HB.o.cell (fA w _ r0)).trans r0
 have e00:ad.add (0*4)=ad:=by simp[Addr.add]
 rw[e00]at q0
 obtain⟨rb,hrb⟩:=Fh (l[0]).f0
 have BA:=ah (fun W=>eF.calls (l[0]).f0 rb W hrb)
 have HRB:=ah hrb
 obtain⟨y,hy⟩:∃y,(l[0]).f0=y:=⟨_,rfl⟩
 rw[hy]at BA HRB q0
 have HY:=ah hy
 have Qn:=ah (show ¬m=0 by omega)
 go_wp2_with (go_at_call 125;refine(BA.o _).mono ?_;rintro e w2 ⟨rfl,hd⟩;have hb:=hd.below;refine Hid.o ?_)
 refine ah ?_
 have HB:=ah (HB.o.trans (hb.mono HB.o.size))
 have KR:=ah ((hb.block _ (lt_of_block KR.o)).trans KR.o)
 obtain⟨c0,c1,c2,c3⟩:=dR KR.o
 cases rb
 ·go_wp2
  go_ret
  exact⟨false,rfl,HB.o,fun h=>nomatch h⟩
 ·go_wp2
  have RL0:=ah (⟨KR.o,HB.o⟩:_∧_)
  go_loopw [145] (fun t wr=>∃(k:Nat),k≤m∧t=.int .i64 (k:Nat)∧aj (wr.heap[w.heap.size]?=some (.cells #[.int .u8 123,.int .u64 n,.string ⟨#[]⟩,.slice (some ad) m c] 32 (0,0))∧Below w.heap.size w wr)∧aj (∀(j:Nat) (h:j<l.length),j<k→(l[j]).f0≠123∧Td l[j])) (fun t _=>m-(intOf t).toNat)
  case atStart=>exact⟨0,jf _,rfl,⟨RL0.o⟩,⟨fun j h hj=>absurd hj (Nat.not_lt_zero _)⟩⟩
  case round =>
   obtain⟨k,hk,rfl,Hy,Oa⟩:=hrel
   by_cases hlt:k<m
   ·have hd:decide ((k:Int)<(m:Int))=true:=by simp;omega
    have hkl:k<l.length:=by rw[HM.o];exact hlt
    obtain⟨Ih,A3,c5,hA,r0,r1,r2,r3,r4,r5⟩:=HN.o k hkl
    cases hA
    have Ef:=ah (IH.o k hkl)
    obtain⟨x,hx⟩:∃x,l[k]=x:=⟨_,rfl⟩
    have HX:=ah hx
    rw[hx]at r0 r1 r2 r3 r4 r5 Ef
    have mF:=Hy.o.2
    have q0:=(mF.cell (fA w _ r0)).trans r0
    have q1:=(mF.cell (fA w _ r1)).trans r1
    have q2:=(mF.cell (fA w _ r2)).trans r2
    have q3:=(mF.cell (fA w _ r3)).trans r3
    have IHX:=ah (fun W (hb:Below w.heap.size w W)=>Ef.o A3 c5 W (Kd.bQ r5 hb) r4 (Utf8Tabs_below PT.o hb))
    have HB0:=ah (Hy.o.2.alloc Hy.o.2.size (.cells #[.int .u8 x.f0,.int .u64 x.f1,.string x.f2,.slice A3 x.f3.length c5] 32))
    have K0:=ah ((kN wr (.cells #[.int .u8 x.f0,.int .u64 x.f1,.string x.f2,.slice A3 x.f3.length c5] 32) _ (lt_of_block Hy.o.1)).trans Hy.o.1)
    by_cases mP:x.f0=123
    ·have e0:(x.f0==123)=true:=by simpa using mP
     have HBz:=HB0.o
     rw[mP]at HBz
     have HBY:=ah HBz
     go_wp2
     go_ret
     exact⟨false,rfl,HBY.o,fun h=>nomatch h⟩
    ·have e0:(x.f0==123)=false:=by simpa using mP
     have ZO:=ah mP
     go_wp2_with (go_at_call 92;refine(IHX.o _ HB0.o).mono ?_;rintro e w6 ⟨r,rfl,hb,hr⟩;have HB2:=ah (HB0.o.trans (hb.mono HB0.o.size));have K2:=ah ((hb.block _ (lt_of_block K0.o)).trans K0.o);have HR:=ah hr;refine Hid.o ?_)
     refine ah ?_
     cases r
     ·go_wp2
      go_ret
      exact⟨false,rfl,HB2.o,fun h=>nomatch h⟩
     ·go_wp2
      go_roundw
      case rel =>
       refine⟨k+1,hlt,by go_num,⟨⟨K2.o,HB2.o⟩⟩,⟨fun j h hj=>?_⟩⟩
       by_cases e:j=k
       ·subst e;exact⟨by rw[HX.o];exact ZO.o,by rw[HX.o];exact HR.o (by trivial)⟩
       ·exact Oa.o j h (by omega)
      case measure=>simp[intOf];omega
   ·have hd:decide ((k:Int)<(m:Int))=false:=by simp;omega
    have ZQ:=ah (by omega:k=m)
    go_wp2
    go_ret
    refine⟨true,rfl,Hy.o.2,fun _=>?_⟩
    have hall:∀(j:Nat) (h:j<l.length),(l[j]).f0≠123∧Td l[j]:=fun j h=>Oa.o j h (by rw[ZQ.o,←HM.o];exact h)
    have h0:∀{P:Prop} {y:Int},(123:Int)≠y→(123:Int)=y→P:=fun a b=>absurd b a
    refine⟨HR1.o,fun _ _ _ _=>rfl,h0 (by decide),h0 (by decide),h0 (by decide),h0 (by decide),fun _=>⟨fun e=>by have:=HM.o;rw[e]at this;simp at this;have:=Qn.o;omega,fun kid hm=>?_⟩,fun _=>⟨HM.o.trans ZR.o,by rw[show l.getD 0 zo=l[0] by simp[wC,gQ hl0],HY.o];exact HRB.o⟩,h0 (by decide),fun _ _ _ _ a b _=>absurd rfl b,zJ l (fun j h=>(hall j h).2)⟩
    obtain⟨j,hj,rfl⟩:=List.getElem_of_mem hm
    exact(hall j hj).1
theorem ac9 (n:Int) (s:bG) (l:List dS) (hs:dJ l+2*eu l≤90000) (ih:∀(i:Nat) (h:i<l.length),qp l[i]):qp ⟨118,n,s,l⟩:=by
 intro A c w hc hcc hT
 show Calls prog 92 #[.agg #[.int .u8 118,.int .u64 n,.string s,.slice A l.length c]] w _
 have hl:=fK l
 obtain⟨r1,hr1⟩:=rD 118 n
 have IR:=ah (fun W=>iw.calls 118 n r1 W hr1)
 have HR1:=ah hr1
 have HC:=ah hc
 have PT:=ah hT
 have IH:=ah ih
 have HN:=ah (show ∀(i:Nat) (hi:i<l.length),_ from fun i hi=>uY hc jc i hi)
 obtain⟨m,hm⟩:∃m,l.length=m:=⟨_,rfl⟩
 rw[hm]at hcc hl ⊢
 have HM:=ah hm
 go_enter func92,ntmps92
 go_wp2_with (go_at_call 122;refine(IR.o _).mono ?_;rintro e w1 ⟨rfl,hd⟩;have hb:=hd.below;refine Hid.o ?_)
 refine ah ?_
 obtain⟨hB,kr,hlt⟩:=dP (X:=.cells #[.int .u8 118,.int .u64 n,.string s,.slice A m c] 32) hb
 have HB:=ah hB
 have KR:=ah kr
 obtain⟨c0,c1,c2,c3⟩:=dR KR.o
 cases r1
 ·go_wp2
  go_ret
  exact⟨false,rfl,HB.o,fun h=>nomatch h⟩
 by_cases hse:s=⟨#[]⟩
 case neg =>
  have SI:¬s.toList=[]:=fun e=>hse (wK (by rw[e,ByteArray.toList_eq]))
  have aiR:s.toList.isEmpty=false:=by simpa using SI
  go_wp2
  all_goals (
   go_ret
   exact⟨false,rfl,HB.o,fun h=>nomatch h⟩)
 subst hse
 by_cases hm1:m=1
 case neg =>
  have e1:((m:Int)==1)=false:=by rw[kS];omega
  go_wp2
  all_goals (
   go_ret
   exact⟨false,rfl,HB.o,fun h=>nomatch h⟩)
 have e1:((m:Int)==1)=true:=by rw[beq_iff_eq];omega
 have i0:(0:Int)<(m:Int):=by omega
 have i1:0<m:=by omega
 have HM1:=ah hm1
 have hl0:0<l.length:=by rw[HM.o];exact i1
 obtain⟨ad,A3,c5,hA,r0,r1,r2,r3,r4,r5⟩:=HN.o 0 hl0
 subst hA
 have e00:ad.add (0*4)=ad:=by simp[Addr.add]
 rw[e00]at r0 r1 r2 r3
 have q0:=(HB.o.cell (fA w _ r0)).trans r0
 have q1:=(HB.o.cell (fA w _ r1)).trans r1
 have q2:=(HB.o.cell (fA w _ r2)).trans r2
 have q3:=(HB.o.cell (fA w _ r3)).trans r3
 have TT:=ah (fun W (hb:Below w.heap.size w W)=>Xl l[0] (by have:=iT l 0 hl0;have:=lH l 0 hl0;omega) (IH.o 0 hl0) A3 c5 W (Kd.bQ r5 hb) r4 (Utf8Tabs_below PT.o hb))
 have hgd:l.getD 0 zo=l[0]:=by simp[wC,gQ hl0]
 have HGD:=ah hgd
 obtain⟨x,hx⟩:∃x,l[0]=x:=⟨_,rfl⟩
 rw[hx]at q0 q1 q2 q3 TT
 have HX:=ah hx
 go_wp2_with (go_at_call 60;refine(TT.o _ HB.o).mono ?_;rintro e w6 ⟨r,rfl,hb,hr⟩;have HB2:=ah (HB.o.trans (hb.mono HB.o.size));have HR:=ah hr;clear hb hr)
 go_ret
 refine⟨_,rfl,HB2.o,fun h=>?_⟩
 have ht:=HR.o h
 have h0:∀{P:Prop} {y:Int},(118:Int)≠y→(118:Int)=y→P:=fun a b=>absurd b a
 have hlen:l.length=1:=HM.o.trans HM1.o
 refine⟨HR1.o,fun _ _ _ _=>rfl,h0 (by decide),h0 (by decide),h0 (by decide),h0 (by decide),fun h=>absurd h (by decide),h0 (by decide),fun _=>⟨hlen,?_,?_⟩,fun _ _ _ _ _ _ a=>absurd rfl a,?_⟩
 ·rw[HGD.o,HX.o];exact ht.1
 ·rw[HGD.o,HX.o];exact ht.2.1
 ·refine zJ l (fun j hj=>?_)
  have e:j=0:=by omega
  subst e
  rw[HX.o];exact ht.2.2
theorem vg (k n:Int) (s:bG) (l:List dS):kZ ⟨k,n,s,l⟩=1+eu l:=iG _
theorem xA (k n:Int) (s:bG) (l:List dS):jv ⟨k,n,s,l⟩=s.size+dJ l:=jF _
theorem ac5 (m:Nat):∀x:dS,kZ x≤m→jv x+2*kZ x≤90000→qp x:=by
 induction m with
 |zero=>intro x h;rw[iG]at h;omega
 |succ m ih =>
 rintro⟨k,n,s,l⟩ hm hb
 have hb0:=hb
 rw[vg]at hm hb
 rw[xA]at hb
 have hl:=fK l
 have IH:∀(i:Nat) (h:i<l.length),qp l[i]:=fun i h=>by
  have:=iT l i h
  have:=lH l i h
  exact ih _ (by omega) (by omega)
 by_cases h97:k=97
 ·subst h97;exact ac6 n s l hb0 IH
 by_cases NU:k=40
 ·subst NU;exact ac8 n s l (by omega) IH
 by_cases mP:k=123
 ·subst mP;exact ac7 n s l (by omega) IH
 by_cases abu:k=118
 ·subst abu;exact ac9 n s l (by omega) IH
 exact Zh k n s l (by omega) (by omega) ⟨h97,NU,mP,abu⟩
def Un (l:List dS):Prop:=(∀(j:Nat) (h:j<l.length),aaf l[j])∧E_ (iY l)
theorem Nk (l:List dS) (hs:dJ l+2*eu l≤90000) (A:Option Addr) (c:Nat) (w:World) (hc:Kd.C qx w A l.length l) (hcc:l.length≤c) (hT:Lib.Utf8Tabs 8 9 w) :
  Calls prog 38 #[.slice A l.length c] w (yG (Un l) w):=by
 have hl:=fK l
 obtain⟨kg,hkg⟩:=JD l (by omega)
 obtain⟨kv,rv,hv,gv⟩:=Hq (iY l)
 have SGS:=ah (fun W (hb:Below w.heap.size w W)=>dA.calls kg A c l _ W (Kd.bQ hc hb) hcc hkg)
 have SV:=ah (fun W=>iH.calls kv (bs (iY l)) rv W hv)
 have GV:=ah gv
 have PT:=ah hT
 have HN:=ah (show ∀(i:Nat) (hi:i<l.length),_ from fun i hi=>uY hc jc i hi)
 have TT:=ah (fun (i:Nat) (hi:i<l.length)=>Xl l[i] (by have:=iT l i hi;have:=lH l i hi;omega) (ac5 _ l[i] bW (by have:=iT l i hi;have:=lH l i hi;omega)))
 obtain⟨m,hm⟩:∃m,l.length=m:=⟨_,rfl⟩
 rw[hm]at hcc hl SGS ⊢
 have HM:=ah hm
 have hml:m≤90000:=by omega
 clear hc hT hkg hv gv hm hs hl
 go_enter func38,ntmps38
 go_wp2
 go_loopw [7] (fun t wr=>∃(k:Nat),k≤m∧t=.int .i64 (k:Nat)∧aj (Below w.heap.size w wr)∧aj (∀(j:Nat) (h:j<l.length),j<k→aaf l[j])) (fun t _=>m-(intOf t).toNat)
 case atStart=>exact⟨0,jf _,rfl,⟨jc⟩,⟨fun j h hj=>absurd hj (Nat.not_lt_zero _)⟩⟩
 case round =>
  obtain⟨k,hk,rfl,rU,Oa⟩:=hrel
  by_cases hlt:k<m
  ·have hd:decide ((k:Int)<(m:Int))=true:=by simp;omega
   have hkl:k<l.length:=by rw[HM.o];exact hlt
   obtain⟨ad,A3,c5,hA,r0,r1,r2,r3,r4,r5⟩:=HN.o k hkl
   subst hA
   have TK:=ah (TT.o k hkl)
   obtain⟨x,hx⟩:∃x,l[k]=x:=⟨_,rfl⟩
   have HX:=ah hx
   rw[hx]at r0 r1 r2 r3 r4 r5 TK
   clear hx
   have mF:=rU.o
   have q0:=(mF.cell (fA w _ r0)).trans r0
   have q1:=(mF.cell (fA w _ r1)).trans r1
   have q2:=(mF.cell (fA w _ r2)).trans r2
   have q3:=(mF.cell (fA w _ r3)).trans r3
   have TX:=ah (fun W (hb:Below w.heap.size w W)=>TK.o A3 c5 W (Kd.bQ r5 hb) r4 (Utf8Tabs_below PT.o hb))
   have HB0:=ah (rU.o.alloc rU.o.size (.cells #[.int .u8 x.f0,.int .u64 x.f1,.string x.f2,.slice A3 x.f3.length c5] 32))
   clear r0 r1 r2 r3 r5 mF TK
   go_wp2_with (go_at_call 60;refine(TX.o _ HB0.o).mono ?_;rintro e w6 ⟨r,rfl,hb,hr⟩;have HB2:=ah (HB0.o.trans (hb.mono HB0.o.size));have HR:=ah hr;refine Hid.o ?_)
   refine ah ?_
   clear hb hr
   cases r
   ·go_wp2
    go_ret
    exact⟨false,rfl,HB2.o,fun h=>nomatch h⟩
   ·go_wp2
    go_roundw
    case rel =>
     refine⟨k+1,hlt,by go_num,⟨HB2.o⟩,⟨fun j h hj=>?_⟩⟩
     by_cases e:j=k
     ·subst e;rw[HX.o];exact HR.o (by trivial)
     ·exact Oa.o j h (by omega)
    case measure=>simp[intOf];omega
  ·have hd:decide ((k:Int)<(m:Int))=false:=by simp;omega
   have ZQ:=ah (by omega:k=m)
   go_wp2_with (first
    |(go_at_call 14;refine(SGS.o _ rU.o).mono ?_;rintro e w1 ⟨rfl,hb⟩;have HB1:=ah (rU.o.trans (hb.mono rU.o.size));clear hb)
    |(go_at_call 45;refine(SV.o _).mono ?_;rintro e w2 ⟨rfl,hb⟩;have HB2:=ah (HB1.o.trans (hb.mono HB1.o.size));clear hb))
   go_ret
   exact⟨rv,rfl,HB2.o,fun h=>⟨fun j hj=>Oa.o j hj (by rw[ZQ.o,←HM.o];exact hj),GV.o h⟩⟩
def aag (l:List dS):Prop:=(eu l≤400∧dJ l≤65536)∧Un l∧∀(j:Nat) (h:j<l.length),mY l[j]
theorem Qk (l:List dS) (h1:eu l≤9000000) (h2:dJ l≤9000000) (A:Option Addr) (c:Nat) (w:World) (hc:Kd.C qx w A l.length l) (hcc:l.length≤c) (hT:Lib.Utf8Tabs 8 9 w) :
  Calls prog 22 #[.slice A l.length c] w (yG (aag l) w):=by
 have hl:=fK l
 have SM:=ah (Ua l A c w hc hcc h1 h2)
 have TA:=ah (fun (hs:dJ l+2*eu l≤90000) W (hb:Below w.heap.size w W)=>Nk l hs A c W (Kd.bQ hc hb) hcc (Utf8Tabs_below hT hb))
 have HN:=ah (show ∀(i:Nat) (hi:i<l.length),_ from fun i hi=>uY hc jc i hi)
 obtain⟨m,hm⟩:∃m,l.length=m:=⟨_,rfl⟩
 rw[hm]at hcc hl SM TA ⊢
 have HM:=ah hm
 have HL:=ah hl
 clear hc hT hm h1 h2
 go_enter func22,ntmps22
 go_wp2_with (go_at_call 37;refine SM.o.mono ?_;rintro e w1 ⟨r,rfl,hb,hr⟩;refine Hid.o ?_)
 refine ah ?_
 have HB:=ah hb
 have HR:=ah hr
 clear hb hr hl
 cases r
 ·go_wp2
  go_ret
  exact⟨false,rfl,HB.o,fun h=>nomatch h⟩
 have hsm:=HR.o (by trivial)
 have HSM:=ah hsm
 have TA2:=ah (TA.o (by have:=HSM.o;omega))
 have hml:m≤400:=by have:=HL.o;omega
 clear hsm TA HR
 go_wp2_with (go_at_call 38;refine(TA2.o _ HB.o).mono ?_;rintro e w2 ⟨r,rfl,hb,hr⟩;refine Hid.o ?_)
 refine ah ?_
 have HB:=ah (HB.o.trans (hb.mono HB.o.size))
 have HR:=ah hr
 clear hb hr
 cases r
 ·go_wp2
  go_ret
  exact⟨false,rfl,HB.o,fun h=>nomatch h⟩
 have HAT:=ah (HR.o (by trivial))
 clear HR
 go_wp2
 go_loopw [3,4] (fun b t wr=>∃(k:Nat) (q:Bool),k≤m∧b=.bool q∧t=.int .i64 (k:Nat)∧aj (Below w.heap.size w wr)∧aj (q=true→∀(j:Nat) (h:j<l.length),j<k→mY l[j])) (fun _ t _=>m-(intOf t).toNat)
 case atStart=>exact⟨0,true,jf _,rfl,rfl,⟨HB.o⟩,⟨fun _ j h hj=>absurd hj (Nat.not_lt_zero _)⟩⟩
 case round =>
  clear HB
  obtain⟨k,q,hk,rfl,rfl,rU,Oa⟩:=hrel
  cases q
  ·go_wp2
   go_ret
   exact⟨false,rfl,rU.o,fun h=>nomatch h⟩
  by_cases hlt:k<m
  ·have hd:decide ((k:Int)<(m:Int))=true:=by simp;omega
   have hki:(k:Int)<(m:Int):=by omega
   have hkl:k<l.length:=by rw[HM.o];exact hlt
   obtain⟨ad,A3,c5,hA,r0,r1,r2,r3,r4,r5⟩:=HN.o k hkl
   subst hA
   have c1:=iT l k hkl
   have c2:=lH l k hkl
   obtain⟨x,hx⟩:∃x,l[k]=x:=⟨_,rfl⟩
   have HX:=ah hx
   rw[hx]at r0 r1 r2 r3 r4 r5 c1 c2
   obtain⟨kk,rk,hkk,gkk⟩:=afL _ x bW (by have:=HSM.o;omega) (by have:=HSM.o;omega)
   have mF:=rU.o
   have q0:=(mF.cell (fA w _ r0)).trans r0
   have q1:=(mF.cell (fA w _ r1)).trans r1
   have q2:=(mF.cell (fA w _ r2)).trans r2
   have q3:=(mF.cell (fA w _ r3)).trans r3
   have KX:=ah (fun W (hb:Below w.heap.size w W)=>aX.calls kk x.f0 x.f1 x.f2 A3 c5 x.f3 rk W (Kd.bQ r5 hb) r4 hkk)
   have GK:=ah gkk
   clear r0 r1 r2 r3 r5 mF hx c1 c2 hkk gkk
   go_wp2_with (go_at_call 39;refine(KX.o _ rU.o).mono ?_;rintro e w6 ⟨rfl,hb⟩;have HB2:=ah (rU.o.trans (hb.mono rU.o.size));clear hb)
   go_roundw
   case rel =>
    refine⟨k+1,rk,hlt,rfl,by go_num,⟨HB2.o⟩,⟨fun hr j h hj=>?_⟩⟩
    by_cases e:j=k
    ·subst e;rw[HX.o];exact GK.o hr
    ·exact Oa.o (by trivial) j h (by omega)
   case measure=>simp[intOf];omega
  ·have hd:decide ((k:Int)<(m:Int))=false:=by simp;omega
   have ZQ:=ah (by omega:k=m)
   go_wp2
   go_ret
   exact⟨true,rfl,rU.o,fun _=>⟨HSM.o,HAT.o,fun j hj=>Oa.o (by trivial) j hj (by rw[ZQ.o,←HM.o];exact hj)⟩⟩
def oC (l:List dS):Prop:=aag l∧∀(j:Nat) (h:j<l.length),wO l[j]≤30
theorem Eb (l:List dS) (h1:eu l≤9000000) (h2:dJ l≤9000000) (A:Option Addr) (c:Nat) (w:World) (hc:Kd.C qx w A l.length l) (hcc:l.length≤c) (hT:Lib.Utf8Tabs 8 9 w) :
  Calls prog 11 #[.slice A l.length c] w (yG (oC l) w):=by
 have hl:=fK l
 have SM:=ah (Qk l h1 h2 A c w hc hcc hT)
 have HN:=ah (show ∀(i:Nat) (hi:i<l.length),_ from fun i hi=>uY hc jc i hi)
 obtain⟨m,hm⟩:∃m,l.length=m:=⟨_,rfl⟩
 rw[hm]at hcc hl SM ⊢
 have HM:=ah hm
 have HL:=ah hl
 clear hc hT hm h1 h2
 go_enter func11,ntmps11
 go_wp2_with (go_at_call 22;refine SM.o.mono ?_;rintro e w1 ⟨r,rfl,hb,hr⟩;refine Hid.o ?_)
 refine ah ?_
 have HB:=ah hb
 have HR:=ah hr
 clear hb hr hl
 cases r
 ·go_wp2
  go_ret
  exact⟨false,rfl,HB.o,fun h=>nomatch h⟩
 have HAT:=ah (HR.o (by trivial))
 have hml:m≤400:=by have:=HL.o;have:=HAT.o.1;omega
 clear HR
 go_wp2
 go_loopw [3,4] (fun b t wr=>∃(k:Nat) (q:Bool),k≤m∧b=.bool q∧t=.int .i64 (k:Nat)∧aj (Below w.heap.size w wr)∧aj (q=true→∀(j:Nat) (h:j<l.length),j<k→wO l[j]≤30)) (fun _ t _=>m-(intOf t).toNat)
 case atStart=>exact⟨0,true,jf _,rfl,rfl,⟨HB.o⟩,⟨fun _ j h hj=>absurd hj (Nat.not_lt_zero _)⟩⟩
 case round =>
  clear HB
  obtain⟨k,q,hk,rfl,rfl,rU,Oa⟩:=hrel
  cases q
  ·go_wp2
   go_ret
   exact⟨false,rfl,rU.o,fun h=>nomatch h⟩
  by_cases hlt:k<m
  ·have hd:decide ((k:Int)<(m:Int))=true:=by simp;omega
   have hki:(k:Int)<(m:Int):=by omega
   have hkl:k<l.length:=by rw[HM.o];exact hlt
   obtain⟨ad,A3,c5,hA,r0,r1,r2,r3,r4,r5⟩:=HN.o k hkl
   subst hA
   have c1:=iT l k hkl
   obtain⟨x,hx⟩:∃x,l[k]=x:=⟨_,rfl⟩
   have HX:=ah hx
   rw[hx]at r0 r1 r2 r3 r4 r5 c1
   obtain⟨kk,hkk⟩:=aaG _ x bW (by have:=HAT.o.1;omega)
   have mF:=rU.o
   have q0:=(mF.cell (fA w _ r0)).trans r0
   have q1:=(mF.cell (fA w _ r1)).trans r1
   have q2:=(mF.cell (fA w _ r2)).trans r2
   have q3:=(mF.cell (fA w _ r3)).trans r3
   have KX:=ah (fun W (hb:Below w.heap.size w W)=>bV.calls kk x.f0 x.f1 x.f2 A3 c5 x.f3 _ W (Kd.bQ r5 hb) r4 hkk)
   obtain⟨D,hD⟩:∃D,wO x=D:=⟨_,rfl⟩
   rw[hD]at KX
   have HD:=ah hD
   clear r0 r1 r2 r3 r5 mF hx c1 hkk hD
   go_wp2_with (go_at_call 23;refine(KX.o _ rU.o).mono ?_;rintro e w6 ⟨rfl,hb⟩;have HB2:=ah (rU.o.trans (hb.mono rU.o.size));clear hb)
   go_roundw
   case rel =>
    refine⟨k+1,decide (D≤30),hlt,by simp;omega,by go_num,⟨HB2.o⟩,⟨fun hr j h hj=>?_⟩⟩
    by_cases e:j=k
    ·subst e;rw[HX.o,HD.o];exact of_decide_eq_true hr
    ·exact Oa.o (by trivial) j h (by omega)
   case measure=>simp[intOf];omega
  ·have hd:decide ((k:Int)<(m:Int))=false:=by simp;omega
   have ZQ:=ah (by omega:k=m)
   go_wp2
   go_ret
   exact⟨true,rfl,rU.o,fun _=>⟨HAT.o,fun j hj=>Oa.o (by trivial) j hj (by rw[ZQ.o,←HM.o];exact hj)⟩⟩
end Go.Proofs.YtllcccekodcdmaaGreatDoor.Ms
namespace Go.Proofs.YtllcccekodcdmaaGreatDoor.Ms
open Go Go.RowKit Go.Proofs.ak.aT Go.Proofs.YtllcccekodcdmaaGreatDoor.bK
mutual
theorem T.uF:∀(t:T) (a s d a' s' d':Int),a'≤a→s'≤s→d'≤d→t.fits a s d→t.fits a' s' d'
 | .base _,a,s,d,a',s',d',h1,h2,h3,h=>by simp only[T.fits]at h ⊢;omega
 | .arr t,a,s,d,a',s',d',h1,h2,h3,h=>by
   simp only[T.fits]at h ⊢
   exact⟨by omega,T.uF t _ _ _ _ _ _ (by omega) h2 h3 h.2⟩
 | .dict k t,a,s,d,a',s',d',h1,h2,h3,h=>by
   simp only[T.fits]at h ⊢
   exact⟨by omega,by omega,T.uF t _ _ _ _ _ _ (by omega) h2 (by omega) h.2.2⟩
 | .str ts,a,s,d,a',s',d',h1,h2,h3,h=>by
   simp only[T.fits]at h ⊢
   exact⟨by omega,T.Gh ts _ _ _ _ _ _ h1 (by omega) h3 h.2⟩
theorem T.Gh:∀(ts:List T) (a s d a' s' d':Int),a'≤a→s'≤s→d'≤d→T.qC ts a s d→T.qC ts a' s' d'
 |[],_,_,_,_,_,_,_,_,_,_=>trivial
 |t::ts,a,s,d,a',s',d',h1,h2,h3,h=>⟨T.uF t _ _ _ _ _ _ h1 h2 h3 h.1,T.Gh ts _ _ _ _ _ _ h1 h2 h3 h.2⟩
end
theorem Hr (t:T) (hw:t.Dz):∃c r,t.sig=c::r∧c≠41∧c≠125:=by
 cases t with
 |base c =>
  refine⟨c,[],rfl,?_,?_⟩<;>(rintro rfl;revert hw;simp[T.Dz,basic])
 |arr t=>exact⟨97,t.sig,rfl,by decide,by decide⟩
 |dict k t=>exact⟨97,_,rfl,by decide,by decide⟩
 |str ts=>exact⟨40,_,rfl,by decide,by decide⟩
theorem zL (c:UInt8) (hw:(T.base c).Dz):c≠97∧c≠40∧c≠123:=by
 refine⟨?_,?_,?_⟩<;>(rintro rfl;revert hw;simp[T.Dz,basic])
theorem QV (t:T) (hw:t.Dz) (x:List UInt8):∀r,t.sig++r≠123::x:=by
 intro r h
 cases t with
 |base c=>simp only[T.sig,lF,List.cons.injEq]at h;exact(zL c hw).2.2 h.1
 |arr t=>simp[T.sig]at h
 |dict k t=>simp[T.sig]at h
 |str ts=>simp[T.sig]at h
mutual
theorem T.BG:∀(t u:T) (r q:List UInt8),t.Dz→u.Dz→t.sig++r=u.sig++q→t=u∧r=q
 | .base c,u,r,q,h1,h2,h=>by
   have hn:=zL c h1
   cases u with
   |base k=>simp only[T.sig,lF,List.nil_append,List.cons.injEq]at h;exact⟨by rw[h.1],h.2⟩
   |arr t=>simp only[T.sig,lF,List.cons.injEq]at h;exact absurd h.1 hn.1
   |dict k t=>simp only[T.sig,lF,List.cons.injEq]at h;exact absurd h.1 hn.1
   |str ts=>simp only[T.sig,lF,List.cons.injEq]at h;exact absurd h.1 hn.2.1
 | .arr t,u,r,q,h1,h2,h=>by
   cases u with
   |base k=>simp only[T.sig,lF,List.cons.injEq]at h;exact absurd h.1.symm (zL k h2).1
   |arr t2 =>
    simp only[T.sig,lF,List.cons.injEq,true_and]at h
    obtain⟨e1,e2⟩:=T.BG t t2 r q h1 h2 h
    exact⟨by rw[e1],e2⟩
   |dict k t2 =>
    simp only[T.sig,lF,List.cons.injEq,true_and]at h
    exact absurd h (QV t h1 _ r)
   |str ts=>simp[T.sig]at h
 | .dict k t,u,r,q,h1,h2,h=>by
   cases u with
   |base k2=>simp only[T.sig,lF,List.cons.injEq]at h;exact absurd h.1.symm (zL k2 h2).1
   |arr t2 =>
    simp only[T.sig,lF,List.cons.injEq,true_and]at h
    exact absurd h.symm (QV t2 h2 _ q)
   |dict k2 t2 =>
    simp only[T.sig,lF,List.cons.injEq,true_and,ni]at h
    obtain⟨e1,e2⟩:=T.BG t t2 _ _ h1.2 h2.2 h.2
    simp only[lF,List.nil_append,List.cons.injEq,true_and]at e2
    exact⟨by rw[h.1,e1],e2⟩
   |str ts=>simp[T.sig]at h
 | .str ts,u,r,q,h1,h2,h=>by
   cases u with
   |base k2=>simp only[T.sig,lF,List.cons.injEq]at h;exact absurd h.1.symm (zL k2 h2).2.1
   |arr t2=>simp[T.sig]at h
   |dict k2 t2=>simp[T.sig]at h
   |str ts2 =>
    simp only[T.sig,lF,List.cons.injEq,true_and,ni]at h
    obtain⟨e1,e2⟩:=T.G7 ts ts2 _ _ h1.2 h2.2 (Or.inl ⟨r,q,rfl,rfl⟩) h
    simp only[lF,List.nil_append,List.cons.injEq,true_and]at e2
    exact⟨by rw[e1],e2⟩
theorem T.G7:∀(ts us:List T) (r q:List UInt8),T.Ht ts→T.Ht us→((∃r' q',r=[41]++r'∧q=[41]++q')∨(r=[]∧q=[]))→T.sigs ts++r=T.sigs us++q→ts=us∧r=q
 |[],us,r,q,h1,h2,hr,h=>by
  cases us with
  |nil=>exact⟨rfl,h⟩
  |cons u us =>
   exfalso
   obtain⟨c,x,hc,hn,-⟩:=Hr u h2.1
   simp only[T.sigs,hc,List.nil_append,lF,ni]at h
   rcases hr with ⟨r',q',rfl,-⟩|⟨rfl,-⟩
   ·simp only[lF,List.cons.injEq]at h;exact hn h.1.symm
   ·simp at h
 |t::ts,us,r,q,h1,h2,hr,h=>by
  cases us with
  |nil =>
   exfalso
   obtain⟨c,x,hc,hn,-⟩:=Hr t h1.1
   simp only[T.sigs,hc,List.nil_append,lF,ni]at h
   rcases hr with ⟨r',q',-,rfl⟩|⟨-,rfl⟩
   ·simp only[lF,List.cons.injEq]at h;exact hn h.1
   ·simp at h
  |cons u us =>
   simp only[T.sigs,ni]at h
   obtain⟨e1,e2⟩:=T.BG t u _ _ h1.1 h2.1 h
   obtain⟨e3,e4⟩:=T.G7 ts us r q h1.2 h2.2 hr e2
   exact⟨by rw[e1,e3],e4⟩
end
theorem D8 (t:T) (ts:List T) (h1:t.Dz) (h2:T.Ht ts) (h:T.sigs ts=t.sig):ts=[t]:=by
 refine(T.G7 ts [t] [] [] h2 ⟨h1,trivial⟩ (.inr ⟨rfl,rfl⟩) ?_).1
 simp[T.sigs,h]
theorem lD.sub {x y z:List UInt8} (h:lD (x++y++z)):lD y:=by
 intro i hi he
 have h1:(x++y++z)[x.length+i]'(by simp;omega)=y[i]:=by
  rw[List.getElem_append_left (by simp;omega),List.getElem_append_right (by omega)];simp
 have h2:(x++y++z)[x.length+i+1]'(by simp;omega)=y[i+1]:=by
  rw[List.getElem_append_left (by simp;omega),List.getElem_append_right (by omega)]
  congr 1;omega
 have:=h (x.length+i) (by simp;omega) (by rw[h1];exact he)
 rwa [h2]at this
mutual
theorem T.Qh:∀t:T,t.Dz→lD t.sig→t.wf
 | .base c,h,_=>by
   rcases h with h|rfl
   ·revert h;simp only[T.wf,basic,dM];rintro(h|h|h|h|h|h|h|h|h|h|h|h|h)<;>simp[h]
   ·simp[T.wf,dM]
 | .arr t,h,hk=>T.Qh t h (lD.sub (x:=[97]) (z:=[]) (by simpa[T.sig]using hk))
 | .dict k t,h,hk=>by
   refine⟨hk 1 (by simp[T.sig]) rfl,T.Qh t h.2 (lD.sub (x:=[97,123,k]) (z:=[125]) (by simpa[T.sig]using hk))⟩
 | .str ts,h,hk=>⟨h.1,T.adv ts h.2 (lD.sub (x:=[40]) (z:=[41]) (by simpa[T.sig]using hk))⟩
theorem T.adv:∀ts:List T,T.Ht ts→lD (T.sigs ts)→T.NV ts
 |[],_,_=>trivial
 |t::ts,h,hk=>⟨T.Qh t h.1 (lD.sub (x:=[]) (z:=T.sigs ts) (by simpa[T.sigs]using hk)),T.adv ts h.2 (lD.sub (x:=t.sig) (z:=[]) (by simpa[T.sigs]using hk))⟩
end
end Go.Proofs.YtllcccekodcdmaaGreatDoor.Ms
namespace Go.Proofs.YtllcccekodcdmaaGreatDoor.Ms
open Go Go.RowKit Go.Proofs.ak.aT Go.Proofs.ak.cO Go.Proofs.YtllcccekodcdmaaGreatDoor.bK
def Il (k:Nat):Int:=if k<10 then 48+k else 87+k
theorem Sz (k:Nat) (h:k<16) (w:World):(Instr.index 9 (.string ⟨#[48,49,50,51,52,53,54,55,56,57,97,98,99,100,101,102,103,104,105,106,107,108,109,110,111,112,113,114,115,116,117,118,119,120,121,122]⟩) (.int .u64 k)).run prog w=.ok (.int .u8 (Il k)) w:=by
 have:k=0∨k=1∨k=2∨k=3∨k=4∨k=5∨k=6∨k=7∨k=8∨k=9∨k=10∨k=11∨k=12∨k=13∨k=14∨k=15:=by omega
 rcases this with rfl|rfl|rfl|rfl|rfl|rfl|rfl|rfl|rfl|rfl|rfl|rfl|rfl|rfl|rfl|rfl<;>rfl
theorem ahj (w:World):uQ 148 #[.int .i64 16] w (.bool true):=by
 have h:bits .and .i64 16 15=0:=by decide
 go_enter func148,ntmps148
 go_wp2
 go_ret
 exact⟨rfl,rfl⟩
theorem aq6 (w:World) (ht:w.cell? ⟨12,15,none⟩=some (.int .u8 4)):uQ 178 #[.int .u64 16] w (.int .i64 4):=by
 have h1:bits .and .u64 16 (IntKind.u64.wrap (-16))=16:=by decide
 have h2:IntKind.u64.wrap (16*285870213051353865)/288230376151711744=15:=by decide
 have h3:IntKind.u64.wrap 4573923408821661840/288230376151711744=15:=by decide
 go_enter func178,ntmps178
 go_wp2
 go_ret
 exact⟨rfl,rfl⟩
theorem ahm (w:World) (ht:w.cell? ⟨12,15,none⟩=some (.int .u8 4)):uQ 149 #[.int .u64 16] w (.int .i64 4):=by
 have H:=ah (aq6 w ht)
 clear ht
 go_enter func149,ntmps149
 go_wp2_with (go_at_call 178;refine H.o.mono ?_;rintro e w1 ⟨rfl,rfl⟩)
 go_ret
 exact⟨rfl,rfl⟩
def ae2 (n:Nat):List Int:=if n<16 then[Il n]else[Il (n/16),Il (n%16)]
def jO (n:Nat):bG:=strOfNums (ae2 n)
theorem Zp (n:Nat) (h:n<256):bits .and .u64 (n:Int) 15=((n%16:Nat):Int):=by
 have:=u64_and_nat n 15 (by omega) (by omega)
 rw[show ((15:Nat):Int)=15 from rfl]at this
 rw[this,show(15:Nat)=2^4-1 from rfl,Nat.and_two_pow_sub_one_eq_mod]
theorem NR:zeroCells227.size=65:=by kernel_rfl
theorem Q_ (n:Nat) (h:n<16) (w:World) (ht:w.cell? ⟨12,15,none⟩=some (.int .u8 4)) (hz:12<w.heap.size) :
  fC 121 #[.slice none 0 0,.int .u64 n,.int .i64 16,.bool false,.bool false] w (.tuple #[.slice none 0 0,.string (jO n)]):=by
 have IX:=fun w=>Sz n h w
 have P:=ah ahj
 have TZ:=ah (fun o=>ahm (w.alloc o) (((jM w).alloc bW o).cell (p:=⟨12,15,none⟩) hz▸ht))
 have hI:(n:Int)<16:=by omega
 have hcv:(convert 65 9 (.slice (some ⟨w.heap.size,64,none⟩) 1 1)).run prog (w.alloc (.cells (zeroCells227.setIfInBounds 64 (.int .u8 (Il n))) 227))=.ok (.string (jO n)) (w.alloc (.cells (zeroCells227.setIfInBounds 64 (.int .u8 (Il n))) 227)):=by
  have e:jO n=strOfNums [Il n]:=by unfold jO ae2;rw[if_pos h]
  rw[e]
  refine run_convert_bytes_arg _ 65 5 underlying65 underlying5 w.heap.size 64 1 1 [Il n] rfl (fun i hi=>?_) 9 underlying9
  obtain rfl:i=0:=by omega
  rw[World.cell?_alloc_new]
  simp[NR]
 go_enter func121,ntmps121
 go_wp2_with ((first|(go_at_call 148;refine(P.o _).mono ?_)|(go_at_call 149;refine(TZ.o _).mono ?_));rintro e w1 ⟨rfl,rfl⟩)
 go_loop [1,13] (fun t i=>t=.int .u64 n∧i=.int .i64 65) (fun _ _=>0)
 case atStart=>exact⟨rfl,rfl⟩
 case round =>
  obtain⟨rfl,rfl⟩:=hrel
  go_wp2
  go_ret2
  exact⟨rfl,gG _⟩
theorem Oj (n:Nat) (h:16≤n) (h2:n<256) (w:World) (ht:w.cell? ⟨12,15,none⟩=some (.int .u8 4)) (hz:12<w.heap.size) :
  fC 121 #[.slice none 0 0,.int .u64 n,.int .i64 16,.bool false,.bool false] w (.tuple #[.slice none 0 0,.string (jO n)]):=by
 have IX:=fun w=>Sz (n/16) (by omega) w
 have IY:=fun w=>Sz (n%16) (by omega) w
 have P:=ah ahj
 have TZ:=ah (fun o=>ahm (w.alloc o) (((jM w).alloc bW o).cell (p:=⟨12,15,none⟩) hz▸ht))
 have hand:=Zp n h2
 obtain⟨x,hx⟩:∃x,Il (n%16)=x:=⟨_,rfl⟩
 obtain⟨y,hy⟩:∃y,Il (n/16)=y:=⟨_,rfl⟩
 have hcv:(convert 65 9 (.slice (some ⟨w.heap.size,63,none⟩) 2 2)).run prog (w.alloc (.cells ((zeroCells227.setIfInBounds 64 (.int .u8 x)).setIfInBounds 63 (.int .u8 y)) 227))=.ok (.string (jO n)) (w.alloc (.cells ((zeroCells227.setIfInBounds 64 (.int .u8 x)).setIfInBounds 63 (.int .u8 y)) 227)):=by
  have e:jO n=strOfNums [y,x]:=by unfold jO ae2;rw[if_neg (by omega),hx,hy]
  rw[e]
  refine run_convert_bytes_arg _ 65 5 underlying65 underlying5 w.heap.size 63 2 2 [y,x] rfl (fun i hi=>?_) 9 underlying9
  rw[World.cell?_alloc_new]
  rcases (show i=0∨i=1 by omega)with rfl|rfl
  ·simp[NR]
  ·simp[NR]
 rw[hx]at IY
 rw[hy]at IX
 obtain⟨q,hq⟩:∃q,n/16=q:=⟨_,rfl⟩
 obtain⟨r,hr⟩:∃r,n%16=r:=⟨_,rfl⟩
 rw[hq]at IX
 rw[hr]at IY hand
 have hqI:(n:Int)/16=(q:Int):=by omega
 have hI:(16:Int)≤n:=by omega
 have atS:(q:Int)<16:=by omega
 clear hx hy hq hr
 go_enter func121,ntmps121
 go_wp2_with ((first|(go_at_call 148;refine(P.o _).mono ?_)|(go_at_call 149;refine(TZ.o _).mono ?_));rintro e w1 ⟨rfl,rfl⟩)
 go_loopw [1,13] (fun t i wr=>(t=.int .u64 n∧i=.int .i64 65∧wr=w.alloc (.cells zeroCells227 227))∨(t=.int .u64 q∧i=.int .i64 64∧wr=w.alloc (.cells (zeroCells227.setIfInBounds 64 (.int .u8 x)) 227))) (fun t i _=>(intOf i).toNat)
 case atStart=>first|exact .inl ⟨rfl,rfl,rfl⟩|simp
 case round =>
  rcases hrel with ⟨rfl,rfl,rfl⟩|⟨rfl,rfl,rfl⟩
  ·go_wp2
   go_roundw
   case rel=>first|exact .inr ⟨rfl,rfl,rfl⟩|simp
   case measure=>simp[intOf]
  ·go_wp2
   go_ret2
   exact⟨rfl,gG _⟩
theorem KO (n:Nat) (h2:n<256) (w:World) (ht:w.cell? ⟨12,15,none⟩=some (.int .u8 4)) (hz:12<w.heap.size) :
  fC 58 #[.int .u64 n,.int .i64 16] w (.string (jO n)):=by
 have H0:fC 121 #[.slice none 0 0,.int .u64 n,.int .i64 16,.bool false,.bool false] w (.tuple #[.slice none 0 0,.string (jO n)]):=by
  by_cases h:n<16
  ·exact Q_ n h w ht hz
  ·exact Oj n (by omega) h2 w ht hz
 have H0:=ah H0
 have H1:fC 91 #[.int .u64 n,.int .i64 16] w (.string (jO n)):=by
  clear ht
  go_enter func91,ntmps91
  go_wp2_with (go_at_call 121;refine H0.o.mono ?_;rintro e w1 ⟨rfl,hb⟩;have HB:=aj.mk hb;clear hb)
  go_ret
  exact⟨rfl,HB.o⟩
 have H1:=ah H1
 clear ht
 go_enter func58,ntmps58
 go_wp2_with (go_at_call 91;refine H1.o.mono ?_;rintro e w1 ⟨rfl,hb⟩;have HB:=aj.mk hb;clear hb)
 go_ret
 exact⟨rfl,HB.o⟩
theorem Gp (n:Nat):(jO n).size≤2:=by
 unfold jO ae2
 rw[strOfNums_size]
 split<;>simp
end Go.Proofs.YtllcccekodcdmaaGreatDoor.Ms
