import Derived.Test.YtllcccekodcdmaaGreatDoorC23
set_option linter.unusedVariables false
set_option linter.unusedSimpArgs false
set_option maxRecDepth 100000
set_option maxHeartbeats 32000000
open Go.Proofs.Tryz
namespace Go.Proofs.YtllcccekodcdmaaGreatDoor.Ms
open Go Go.RowKit Go.Proofs.ak.aT Go.Proofs.ak.cO Go.Proofs.YtllcccekodcdmaaGreatDoor.bK
def qw (y:jB):Bool:=decide (sN y.f0≠0)&&(decide (sN y.f0=y.f1.f0)&&Ad y.f0 y.f1.f2)
def vY (t f:Nat) (fs:List jB):Bool:=decide (1≤t∧t≤4∧f≤7)&&(fs.all qw&&(iC t).all (fun c=>(findF (c:Int) fs).isSome))
def ahu (fs:List jB):Prop:=∀y∈fs,y.f1.f2.size≤1000000∧(y.f0=8→y.f1.f0=103→∃k,iH.f k y.f1.f2=some true)
theorem jQ {w:World} {b:Nat} {t f s:Int} {a v:Value} (k:w.heap[b]?=some (.cells #[.int .u8 t,.int .u8 f,.int .u32 s,a,v] 26 (0,0))) :
  w.cell? ⟨b,0,none⟩=some (.int .u8 t)∧w.cell? ⟨b,1,none⟩=some (.int .u8 f)∧w.cell? ⟨b,2,none⟩=some (.int .u32 s)∧w.cell? ⟨b,3,none⟩=some a∧w.cell? ⟨b,4,none⟩=some v :=
 ⟨au k 0 rfl,au k 1 rfl,au k 2 rfl,au k 3 rfl,au k 4 rfl⟩
theorem lK {a b:Bool} (h:b=a):Ending.returned (.bool a)=Ending.returned (.bool b):=by rw[h]
theorem UG {w:World} {b:Nat} {c k n:Int} {s:bG} {a:Value} (h:w.heap[b]?=some (.cells #[.int .u8 c,.int .u8 k,.int .u64 n,.string s,a] 38 (0,0))) :
  w.cell? ⟨b,0,none⟩=some (.int .u8 c)∧w.cell? ⟨b,1,none⟩=some (.int .u8 k)∧w.cell? ⟨b,2,none⟩=some (.int .u64 n)∧w.cell? ⟨b,3,none⟩=some (.string s)∧w.cell? ⟨b,4,none⟩=some a :=
 ⟨au h 0 rfl,au h 1 rfl,au h 2 rfl,au h 3 rfl,au h 4 rfl⟩
theorem Dw (t f:Nat) (s:Int) (fs:List jB) (A1 A2:Option Addr) (c1 n2 c2:Nat) (w:World) (h1:Kd.C wG w A1 fs.length fs) (hl:fs.length≤1000000) (hg:ahu fs) :
  Calls prog 16 #[.agg #[.int .u8 t,.int .u8 f,.int .u32 s,.slice A1 fs.length c1,.slice A2 n2 c2]] w (uh (vY t f fs) w):=by
 have HN:=ah (show ∀(W:World) (hb:Below w.heap.size w W) (i:Nat) (hi:i<fs.length),_ from fun W hb i hi=>zK h1 hb i hi)
 have FI:=ah (fun (c:Int) (W:World) (hb:Below w.heap.size w W)=>EG t f s fs A1 A2 c1 n2 c2 c W (Kd.bQ h1 hb) hl)
 have HG:=ah hg
 have HH:=ah (show vY t f fs=(decide (1≤t∧t≤4∧f≤7)&&(fs.all qw&&(iC t).all (fun c=>(findF (c:Int) fs).isSome)))from rfl)
 obtain⟨n1,hn1⟩:∃n1,fs.length=n1:=⟨_,rfl⟩
 have B_:=ah hn1
 rw[hn1]at hl FI ⊢
 clear h1 hn1 hg
 have HB0:=ah ((jM w).alloc bW (.cells #[.int .u8 t,.int .u8 f,.int .u32 s,.slice A1 n1 c1,.slice A2 n2 c2] 26))
 have pI:=ah (aV w (.cells #[.int .u8 t,.int .u8 f,.int .u32 s,.slice A1 n1 c1,.slice A2 n2 c2] 26) _ rfl)
 by_cases ht:1≤t∧t≤4∧f≤7
 ·have NE:=ah (fun W=>Y3 t ht.1 ht.2.1 W)
  have g1:decide ((t:Int)<1)=false:=by simp;omega
  have g2:decide ((4:Int)<(t:Int))=false:=by simp;omega
  have g3:decide ((7:Int)<(f:Int))=false:=by simp;omega
  have HH2:=ah (by rw[HH.o,decide_eq_true ht,Bool.true_and]:vY t f fs=(fs.all qw&&(iC t).all (fun c=>(findF (c:Int) fs).isSome)))
  clear HH ht
  go_enter func16,ntmps16
  go_wp2
  generalize w.alloc (.cells #[.int .u8 t,.int .u8 f,.int .u32 s,.slice A1 n1 c1,.slice A2 n2 c2] 26)=w0 at *
  have HB:=HB0
  go_loopw [25] (fun v25 wr=>∃(k:Nat),k≤n1∧v25=.int .i64 (k:Nat)∧aj (wr.heap[w.heap.size]?=some (.cells #[.int .u8 t,.int .u8 f,.int .u32 s,.slice A1 n1 c1,.slice A2 n2 c2] 26 (0,0))∧Below w.heap.size w wr∧∀j (h:j<fs.length),j<k→qw fs[j]=true)) (fun v25 _=>n1-(intOf v25).toNat)
  case atStart=>exact⟨0,jf _,rfl,⟨pI.o,HB.o,fun j h hj=>by omega⟩⟩
  case round =>
   clear HB pI HB0
   obtain⟨k,hk,rfl,HR0⟩:=hrel
   have KR:=ah HR0.o.1
   have HB:=ah HR0.o.2.1
   have HJ:=ah HR0.o.2.2
   clear HR0
   by_cases hlt:k<n1
   ·have hd:decide ((k:Int)<(n1:Int))=true:=by simp;omega
    have hk9:k+1≤1000001:=by omega
    have hkv:k<fs.length:=by have:=B_.o;omega
    obtain⟨ad,A4,c4,hA,h0,h1,h2,h3,h4,h5,h6⟩:=HN.o wr HB.o k hkv
    subst hA
    have HGO:=ah (HG.o _ (nZ hkv))
    have HBAD:=ah (fun (h:qw fs[k]=false)=>(by
     rw[HH2.o,List.all_eq_false.2 ⟨fs[k],nZ hkv,by simp[h]⟩,Bool.false_and]:vY t f fs=false))
    have HST:=ah (fun (e:qw fs[k]=true) j (h:j<fs.length) (hj:j<k+1)=>(by
     by_cases e2:j=k
     ·subst e2;exact e
     ·exact HJ.o j h (by omega):qw fs[j]=true))
    generalize fs[k]=x at *
    clear h5 h6
    have FK:=ah (fun W=>KJ x.f0 W)
    have HFG:=ah (fun (hz:sN x.f0=x.f1.f0) (n k:Nat) (W:World)=>F8 x.f0 x.f1 A4 n k W HGO.o.1 (fun e=>HGO.o.2 e (by rw[←hz,e];rfl)))
    have HF:=ah (show qw x=(decide (sN x.f0≠0)&&(decide (sN x.f0=x.f1.f0)&&Ad x.f0 x.f1.f2))from rfl)
    have KX:=ah (aV wr (.cells #[.int .u8 x.f0,.int .u8 x.f1.f0,.int .u64 x.f1.f1,.string x.f1.f2,.slice A4 x.f1.f3.length c4] 38) _ rfl)
    have HBX:=ah (HB.o.alloc HB.o.size (.cells #[.int .u8 x.f0,.int .u8 x.f1.f0,.int .u64 x.f1.f1,.string x.f1.f2,.slice A4 x.f1.f3.length c4] 38))
    have KRX:=ah (aQ KR.o (.cells #[.int .u8 x.f0,.int .u8 x.f1.f0,.int .u64 x.f1.f1,.string x.f1.f2,.slice A4 x.f1.f3.length c4] 38))
    clear HGO
    generalize Ad x.f0 x.f1.f2=G at *
    generalize sN x.f0=K at *
    go_wp2
    generalize wr.alloc (.cells #[.int .u8 x.f0,.int .u8 x.f1.f0,.int .u64 x.f1.f1,.string x.f1.f2,.slice A4 x.f1.f3.length c4] 38)=W at *
    clear h0 h1 h2 h3 h4
    have ⟨x0,x1,x2,x3,x4⟩:=UG KX.o
    by_cases hK:K=0
    ·have q0:(K==0)=true:=by simp[hK]
     have HE:=ah (HBAD.o (by rw[HF.o];simp[hK]))
     clear hK HBAD HST HF HFG
     refine H_ ((fun w'=>w'.cell? ⟨wr.heap.size,0,none⟩=some (.int .u8 x.f0))) fun hHeld=>?_
     refine dL 0 ?_
     refine dL 1 ?_
     refine rn 2 fun K hK=>?_
     go_simp
     refine gU (FK.o _) ?_
     (try go_wp2_with fail)
     refine ji hK ?_;clear hK K hHeld;intro hHeld
     refine dL 3 ?_
     refine dL 4 ?_
     refine BR 5 ?_
     refine BR 6 ?_
     refine BR 7 ?_
     refine BR 8 ?_
     refine BR 9 ?_
     refine BR 10 ?_
     refine BR 11 ?_
     refine dL 12 ?_
     refine dL 13 ?_
     refine BR 14 ?_
     refine BR 15 ?_
     refine BR 16 ?_
     refine dL 17 ?_
     refine lX ?_
     go_wp2
     go_ret
     exact⟨lK HE.o,HBX.o.drew⟩
    ·have q0:(K==0)=false:=by simp[hK]
     by_cases hK2:K=x.f1.f0
     ·have q1:(K==x.f1.f0)=true:=by simp[hK2]
      have q2:(K != x.f1.f0)=false:=by simp[hK2]
      have GG:=ah (fun W=>HFG.o hK2 x.f1.f3.length c4 W)
      have HG2:=ah (by rw[HF.o,decide_eq_true hK,decide_eq_true hK2];simp:qw x=G)
      clear hK hK2 HF HFG
      cases G
      ·have HE:=ah (HBAD.o HG2.o)
       clear HBAD HST HG2
       refine H_ ((fun w'=>w'.cell? ⟨wr.heap.size,0,none⟩=some (.int .u8 x.f0)∧w'.cell? ⟨wr.heap.size,1,none⟩=some (.int .u8 x.f1.f0)∧w'.cell? ⟨wr.heap.size,2,none⟩=some (.int .u64 x.f1.f1)∧w'.cell? ⟨wr.heap.size,3,none⟩=some (.string x.f1.f2)∧w'.cell? ⟨wr.heap.size,4,none⟩=some (.slice A4 x.f1.f3.length c4))) fun hHeld=>?_
       refine dL 0 ?_
       refine dL 1 ?_
       refine rn 2 fun K hK=>?_
       go_simp
       refine gU (FK.o _) ?_
       (try go_wp2_with fail)
       refine ji hK ?_;clear hK K hHeld;intro hHeld
       refine dL 3 ?_
       refine dL 4 ?_
       refine dL 5 ?_
       refine dL 6 ?_
       refine dL 8 ?_
       refine dL 9 ?_
       refine dL 10 ?_
       refine rn 7 fun K hK=>?_
       go_simp
       refine gU (FK.o _) ?_
       (try go_wp2_with fail)
       refine ji hK ?_;clear hK K hHeld;intro hHeld
       refine dL 11 ?_
       refine dL 12 ?_
       refine dL 13 ?_
       refine dL 14 ?_
       refine rn 15 fun K hK=>?_
       go_simp
       refine(GG.o _).mono ?_;rintro e w6 ⟨rfl,hb6⟩;have JW:=ah (HBX.o.drew.trans (hb6.mono HBX.o.size));have KR6:=ah ((hb6.block _ (lt_of_block KRX.o)).trans KRX.o);have ⟨y0,y1,y2,y3,y4⟩:=UG ((hb6.block _ (lt_of_block KX.o)).trans KX.o);clear hb6
       (try go_wp2_with fail)
       refine ji hK ?_;clear hK K hHeld;intro hHeld
       refine dL 16 ?_
       refine dL 17 ?_
       refine lX ?_
       go_wp2
       go_ret
       exact⟨lK HE.o,JW.o⟩
      ·have HS2:=ah (HST.o HG2.o)
       clear HBAD HST HG2
       refine H_ ((fun w'=>w'.cell? ⟨wr.heap.size,0,none⟩=some (.int .u8 x.f0)∧w'.cell? ⟨wr.heap.size,1,none⟩=some (.int .u8 x.f1.f0)∧w'.cell? ⟨wr.heap.size,2,none⟩=some (.int .u64 x.f1.f1)∧w'.cell? ⟨wr.heap.size,3,none⟩=some (.string x.f1.f2)∧w'.cell? ⟨wr.heap.size,4,none⟩=some (.slice A4 x.f1.f3.length c4))) fun hHeld=>?_
       refine dL 0 ?_
       refine dL 1 ?_
       refine rn 2 fun K hK=>?_
       go_simp
       refine gU (FK.o _) ?_
       (try go_wp2_with fail)
       refine ji hK ?_;clear hK K hHeld;intro hHeld
       refine dL 3 ?_
       refine dL 4 ?_
       refine dL 5 ?_
       refine dL 6 ?_
       refine dL 8 ?_
       refine dL 9 ?_
       refine dL 10 ?_
       refine rn 7 fun K hK=>?_
       go_simp
       refine gU (FK.o _) ?_
       (try go_wp2_with fail)
       refine ji hK ?_;clear hK K hHeld;intro hHeld
       refine dL 11 ?_
       refine dL 12 ?_
       refine dL 13 ?_
       refine dL 14 ?_
       refine rn 15 fun K hK=>?_
       go_simp
       refine(GG.o _).mono ?_;rintro e w6 ⟨rfl,hb6⟩;have JW:=ah (HBX.o.drew.trans (hb6.mono HBX.o.size));have KR6:=ah ((hb6.block _ (lt_of_block KRX.o)).trans KRX.o);have ⟨y0,y1,y2,y3,y4⟩:=UG ((hb6.block _ (lt_of_block KX.o)).trans KX.o);clear hb6
       (try go_wp2_with fail)
       refine ji hK ?_;clear hK K hHeld;intro hHeld
       refine dL 16 ?_
       refine dL 17 ?_
       refine lX ?_
       go_wp2
       go_roundw
       case rel=>exact⟨k+1,hlt,by go_num,⟨KR6.o,JW.o,HS2.o⟩⟩
       case measure=>simp[intOf];omega
     ·have q1:(K==x.f1.f0)=false:=by simp[hK2]
      have q2:(K != x.f1.f0)=true:=by simp[hK2]
      have HE:=ah (HBAD.o (by rw[HF.o];simp[hK2]))
      clear hK hK2 HBAD HST HF HFG
      refine H_ ((fun w'=>w'.cell? ⟨wr.heap.size,0,none⟩=some (.int .u8 x.f0)∧w'.cell? ⟨wr.heap.size,1,none⟩=some (.int .u8 x.f1.f0))) fun hHeld=>?_
      refine dL 0 ?_
      refine dL 1 ?_
      refine rn 2 fun K hK=>?_
      go_simp
      refine gU (FK.o _) ?_
      (try go_wp2_with fail)
      refine ji hK ?_;clear hK K hHeld;intro hHeld
      refine dL 3 ?_
      refine dL 4 ?_
      refine dL 5 ?_
      refine dL 6 ?_
      refine dL 8 ?_
      refine dL 9 ?_
      refine dL 10 ?_
      refine rn 7 fun K hK=>?_
      go_simp
      refine gU (FK.o _) ?_
      (try go_wp2_with fail)
      refine ji hK ?_;clear hK K hHeld;intro hHeld
      refine dL 11 ?_
      refine dL 12 ?_
      refine dL 13 ?_
      refine BR 14 ?_
      refine BR 15 ?_
      refine BR 16 ?_
      refine dL 17 ?_
      refine lX ?_
      go_wp2
      go_ret
      exact⟨lK HE.o,HBX.o.drew⟩
   ·have hd:decide ((k:Int)<(n1:Int))=false:=by simp;omega
    have HH3:=ah (by
     rw[HH2.o,List.all_eq_true.2 (fun y hy=>(by
      obtain⟨i,hi,rfl⟩:=List.getElem_of_mem hy
      exact HJ.o i hi (by have:=B_.o;omega):qw y=true)),Bool.true_and]:vY t f fs=(iC t).all (fun c=>(findF (c:Int) fs).isSome))
    clear HJ HH2 HG
    obtain⟨r0,r1,r2,r3,r4⟩:=jQ KR.o
    go_wp2_with (go_at_call 28;refine(NE.o _).mono ?_;rintro e w1 ⟨g,n,c,cs,rfl,hn,hg,hcs,hb⟩;refine Hid.o ?_)
    refine ah ?_
    have qR:=ah (HB.o.trans (hb.mono HB.o.size))
    have KB:=ah ((hb.block _ (lt_of_block KR.o)).trans KR.o)
    have HC:=ah hcs
    have HGG:=ah hg
    have HLN:=ah hn
    have hn3:n≤3:=by rw[←hn];exact Ju t
    clear r0 r1 r2 r3 r4 hb hn hg hcs hk HB KR
    go_wp2
    obtain⟨wo,rfl⟩:∃wo:World,wo=wr:=⟨_,rfl⟩
    go_loopw [52] (fun v52 wq=>∃(k:Nat),k≤n∧v52=.int .i64 (k:Nat)∧aj (Below w1.heap.size w1 wq∧∀i (h:i<(iC t).length),i<k→(findF (((iC t)[i]:Nat):Int) fs).isSome=true)) (fun v52 _=>n-(intOf v52).toNat)
    case atStart=>exact⟨0,jf _,rfl,⟨jc,fun i h hi=>by omega⟩⟩
    case round =>
     obtain⟨k,hk,rfl,HR⟩:=hrel
     have HB:=ah HR.o.1
     have HJ:=ah HR.o.2
     clear HR
     by_cases hlt:k<n
     ·have hd:decide ((k:Int)<(n:Int))=true:=by simp;omega
      have hk9:k+1≤4:=by omega
      have hkl:k<(iC t).length:=by have:=HLN.o;omega
      have q0:=au ((HB.o.block _ (lt_of_block HGG.o)).trans HGG.o) k (HC.o k hkl)
      have hbx:=(HB.o.block _ (lt_of_block KB.o)).trans KB.o
      obtain⟨r0,r1,r2,r3,r4⟩:=jQ hbx
      have BO:=ah (qR.o.trans (HB.o.mono qR.o.size))
      have HBAD:=ah (fun (h:findF (((iC t)[k]:Nat):Int) fs=none)=>(by
       rw[HH3.o,List.all_eq_false]
       exact⟨(iC t)[k],nZ hkl,by simp[h]⟩:vY t f fs=false))
      have HST:=ah (fun (x:dS) (e:findF (((iC t)[k]:Nat):Int) fs=some x) i (h:i<(iC t).length) (hi:i<k+1)=>(by
       by_cases e2:i=k
       ·subst e2;rw[e];rfl
       ·exact HJ.o i h (by omega):(findF (((iC t)[i]:Nat):Int) fs).isSome=true))
      have FIK:=ah (FI.o (((iC t)[k]:Nat):Int) wr BO.o)
      generalize (iC t)[k]=cc at *
      clear hbx
      go_wp2_with (go_at_call 13;refine FIK.o.mono ?_;rintro e w2 ⟨h,hb2⟩;have HB2:=ah (HB.o.trans (hb2.mono HB.o.size));clear hb2;rcases h with ⟨x,A0,c0,hx,rfl,-,-⟩|⟨hx,rfl⟩)
      ·have HS3:=ah (HST.o x hx)
       clear hx HBAD HST
       go_roundw
       case rel=>exact⟨k+1,hlt,by go_num,⟨HB2.o.alloc HB2.o.size _,HS3.o⟩⟩
       case measure=>simp[intOf];omega
      ·have HE:=ah (HBAD.o hx)
       go_ret
       exact⟨lK HE.o,qR.o.trans ((HB2.o.alloc HB2.o.size _).mono qR.o.size)⟩
     ·have hd:decide ((k:Int)<(n:Int))=false:=by simp;omega
      have HE:=ah (by
       rw[HH3.o,List.all_eq_true]
       intro c hc
       obtain⟨i,hi,rfl⟩:=List.getElem_of_mem hc
       exact HJ.o i hi (by have:=HLN.o;omega):vY t f fs=true)
      go_wp2
      go_ret
      exact⟨lK HE.o,qR.o.trans (HB.o.mono qR.o.size)⟩
 ·have HE:=ah (by rw[HH.o,decide_eq_false ht];rfl:vY t f fs=false)
  have hh:(t:Int)<1∨((1:Int)≤t∧(4:Int)<t)∨((1:Int)≤t∧(t:Int)≤4∧(7:Int)<f):=by omega
  have HB1:=HB0
  clear HH HB0 pI HG HN FI ht hl B_
  obtain⟨T,hT⟩:∃T:Int,(t:Int)=T:=⟨_,rfl⟩
  obtain⟨F,hF⟩:∃F:Int,(f:Int)=F:=⟨_,rfl⟩
  rw[hT,hF]at hh HB1 ⊢
  clear hT hF
  rcases hh with h|⟨h,h'⟩|⟨h,h',h''⟩
  ·have g1:decide (T<1)=true:=decide_eq_true h
   clear h
   go_enter func16,ntmps16
   go_wp2
   go_ret
   exact⟨lK HE.o,HB1.o⟩
  ·have g1:decide (T<1)=false:=decide_eq_false (by omega)
   have g2:decide (4<T)=true:=decide_eq_true h'
   clear h h'
   go_enter func16,ntmps16
   go_wp2
   go_ret
   exact⟨lK HE.o,HB1.o⟩
  ·have g1:decide (T<1)=false:=decide_eq_false (by omega)
   have g2:decide (4<T)=false:=decide_eq_false (by omega)
   have g3:decide (7<F)=true:=decide_eq_true h''
   clear h h' h''
   go_enter func16,ntmps16
   go_wp2
   go_ret
   exact⟨lK HE.o,HB1.o⟩
def tV (t f:Nat) (fs:List jB) (n:Nat):Bool:=vY t f fs&&((findF 8 fs).isSome || decide (n=0))
theorem Ub (t f:Nat) (s:Int) (fs:List jB) (A1 A2:Option Addr) (c1 n2 c2:Nat) (w:World) (h1:Kd.C wG w A1 fs.length fs) (hl:fs.length≤1000000) (hg:ahu fs) (hn:n2≤1000000000) :
  Calls prog 7 #[.agg #[.int .u8 t,.int .u8 f,.int .u32 s,.slice A1 fs.length c1,.slice A2 n2 c2]] w (uh (tV t f fs n2) w):=by
 have FI:=ah (fun (W:World) (hb:Below w.heap.size w W)=>EG t f s fs A1 A2 c1 n2 c2 8 W (Kd.bQ h1 hb) hl)
 have SH:=ah (fun (W:World) (hb:Below w.heap.size w W)=>Dw t f s fs A1 A2 c1 n2 c2 W (Kd.bQ h1 hb) hl hg)
 have HS:=ah (show tV t f fs n2=(vY t f fs&&((findF 8 fs).isSome || decide (n2=0)))from rfl)
 obtain⟨n1,hn1⟩:∃n1,fs.length=n1:=⟨_,rfl⟩
 rw[hn1]at FI SH ⊢
 clear h1 hn1 hg hl
 generalize vY t f fs=b at *
 have HB0:=ah ((jM w).alloc bW (.cells #[.int .u8 t,.int .u8 f,.int .u32 s,.slice A1 n1 c1,.slice A2 n2 c2] 26))
 have pI:=ah (aV w (.cells #[.int .u8 t,.int .u8 f,.int .u32 s,.slice A1 n1 c1,.slice A2 n2 c2] 26) _ rfl)
 cases hx:findF 8 fs with
 |some x =>
  have FS:=ah (fun (W:World) (hb:Below w.heap.size w W)=>(FI.o W hb).mono (fun e w' h=>(by
   rcases h with ⟨h1|h1,h2⟩
   ·obtain⟨y,A0,c0,hy,he,-,-⟩:=h1
    rw[hx]at hy
    cases hy
    exact⟨A0,c0,he,h2⟩
   ·rw[hx]at h1;cases h1.1:∃A0 c0,e=.returned (.tuple #[.agg #[.int .u8 x.f0,.int .u64 x.f1,.string x.f2,.slice A0 x.f3.length c0],.bool true])∧Below W.heap.size W w')))
  have HE:=ah (by rw[HS.o,hx];simp:tV t f fs n2=b)
  clear hx HS FI
  cases b
  all_goals (
   go_enter func7,ntmps7
   go_wp2_with (first
    |(go_at_call 13;refine(FS.o _ HB0.o).mono ?_;rintro e w2 ⟨A0,c0,rfl,hb2⟩;have HB3:=ah ((HB0.o.trans (hb2.mono HB0.o.size)).alloc (HB0.o.trans (hb2.mono HB0.o.size)).size (.cells #[.int .u8 x.f0,.int .u64 x.f1,.string x.f2,.slice A0 x.f3.length c0] 32));have ⟨r0,r1,r2,r3,r4⟩:=jQ (aQ ((hb2.block _ (lt_of_block pI.o)).trans pI.o) (.cells #[.int .u8 x.f0,.int .u64 x.f1,.string x.f2,.slice A0 x.f3.length c0] 32));clear hb2)
    |(go_at_call 16;refine(SH.o _ HB3.o).mono ?_;rintro e w4 ⟨rfl,hb⟩;have HB4:=ah (HB3.o.trans (hb.mono HB3.o.size));clear hb))
   go_ret
   exact⟨lK HE.o,HB4.o⟩)
 |none =>
  have FS:=ah (fun (W:World) (hb:Below w.heap.size w W)=>(FI.o W hb).mono (fun e w' h=>(by
   rcases h with ⟨h1|h1,h2⟩
   ·obtain⟨y,A0,c0,hy,-⟩:=h1
    rw[hx]at hy
    cases hy
   ·exact⟨h1.2,h2⟩:e=.returned (.tuple #[.agg #[.int .u8 0,.int .u64 0,.string ⟨#[]⟩,.slice none 0 0],.bool false])∧Below W.heap.size W w')))
  have HE:=ah (by rw[HS.o,hx];rfl:tV t f fs n2=(b&&decide (n2=0)))
  clear hx HS FI
  cases b
  ·have HE2:=ah (by rw[HE.o];rfl:tV t f fs n2=false)
   go_enter func7,ntmps7
   go_wp2_with (first
    |(go_at_call 13;refine(FS.o _ HB0.o).mono ?_;rintro e w2 ⟨rfl,hb2⟩;have HB3:=ah ((HB0.o.trans (hb2.mono HB0.o.size)).alloc (HB0.o.trans (hb2.mono HB0.o.size)).size (.cells #[.int .u8 0,.int .u64 0,.string ⟨#[]⟩,.slice none 0 0] 32));have ⟨r0,r1,r2,r3,r4⟩:=jQ (aQ ((hb2.block _ (lt_of_block pI.o)).trans pI.o) (.cells #[.int .u8 0,.int .u64 0,.string ⟨#[]⟩,.slice none 0 0] 32));clear hb2)
    |(go_at_call 16;refine(SH.o _ HB3.o).mono ?_;rintro e w4 ⟨rfl,hb⟩;have HB4:=ah (HB3.o.trans (hb.mono HB3.o.size));clear hb))
   go_ret
   exact⟨lK HE2.o,HB4.o⟩
  ·have q0:((n2:Int)==0)=decide (n2=0):=by
    by_cases h:n2=0
    ·simp[h]
    ·rw[decide_eq_false h,kS];omega
   have q1:(n2==0)=decide (n2=0):=by
    by_cases h:n2=0
    ·simp[h]
    ·rw[decide_eq_false h,kS];omega
   rw[Bool.true_and]at HE
   generalize decide (n2=0)=z at *
   go_enter func7,ntmps7
   go_wp2_with (first
    |(go_at_call 13;refine(FS.o _ HB0.o).mono ?_;rintro e w2 ⟨rfl,hb2⟩;have HB3:=ah ((HB0.o.trans (hb2.mono HB0.o.size)).alloc (HB0.o.trans (hb2.mono HB0.o.size)).size (.cells #[.int .u8 0,.int .u64 0,.string ⟨#[]⟩,.slice none 0 0] 32));have Hz:=ah (aQ ((hb2.block _ (lt_of_block pI.o)).trans pI.o) (.cells #[.int .u8 0,.int .u64 0,.string ⟨#[]⟩,.slice none 0 0] 32));have ⟨r0,r1,r2,r3,r4⟩:=jQ Hz.o;clear hb2)
    |(go_at_call 16;refine(SH.o _ HB3.o).mono ?_;rintro e w4 ⟨rfl,hb⟩;have HB4:=ah (HB3.o.trans (hb.mono HB3.o.size));have ⟨s0,s1,s2,s3,s4⟩:=jQ ((hb.block _ (lt_of_block Hz.o)).trans Hz.o);clear hb))
   go_ret
   exact⟨lK HE.o,HB4.o⟩
theorem ac4 (x:dS) (h:(jh x).head?=some 123) (hl:1<(jh x).length):x.f0=123:=by
 rw[lT]at h hl
 split at h
 ·simp at h
 ·split at h
  ·simp at h
  ·split at h
   ·assumption
   ·rename_i h1 h2 h3
    rw[if_neg h1,if_neg h2,if_neg h3]at hl
    simp at hl
theorem ags (n:Nat):∀x:dS,kZ x≤n→Td x→rV x:=by
 induction n with
 |zero=>intro x h;rw[iG]at h;omega
 |succ n ih =>
 intro x hn ht
 obtain⟨kd,num,s,l⟩:=x
 obtain⟨-,-,-,-,-,t6,-,-,-,-,t11⟩:=ht
 rw[iG]at hn
 simp only at hn
 have at_:∀(j:Nat) (h:j<l.length),Td l[j]∧kZ l[j]≤eu l:=fun j h=>by
  refine⟨?_,iT l j h⟩
  have gen:∀(l:List dS),Tds l→∀(j:Nat) (h:j<l.length),Td l[j]:=by
   intro l
   induction l with
   |nil=>intro _ j h;simp at h
   |cons a l ihl =>
    intro hl j h
    cases j with
    |zero=>exact hl.1
    |succ j=>exact ihl hl.2 j (by simpa using h)
  exact gen l t11 j h
 refine⟨fun h97 i hi mP j hj _=>?_,?_⟩
 ·obtain⟨-,hs⟩:=t6 h97
  have e1:=hs _ (nZ hi)
  have e2:=hs _ (nZ hj)
  have e3:jh l[i]=123::(iY (l[i]).f3++[125]):=by rw[lT,if_neg (by omega),if_neg (by omega),if_pos mP]
  have e4:(l[j]).f0=123:=ac4 _ (by rw[e2,←e1,e3];rfl) (by rw[e2,←e1,e3];simp)
  have hT:=(at_ j hj).1
  generalize l[j]=y at *
  obtain⟨k2,n2,s2,l2⟩:=y
  obtain⟨-,-,-,-,-,-,-,t8,-⟩:=hT
  have:=(t8 e4).1
  show 0<l2.length
  omega
 ·have gen:∀(l:List dS),(∀(j:Nat) (h:j<l.length),rV l[j])→uj l:=by
   intro l
   induction l with
   |nil=>intro _;trivial
   |cons a l ihl=>intro h;exact⟨h 0 (by simp),ihl (fun j hj=>h (j+1) (by simpa using hj))⟩
  exact gen l (fun j h=>ih _ (by have:=(at_ j h).2;omega) (at_ j h).1)
theorem Ii (l:List dS) (hl:eu l≤900000) (ht:∀(j:Nat) (h:j<l.length),Td l[j]) (A:Option Addr) (c:Nat) (w:World) (hc:Kd.C qx w A l.length l) (hcc:l.length≤c) :
  Calls prog 12 #[.slice A l.length c] w fun e w'=>(∃r,e=.returned (.bool r))∧Below w.heap.size w w':=by
 obtain⟨k,r,hk,-⟩:=OE _ ⟨0,0,⟨#[]⟩,l⟩ bW (by rw[iG];simp only;omega) (by
  refine⟨fun h=>absurd h (by decide),?_⟩
  have gen:∀(l:List dS),(∀(j:Nat) (h:j<l.length),rV l[j])→uj l:=by
   intro l
   induction l with
   |nil=>intro _;trivial
   |cons a l ihl=>intro h;exact⟨h 0 (by simp),ihl (fun j hj=>h (j+1) (by simpa using hj))⟩
  exact gen l (fun j h=>ags _ _ bW (ht j h)))
 have DC:=ah (fun W (hb:Below w.heap.size w W)=>aJ.calls k 0 0 ⟨#[]⟩ A c l r W (Kd.bQ hc hb) hcc hk)
 obtain⟨n,hn⟩:∃n,l.length=n:=⟨_,rfl⟩
 rw[hn]at DC ⊢
 clear hc hcc hn ht hl hk
 go_enter func12,ntmps12
 go_wp2_with (go_at_call 24;refine(DC.o _ jc).mono ?_;rintro e w2 ⟨rfl,hb⟩;have HB:=ah hb;clear hb)
 go_ret
 exact⟨⟨_,rfl⟩,HB.o⟩
theorem Yf (t f s:Int) (A1 A2:Option Addr) (n1 c1 n2 c2:Nat) (h1:n1≤2000000000) (h2:n2≤2000000000) (w:World):Calls prog 4 #[.agg #[.int .u8 t,.int .u8 f,.int .u32 s,.slice A1 n1 c1,.slice A2 n2 c2]] w (uh true w):=by
 have g1:decide ((2147483647:Int)<(n1:Int))=false:=by simp;omega
 have g2:decide ((2147483647:Int)<(n2:Int))=false:=by simp;omega
 go_enter func4,ntmps4
 go_wp2
 go_ret
 exact⟨rfl,gG _⟩
def Oc (fs:List jB) (vs:List dS):Prop:=fs.length≤20∧oC vs∧(∀y∈fs,oC [y.f1])∧∀x,findF 8 (dF fs)=some x→x.f0=103→x.f2=bs (iY vs)
theorem aiW:(prog.info? 32).map (fun i=>(i.zero,i.size,i.bytes))=some (some (.agg #[(.int .u8 0),(.int .u64 0),(.string ⟨#[]⟩),(.slice none 0 0)]),4,56):=by kernel_rfl
theorem Yk (t f s:Int) (fs:List jB) (vs:List dS) (A1 A2:Option Addr) (c1 c2:Nat) (w:World) (h1:Kd.C wG w A1 fs.length fs) (hl:fs.length≤10000000) (h2:Kd.C qx w A2 vs.length vs) (hc2:vs.length≤c2)
  (hb1:∀y∈fs,kZ y.f1≤2000000∧jv y.f1≤2000000) (hb2:eu vs≤2000000∧dJ vs≤2000000) (hT:Lib.Utf8Tabs 8 9 w) :
  Calls prog 5 #[.agg #[.int .u8 t,.int .u8 f,.int .u32 s,.slice A1 fs.length c1,.slice A2 vs.length c2]] w (yG (Oc fs vs) w):=by
 have HN:=ah (show ∀(W:World) (hb:Below w.heap.size w W) (i:Nat) (hi:i<fs.length),_ from fun W hb i hi=>zK h1 hb i hi)
 have WB:=ah (fun (W:World) (hb:Below w.heap.size w W)=>Eb vs (by omega) (by omega) A2 c2 W (Kd.bQ h2 hb) hc2 (Utf8Tabs_below hT hb))
 have WD:=ah (fun (hg:oC vs) (W:World) (hb:Below w.heap.size w W)=>Ii vs (by have:=hg.1.1;omega) (fun j h=>(hg.1.2.1.1 j h).2.2) A2 c2 W (Kd.bQ h2 hb) hc2)
 have WF:=ah (fun (y:jB) (hy:y∈fs) (W:World) (hb:Below w.heap.size w W) A c (hc:Kd.C qx W A [y.f1].length [y.f1]) (hcc:[y.f1].length≤c)=>Eb [y.f1] (by have:=(hb1 y hy).1;simp only[eu];omega) (by have:=(hb1 y hy).2;simp only[dJ];omega) A c W hc hcc (Utf8Tabs_below hT hb))
 have SO:=ah (fun (h20:fs.length≤20) (W:World) (hb:Below w.heap.size w W)=>JE t f s fs A1 A2 c1 vs.length c2 W (Kd.xu (Kd.C_F Ph h1) hb) (by omega))
 have SG:=ah (fun (hg:oC vs)=>JD vs (by have:=hg.1.1;omega))
 have SC:=ah (fun k r (W:World) (hb:Below w.heap.size w W) (h:dA.f k vs=some r)=>dA.calls k A2 c2 vs r W (Kd.bQ h2 hb) hc2 h)
 obtain⟨n1,hn1⟩:∃n1,fs.length=n1:=⟨_,rfl⟩
 obtain⟨n2,hn2⟩:∃n2,vs.length=n2:=⟨_,rfl⟩
 have B_:=ah hn1
 rw[hn2]at WB WD SO SC
 rw[hn1]at SO hl
 rw[hn1,hn2]
 clear h1 hn1 h2 hn2 hb1 hb2 hT hc2
 have HB0:=ah ((jM w).alloc bW (.cells #[.int .u8 t,.int .u8 f,.int .u32 s,.slice A1 n1 c1,.slice A2 n2 c2] 26))
 have pI:=ah (aV w (.cells #[.int .u8 t,.int .u8 f,.int .u32 s,.slice A1 n1 c1,.slice A2 n2 c2] 26) _ rfl)
 by_cases h20:n1≤20
 ·have g0:decide ((20:Int)<(n1:Int))=false:=by simp;omega
  go_enter func5,ntmps5
  go_wp2_with (first
   |(go_at_call 11;refine(WB.o _ HB0.o).mono ?_;rintro e w1 ⟨r,rfl,hb,hr⟩;have HB1:=ah (HB0.o.trans (hb.mono HB0.o.size));have J7:=ah ((hb.block _ (lt_of_block pI.o)).trans pI.o);have HR:=ah hr;have ⟨r0,r1,r2,r3,r4⟩:=jQ J7.o;clear hb hr;cases r)
   |(go_at_call 12;refine(WD.o (HR.o (by trivial)) _ HB1.o).mono ?_;rintro e w2 ⟨⟨q,rfl⟩,hb⟩;have HB2:=ah (HB1.o.trans (hb.mono HB1.o.size));have Ic:=ah ((hb.block _ (lt_of_block J7.o)).trans J7.o);have ⟨r0,r1,r2,r3,r4⟩:=jQ Ic.o;clear hb;cases q))
  ·go_ret
   exact⟨false,rfl,HB1.o,fun h=>nomatch h⟩
  ·go_ret
   exact⟨false,rfl,HB2.o,fun h=>nomatch h⟩
  have HWL:=ah (HR.o (by trivial))
  clear HR HB1 J7 WB WD HB0 pI
  go_loopw [3,27] (fun v3 v27 wr=>∃(k:Nat) (xs:List dS),k≤n1∧v27=.int .i64 (k:Nat)∧xs.length=k∧aj (Kd.N qx 32 wr w2.heap.size (fun _=>True) v3 xs∧Below w2.heap.size w2 wr∧∀i (h:i<fs.length),i<k→oC [(fs[i]).f1])) (fun _ v27 _=>n1-(intOf v27).toNat)
  case atStart=>exact⟨0,[],jf _,rfl,rfl,⟨Kd.Z5 _ _ _ _ _,jc,fun i h hi=>absurd hi (Nat.not_lt_zero _)⟩⟩
  case round =>
   obtain⟨k,xs,hk,rfl,hxl,HX⟩:=hrel
   have NN:=ah HX.o.1
   have HB:=ah HX.o.2.1
   have HJ:=ah HX.o.2.2
   clear HX
   have qR:=ah (HB2.o.trans (HB.o.mono HB2.o.size))
   by_cases hlt:k<n1
   ·have hd:decide ((k:Int)<(n1:Int))=true:=by simp;omega
    have hk9:k+1≤21:=by omega
    have hkv:k<fs.length:=by have:=B_.o;omega
    obtain⟨ad,A4,c4,hA,h0,h1,h2,h3,h4,h5,h6⟩:=HN.o wr qR.o k hkv
    subst hA
    have WFK:=ah (WF.o fs[k] (nZ hkv))
    have HST:=ah (fun (e:oC [(fs[k]).f1]) i (h:i<fs.length) (hi:i<k+1)=>(by
     by_cases e2:i=k
     ·subst e2;exact e
     ·exact HJ.o i h (by omega):oC [(fs[i]).f1]))
    have HFK:=ah (fun (W:World) (hb:Below w.heap.size w W)=>afH W (fun k=>k<w.heap.size) (fs[k]).f1 h5 (Kd.xu (Kd.C_F Pg h6) hb))
    generalize fs[k]=x at *
    have KX:=ah (aV wr (.cells #[.int .u8 x.f0,.int .u8 x.f1.f0,.int .u64 x.f1.f1,.string x.f1.f2,.slice A4 x.f1.f3.length c4] 38) _ rfl)
    have HBX:=ah (qR.o.alloc qR.o.size (.cells #[.int .u8 x.f0,.int .u8 x.f1.f0,.int .u64 x.f1.f1,.string x.f1.f2,.slice A4 x.f1.f3.length c4] 38))
    have BO:=ah (HB.o.alloc HB.o.size (.cells #[.int .u8 x.f0,.int .u8 x.f1.f0,.int .u64 x.f1.f1,.string x.f1.f2,.slice A4 x.f1.f3.length c4] 38))
    have NX:=ah (Kd.J8 NN.o (.cells #[.int .u8 x.f0,.int .u8 x.f1.f0,.int .u64 x.f1.f1,.string x.f1.f2,.slice A4 x.f1.f3.length c4] 38))
    obtain⟨x0,x1,x2,x3,x4⟩:=UG KX.o
    have HXL:=ah hxl
    clear h5 h6 hxl
    go_wp2_with ((with_reducible refine jH (b:=.append) (xs:=#[.tmp 31,.tmp 34]) rfl ?_);at_builtin;go_loud (refine Kd.zD qx (w0:=w2) w2.heap.size rfl (.tmp 31) (.tmp 34) 24 32 (.agg #[(.int .u8 0),(.int .u64 0),(.string ⟨#[]⟩),(.slice none 0 0)]) 56 rfl underlying24 aiW rfl (by decide) (by decide) u3 xs x.f1 [.int .u8 x.f1.f0,.int .u64 x.f1.f1,.string x.f1.f2,.slice A4 x.f1.f3.length c4] (fun _=>True) (fun k=>k<w.heap.size) rfl (by simp[Act.eval]) (HFK.o _ HBX.o) (fun k hk=>⟨trivial,fun e=>by have:=Kd.EX NX.o k e.symm;have:=HB2.o.size;omega⟩) (fun k hk=>trivial) NX.o BO.o BO.o.size (by have:=HXL.o;omega) ?_);intro v1 w3 hN1 hb3 hg1 _;refine Hid.o ?_)
    refine ah ?_
    obtain⟨A',c',hv,hle,hC⟩:=Kd.Uy hN1
    have hlen:(xs++[x.f1]).length=k+1:=by simp[HXL.o]
    rw[hlen]at hv hle hC
    subst hv
    have HC:=ah hC
    have NN1:=ah hN1
    have HB3:=ah hb3
    clear hN1 hb3 hg1 hlen hC x0 x1 x2 x3 x4
    have QC:=ah (by
     have h:=Kd.ahs (m:=k) (c:=c') (by rw[show (xs++[x.f1]).length=k+1 by simp[HXL.o]];exact HC.o) (by simp[HXL.o]) (by simp[HXL.o];omega)
     rw[if_neg (by omega),show(xs++[x.f1]).drop k=[x.f1] by rw[←HXL.o];simp]at h
     exact h:Kd.C qx w3 (Option.map (fun x=>x.add (k*4)) A') [x.f1].length [x.f1])
    have apA:=ah (HB2.o.trans (HB3.o.mono HB2.o.size))
    have WC:=ah (WFK.o w3 apA.o _ (c'-k) QC.o (by simp;omega))
    go_wp2_with (go_at_call 11;refine WC.o.mono ?_;rintro e w4 ⟨r,rfl,hb,hr⟩;have NN4:=ah (Kd.J9 NN1.o hb);have HB4:=ah (HB3.o.trans (hb.mono HB3.o.size));have HR4:=ah hr;clear hb hr;cases r)
    ·go_ret
     exact⟨false,rfl,HB2.o.trans (HB4.o.mono HB2.o.size),fun h=>nomatch h⟩
    ·have HS3:=ah (HST.o (HR4.o (by trivial)))
     go_roundw
     case rel=>exact⟨k+1,xs++[x.f1],hlt,by go_num,by simp[HXL.o],⟨NN4.o,HB4.o,HS3.o⟩⟩
     case measure=>simp[intOf];omega
   ·have hd:decide ((k:Int)<(n1:Int))=false:=by simp;omega
    have yw:=ah (fun y hy=>(by
     obtain⟨i,hi,rfl⟩:=List.getElem_of_mem hy
     exact HJ.o i hi (by have:=B_.o;omega):oC [y.f1]):∀y∈fs,oC [y.f1])
    have KBW:=ah ((HB.o.block _ (lt_of_block Ic.o)).trans Ic.o)
    obtain⟨r0,r1,r2,r3,r4⟩:=jQ KBW.o
    have ahy:=ah (⟨by rw[B_.o];exact h20⟩:aj (fs.length≤20))
    have FI:=ah (fun (A':Option Addr) (c':Nat) (W:World) (hc:Kd.C wG W A' (dF fs).length (dF fs))=>EG t f s (dF fs) A' A2 c' n2 c2 8 W hc (by have:=sQ fs;have:=ahy.o.o;omega))
    obtain⟨ks,hks⟩:=SG.o HWL.o
    have SGC:=ah (fun W hb=>SC.o ks _ W hb hks)
    clear hks NN HJ
    cases hx:findF 8 (dF fs)with
    |none =>
     have HM:=ah (⟨ahy.o.o,HWL.o,yw.o,fun x e=>by rw[hx]at e;cases e⟩:Oc fs vs)
     have FS:=ah (fun A' c' W hc=>(FI.o A' c' W hc).mono (fun e w' h=>(by
      rcases h with ⟨h1|h1,h2⟩
      ·obtain⟨y,A0,c0,hy,-⟩:=h1
       rw[hx]at hy
       cases hy
      ·exact⟨h1.2,h2⟩:e=.returned (.tuple #[.agg #[.int .u8 0,.int .u64 0,.string ⟨#[]⟩,.slice none 0 0],.bool false])∧Below W.heap.size W w')))
     clear hx FI
     go_wp2_with (first
      |(go_at_call 6;refine(SO.o h20 _ qR.o).mono ?_;rintro e w5 ⟨A',c',rfl,hle,hF,hb⟩;have zq:=ah (qR.o.trans (hb.mono qR.o.size));have ZC:=ah ((hb.block _ (lt_of_block KBW.o)).trans KBW.o);have Qm:=ah (Kd.ET hF);clear hb hF)
      |(go_at_call 13;refine(FS.o _ _ _ Qm.o).mono ?_;rintro e w6 ⟨rfl,hb⟩;have JW:=ah ((zq.o.trans (hb.mono zq.o.size)).alloc (zq.o.trans (hb.mono zq.o.size)).size (.cells #[.int .u8 0,.int .u64 0,.string ⟨#[]⟩,.slice none 0 0] 32));have KB6:=ah (aQ ((hb.block _ (lt_of_block ZC.o)).trans ZC.o) (.cells #[.int .u8 0,.int .u64 0,.string ⟨#[]⟩,.slice none 0 0] 32));have KX6:=ah (aV w6 (.cells #[.int .u8 0,.int .u64 0,.string ⟨#[]⟩,.slice none 0 0] 32) _ rfl);have ⟨b0,b1,b2,b3,b4⟩:=jQ KB6.o;have ⟨x0,x1,x2,x3⟩:=dR KX6.o;clear hb))
     refine H_ ((fun w'=>w'.cell? ⟨w.heap.size,0,none⟩=some (.int .u8 t))) fun hHeld=>?_
     refine dL 0 ?_
     refine dL 1 ?_
     refine dL 2 ?_
     refine BR 3 ?_
     refine BR 4 ?_
     refine BR 5 ?_
     refine dL 6 ?_
     refine dL 7 ?_
     refine BR 8 ?_
     refine BR 9 ?_
     refine BR 10 ?_
     refine BR 11 ?_
     refine BR 12 ?_
     refine BR 13 ?_
     refine dL 14 ?_
     refine rn 15 fun K hK=>?_
     go_simp
     refine ji hK ?_;clear hK K hHeld;intro hHeld
     refine lX ?_
     go_wp2
     go_ret
     exact⟨true,rfl,JW.o.drew,fun _=>HM.o⟩
    |some x =>
     have FS:=ah (fun A' c' W hc=>(FI.o A' c' W hc).mono (fun e w' h=>(by
      rcases h with ⟨h1|h1,h2⟩
      ·obtain⟨y,A0,c0,hy,he,-,-⟩:=h1
       rw[hx]at hy
       cases hy
       exact⟨A0,c0,he,h2⟩
      ·rw[hx]at h1;cases h1.1:∃A0 c0,e=.returned (.tuple #[.agg #[.int .u8 x.f0,.int .u64 x.f1,.string x.f2,.slice A0 x.f3.length c0],.bool true])∧Below W.heap.size W w')))
     have HM:=ah (fun (h:x.f0=103→x.f2=bs (iY vs))=>(⟨ahy.o.o,HWL.o,yw.o,fun y e=>by rw[hx]at e;cases e;exact h⟩:Oc fs vs))
     clear hx FI
     by_cases Af:x.f0=103
     ·have q0:(x.f0==103)=true:=by simp[Af]
      have q1:(x.f0 != 103)=false:=by simp[Af]
      obtain⟨r,hr⟩:∃r,(x.f2.toList==(bs (iY vs)).toList)=r:=⟨_,rfl⟩
      have ZR:=ah (fun (h:r=true)=>HM.o (fun _=>wK (eq_of_beq (hr.trans h))))
      generalize bs (iY vs)=sg at SGC hr
      clear Af HM
      go_wp2_with (first
       |(go_at_call 6;refine(SO.o h20 _ qR.o).mono ?_;rintro e w5 ⟨A',c',rfl,hle,hF,hb⟩;have zq:=ah (qR.o.trans (hb.mono qR.o.size));have ZC:=ah ((hb.block _ (lt_of_block KBW.o)).trans KBW.o);have Qm:=ah (Kd.ET hF);clear hb hF)
       |(go_at_call 13;refine(FS.o _ _ _ Qm.o).mono ?_;rintro e w6 ⟨A0,c0,rfl,hb⟩;have JW:=ah ((zq.o.trans (hb.mono zq.o.size)).alloc (zq.o.trans (hb.mono zq.o.size)).size (.cells #[.int .u8 x.f0,.int .u64 x.f1,.string x.f2,.slice A0 x.f3.length c0] 32));have KB6:=ah (aQ ((hb.block _ (lt_of_block ZC.o)).trans ZC.o) (.cells #[.int .u8 x.f0,.int .u64 x.f1,.string x.f2,.slice A0 x.f3.length c0] 32));have KX6:=ah (aV w6 (.cells #[.int .u8 x.f0,.int .u64 x.f1,.string x.f2,.slice A0 x.f3.length c0] 32) _ rfl);have ⟨b0,b1,b2,b3,b4⟩:=jQ KB6.o;have ⟨x0,x1,x2,x3⟩:=dR KX6.o;clear hb))
      refine H_ ((fun w'=>w'.cell? ⟨w6.heap.size,0,none⟩=some (.int .u8 x.f0)∧w'.cell? ⟨w6.heap.size,2,none⟩=some (.string x.f2)∧w'.cell? ⟨w.heap.size,4,none⟩=some (.slice A2 n2 c2))) fun hHeld=>?_
      refine dL 0 ?_
      refine dL 1 ?_
      refine dL 2 ?_
      refine dL 3 ?_
      refine dL 4 ?_
      refine dL 5 ?_
      refine dL 6 ?_
      refine dL 7 ?_
      refine dL 8 ?_
      refine dL 9 ?_
      refine dL 10 ?_
      refine dL 11 ?_
      refine rn 12 fun K hK=>?_
      go_simp
      refine(SGC.o _ JW.o.drew).mono ?_;rintro e w7 ⟨rfl,hb⟩;have HB7:=ah (JW.o.drew.trans (hb.mono JW.o.size));have ⟨b0,b1,b2,b3,b4⟩:=jQ ((hb.block _ (lt_of_block KB6.o)).trans KB6.o);have ⟨x0,x1,x2,x3⟩:=dR ((hb.block _ (lt_of_block KX6.o)).trans KX6.o);clear hb
      (try go_wp2_with fail)
      refine ji hK ?_;clear hK K hHeld;intro hHeld
      refine dL 13 ?_
      refine dL 14 ?_
      refine rn 15 fun K hK=>?_
      go_simp
      refine ji hK ?_;clear hK K hHeld;intro hHeld
      refine lX ?_
      go_wp2
      go_ret
      exact⟨r,rfl,HB7.o,ZR.o⟩
     ·have q0:(x.f0==103)=false:=by simp[Af]
      have q1:(x.f0 != 103)=true:=by simp[Af]
      have ZR:=ah (HM.o (fun h=>absurd h Af))
      clear Af HM
      go_wp2_with (first
       |(go_at_call 6;refine(SO.o h20 _ qR.o).mono ?_;rintro e w5 ⟨A',c',rfl,hle,hF,hb⟩;have zq:=ah (qR.o.trans (hb.mono qR.o.size));have ZC:=ah ((hb.block _ (lt_of_block KBW.o)).trans KBW.o);have Qm:=ah (Kd.ET hF);clear hb hF)
       |(go_at_call 13;refine(FS.o _ _ _ Qm.o).mono ?_;rintro e w6 ⟨A0,c0,rfl,hb⟩;have JW:=ah ((zq.o.trans (hb.mono zq.o.size)).alloc (zq.o.trans (hb.mono zq.o.size)).size (.cells #[.int .u8 x.f0,.int .u64 x.f1,.string x.f2,.slice A0 x.f3.length c0] 32));have KB6:=ah (aQ ((hb.block _ (lt_of_block ZC.o)).trans ZC.o) (.cells #[.int .u8 x.f0,.int .u64 x.f1,.string x.f2,.slice A0 x.f3.length c0] 32));have KX6:=ah (aV w6 (.cells #[.int .u8 x.f0,.int .u64 x.f1,.string x.f2,.slice A0 x.f3.length c0] 32) _ rfl);have ⟨b0,b1,b2,b3,b4⟩:=jQ KB6.o;have ⟨x0,x1,x2,x3⟩:=dR KX6.o;clear hb))
      refine H_ ((fun w'=>w'.cell? ⟨w6.heap.size,0,none⟩=some (.int .u8 x.f0))) fun hHeld=>?_
      refine dL 0 ?_
      refine dL 1 ?_
      refine dL 2 ?_
      refine dL 3 ?_
      refine dL 4 ?_
      refine dL 5 ?_
      refine dL 6 ?_
      refine dL 7 ?_
      refine BR 8 ?_
      refine BR 9 ?_
      refine BR 10 ?_
      refine BR 11 ?_
      refine BR 12 ?_
      refine BR 13 ?_
      refine dL 14 ?_
      refine rn 15 fun K hK=>?_
      go_simp
      refine ji hK ?_;clear hK K hHeld;intro hHeld
      refine lX ?_
      go_wp2
      go_ret
      exact⟨true,rfl,JW.o.drew,fun _=>ZR.o⟩
 ·have g0:decide ((20:Int)<(n1:Int))=true:=by simp;omega
  go_enter func5,ntmps5
  go_wp2
  go_ret
  exact⟨false,rfl,HB0.o,fun h=>nomatch h⟩
def Uj:List (bG×Int):=[(nm7,7),(nm6,6),(nm0,0),(nm5,5),(nm9,9),(nm1,1),(nm2,2),(nm4,4),(nm3,3)]
def Md (s:Nat) (fs:List jB) (p:bG×Int):bG:=if p.2=0 then p.1++bs (Lib.decDigits s)else match findF p.2 fs with
 |some x=>if x.f0=117 then p.1++bs (Lib.decDigits x.f1.toNat)else p.1++x.f2
 |none=>⟨#[]⟩
def GR (t s:Nat) (fs:List jB) (k:Nat):bG:=((Uj.take k).map (Md s fs)).foldl (fun a b=>a++b) (Zm t)
def w_ (t s:Nat) (fs:List jB):bG:=GR t s fs 9
theorem JA (t s:Nat) (fs:List jB) (k:Nat) (h:k<Uj.length):GR t s fs (k+1)=GR t s fs k++Md s fs Uj[k]:=by
 unfold GR
 rw[lu h,List.map_append,List.foldl_append]
 rfl
theorem xH (c:Int):∀(l:List jB) (x:dS),findF c l=some x→∃y∈l,y.f0=c∧y.f1=x
 |y::l,x,h=>by
  unfold findF at h
  split at h
  ·rename_i e;cases h;exact⟨y,by simp,e,rfl⟩
  ·obtain⟨z,hz,h2⟩:=xH c l x h;exact⟨z,by simp[hz],h2⟩
def FsW (fs:List jB):Prop:=∀y∈fs,y.f1.f2.size≤1000000∧0≤y.f1.f1∧y.f1.f1<18446744073709551616
theorem adf (t:Nat):(Zm t).size≤20:=by unfold Zm;split<;>decide
theorem zQ (k:Nat) (h:k<18446744073709551616):(bs (Lib.decDigits k)).size≤20:=by rw[aH];exact UR 19 k (by omega)
theorem akh:∀p∈Uj,p.1.size≤20∧0≤p.2∧p.2<256:=by
 unfold Uj
 simp only[List.mem_cons,List.not_mem_nil,or_false,forall_eq_or_imp,forall_eq]
 decide
theorem aho (k:Nat) (h:k<Uj.length):(Uj[k]).1.size≤20∧0≤(Uj[k]).2∧(Uj[k]).2<256:=akh _ (nZ h)
def wdC:Array Value:=#[.string nm7,.int .u8 7,.string nm6,.int .u8 6,.string nm0,.int .u8 0,.string nm5,.int .u8 5,.string nm9,.int .u8 9,.string nm1,.int .u8 1,.string nm2,.int .u8 2,.string nm4,.int .u8 4,.string nm3,.int .u8 3]
theorem Qg (k:Nat) (h:k<Uj.length):wdC[k*2]?=some (.string (Uj[k]).1)∧wdC[k*2+1]?=some (.int .u8 (Uj[k]).2):=by
 have h:k<9:=h
 rcases (by omega:k=0∨k=1∨k=2∨k=3∨k=4∨k=5∨k=6∨k=7∨k=8)with rfl|rfl|rfl|rfl|rfl|rfl|rfl|rfl|rfl<;>exact⟨rfl,rfl⟩
theorem abT (s:Nat) (fs:List jB) (hs:s<4294967296) (hw:FsW fs) (p:bG×Int) (h:p.1.size≤20):(Md s fs p).size≤1000020:=by
 unfold Md
 split
 ·have:=zQ s (by omega);rw[gK];omega
 ·split
  ·rename_i x hx
   obtain⟨y,hy,-,e⟩:=xH _ _ _ hx
   have h1:=hw y hy
   rw[e]at h1
   split
   ·have:=zQ x.f1.toNat (by omega);rw[gK];omega
   ·rw[gK];omega
  ·show 0≤_;omega
theorem Jz (t s:Nat) (fs:List jB) (hs:s<4294967296) (hw:FsW fs) (k:Nat) (h:k≤9):(GR t s fs k).size≤20+k*1000020:=by
 induction k with
 |zero=>exact adf t
 |succ k ih =>
  have h1:=ih (by omega)
  have h2:=abT s fs hs hw Uj[k] (aho k (by show k<9;omega)).1
  rw[JA t s fs k (by show k<9;omega),gK]
  omega
theorem ady (t f s:Nat) (ht:1≤t) (ht4:t≤4) (hs:s<4294967296) (fs:List jB) (A1 A2:Option Addr) (c1 n2 c2:Nat) (w:World) (h1:Kd.C wG w A1 fs.length fs) (hl:fs.length≤1000000) (hw:FsW fs) :
  fC 8 #[.agg #[.int .u8 t,.int .u8 f,.int .u32 s,.slice A1 fs.length c1,.slice A2 n2 c2]] w (.string (w_ t s fs)):=by
 have FI:=ah (fun (c:Int) (W:World) (hb:Below w.heap.size w W)=>EG t f s fs A1 A2 c1 n2 c2 c W (Kd.bQ h1 hb) hl)
 obtain⟨n1,hn1⟩:∃n1,fs.length=n1:=⟨_,rfl⟩
 rw[hn1]at FI ⊢
 clear h1 hn1 hl
 have hix:∀W,(Instr.index 43 (.agg #[.string ⟨#[109,101,116,104,111,100,32,99,97,108,108]⟩,.string ⟨#[114,101,112,108,121]⟩,.string ⟨#[101,114,114,111,114]⟩,.string ⟨#[115,105,103,110,97,108]⟩]) (.int .u8 ((t:Int)-1))).run prog W=.ok (.string (Zm t)) W:=fun W=>by
  rcases (by omega:t=1∨t=2∨t=3∨t=4)with rfl|rfl|rfl|rfl<;>rfl
 have HB0:=ah ((jM w).alloc bW (.cells #[.int .u8 t,.int .u8 f,.int .u32 s,.slice A1 n1 c1,.slice A2 n2 c2] 26))
 have pI:=ah (aV w (.cells #[.int .u8 t,.int .u8 f,.int .u32 s,.slice A1 n1 c1,.slice A2 n2 c2] 26) _ rfl)
 have QD:=ah (fun k h=>Jz t s fs hs hw k h)
 have HW:=ah hw
 go_enter func8,ntmps8
 go_wp2
 have hix0:=hix
 generalize hW0:(w.alloc (.cells #[.int .u8 t,.int .u8 f,.int .u32 s,.slice A1 n1 c1,.slice A2 n2 c2] 26)).alloc (.cells #[.string ⟨#[32,102,114,111,109,32]⟩,.int .u8 7,.string ⟨#[32,116,111,32]⟩,.int .u8 6,.string ⟨#[32,115,101,114,105,97,108,32]⟩,.int .u8 0,.string ⟨#[32,114,101,112,108,121,95,115,101,114,105,97,108,32]⟩,.int .u8 5,.string ⟨#[32,117,110,105,120,102,100,115,32]⟩,.int .u8 9,.string ⟨#[32,112,97,116,104,32]⟩,.int .u8 1,.string ⟨#[32,105,110,116,101,114,102,97,99,101,32]⟩,.int .u8 2,.string ⟨#[32,101,114,114,111,114,32]⟩,.int .u8 4,.string ⟨#[32,109,101,109,98,101,114,32]⟩,.int .u8 3] 44)=W0
 have KC:=ah (by rw[←hW0];exact aV _ _ _ (by simp):W0.heap[w.heap.size+1]?=some (.cells wdC 44 (0,0)))
 have KB:=ah (by rw[←hW0];exact aQ pI.o _:W0.heap[w.heap.size]?=some (.cells #[.int .u8 t,.int .u8 f,.int .u32 s,.slice A1 n1 c1,.slice A2 n2 c2] 26 (0,0)))
 have qR:=ah (by rw[←hW0];exact HB0.o.alloc HB0.o.size _:Below w.heap.size w W0)
 clear hW0 HB0 pI hix hix0
 go_loopw [3,24] (fun v3 v24 wr=>∃(k:Nat),k≤9∧v24=.int .i64 (k:Nat)∧v3=.string (GR t s fs k)∧aj (Below W0.heap.size W0 wr)) (fun _ v24 _=>9-(intOf v24).toNat)
 case atStart=>exact⟨0,jf _,rfl,rfl,⟨jc⟩⟩
 case round =>
  obtain⟨k,hk,rfl,rfl,HB⟩:=hrel
  by_cases hlt:k<9
  ·have hd:decide ((k:Int)<9)=true:=by simp;omega
   have hk9:k+1≤10:=by omega
   have hkw:k<Uj.length:=hlt
   have HT:=ah (JA t s fs k hkw)
   have HPK:=ah (QD.o k hk)
   have hkc:=(HB.o.block _ (lt_of_block KC.o)).trans KC.o
   have q0:=au hkc (k*2) (Qg k hkw).1
   have q1:=au hkc (k*2+1) (Qg k hkw).2
   have hok:=aho k hkw
   generalize Uj[k]=p at *
   have KBP:=ah (aQ ((HB.o.block _ (lt_of_block KB.o)).trans KB.o) (.cells #[.string p.1,.int .u8 p.2] 44))
   have KWP:=ah (aV wr (.cells #[.string p.1,.int .u8 p.2] 44) _ rfl)
   have Eo:=ah ((qR.o.trans (HB.o.mono qR.o.size)).alloc (qR.o.trans (HB.o.mono qR.o.size)).size (.cells #[.string p.1,.int .u8 p.2] 44))
   have BO:=ah (HB.o.alloc HB.o.size (.cells #[.string p.1,.int .u8 p.2] 44))
   obtain⟨r0,r1,r2,r3,r4⟩:=jQ KBP.o
   generalize GR t s fs k=X at *
   have hp1:=hok.1
   clear hkc hok
   by_cases hc:p.2=0
   ·have g0:(p.2==0)=true:=by simp[hc]
    have HI:=ah (by rw[HT.o];simp[Md,hc]:GR t s fs (k+1)=X++(p.1++bs (Lib.decDigits s)))
    have FS:=ah (fun (W:World) (hb:Below w.heap.size w W)=>(FI.o p.2 W hb).mono (fun e w' h=>(by
     rcases h with ⟨h1|h1,h2⟩
     ·obtain⟨y,A0,c0,hy,he,-,-⟩:=h1
      exact⟨_,_,_,_,_,_,_,he,h2⟩
     ·exact⟨_,_,_,_,_,_,_,h1.2,h2⟩:∃f0 f1 f2 A0 m0 c0 b,e=.returned (.tuple #[.agg #[.int .u8 f0,.int .u64 f1,.string f2,.slice A0 m0 c0],.bool b])∧Below W.heap.size W w')))
    have hds:=zQ s (by omega)
    have DS:=ah (fun W=>(FU (s%18446744073709551616) (Nat.mod_lt _ (by decide)) W).mono (fun e w' h=>(⟨by rw[h.1,Nat.mod_eq_of_lt (show s<18446744073709551616 by omega)],h.2⟩:e=.returned (.string (bs (Lib.decDigits s)))∧Below W.heap.size W w')))
    have sA:=fun w=>oZ w p.1 (bs (Lib.decDigits s)) (by omega)
    have sB:=fun w=>oZ w X (p.1++bs (Lib.decDigits s)) (by rw[gK];have:=HPK.o;omega)
    clear HT hc hds
    go_wp2_with (go_at_call 13;refine(FS.o _ Eo.o).mono ?_;rintro e w2 ⟨f0,f1,f2,A0,m0,c0,b,rfl,hb2⟩;have HB3:=ah ((Eo.o.trans (hb2.mono Eo.o.size)).alloc (Eo.o.trans (hb2.mono Eo.o.size)).size (.cells #[.int .u8 f0,.int .u64 f1,.string f2,.slice A0 m0 c0] 32));have QH:=ah (aQ ((hb2.block _ (lt_of_block KWP.o)).trans KWP.o) (.cells #[.int .u8 f0,.int .u64 f1,.string f2,.slice A0 m0 c0] 32));have Hz:=ah (aQ ((hb2.block _ (lt_of_block KBP.o)).trans KBP.o) (.cells #[.int .u8 f0,.int .u64 f1,.string f2,.slice A0 m0 c0] 32));have ZX:=ah (aV w2 (.cells #[.int .u8 f0,.int .u64 f1,.string f2,.slice A0 m0 c0] 32) _ rfl);have ⟨b0,b1,b2,b3,b4⟩:=jQ Hz.o;have d0:=au QH.o 0 (v:=.string p.1) rfl;have d1:=au QH.o 1 (v:=.int .u8 p.2) rfl;have ⟨x0,x1,x2,x3⟩:=dR ZX.o;have HQ3:=ah ((BO.o.trans (hb2.mono BO.o.size)).alloc (BO.o.trans (hb2.mono BO.o.size)).size (.cells #[.int .u8 f0,.int .u64 f1,.string f2,.slice A0 m0 c0] 32));clear hb2)
    refine H_ ((fun w'=>w'.cell? ⟨wr.heap.size,0,none⟩=some (.string p.1)∧w'.cell? ⟨w.heap.size,2,none⟩=some (.int .u32 s))) fun hHeld=>?_
    refine dL 0 ?_
    refine dL 1 ?_
    refine dL 2 ?_
    refine dL 3 ?_
    refine dL 4 ?_
    refine dL 5 ?_
    refine rn 6 fun K hK=>?_
    go_simp
    refine(DS.o _).mono ?_;rintro e w5 ⟨rfl,hb5⟩;have zq:=ah (HB3.o.drew.trans (hb5.mono HB3.o.size));have HW5:=ah (HQ3.o.drew.trans (hb5.mono HQ3.o.size));have d0:=au ((hb5.block _ (lt_of_block QH.o)).trans QH.o) 0 (v:=.string p.1) rfl;have ⟨b0,b1,b2,b3,b4⟩:=jQ ((hb5.block _ (lt_of_block Hz.o)).trans Hz.o);have ⟨x0,x1,x2,x3⟩:=dR ((hb5.block _ (lt_of_block ZX.o)).trans ZX.o);clear hb5
    (try go_wp2_with fail)
    refine ji hK ?_;clear hK K hHeld;intro hHeld
    refine dL 7 ?_
    refine dL 8 ?_
    refine rn 9 fun K hK=>?_
    go_simp
    refine ji hK ?_;clear hK K hHeld;intro hHeld
    refine lX ?_
    go_wp2
    go_roundw
    case rel=>exact⟨k+1,by omega,by go_num,by rw[HI.o],⟨HW5.o⟩⟩
    case measure=>simp[intOf];omega
   ·have g0:(p.2==0)=false:=by simp[hc]
    cases hx:findF p.2 fs with
    |none =>
     have HI:=ah (by rw[HT.o];simp only[Md,if_neg hc,hx];exact jG X:GR t s fs (k+1)=X)
     have FS:=ah (fun (W:World) (hb:Below w.heap.size w W)=>(FI.o p.2 W hb).mono (fun e w' h=>(by
      rcases h with ⟨h1|h1,h2⟩
      ·obtain⟨y,A0,c0,hy,-⟩:=h1
       rw[hx]at hy
       cases hy
      ·exact⟨h1.2,h2⟩:e=.returned (.tuple #[.agg #[.int .u8 0,.int .u64 0,.string ⟨#[]⟩,.slice none 0 0],.bool false])∧Below W.heap.size W w')))
     clear HT hc hx
     go_wp2_with (go_at_call 13;refine(FS.o _ Eo.o).mono ?_;rintro e w2 ⟨rfl,hb2⟩;have HB3:=ah ((Eo.o.trans (hb2.mono Eo.o.size)).alloc (Eo.o.trans (hb2.mono Eo.o.size)).size (.cells #[.int .u8 0,.int .u64 0,.string ⟨#[]⟩,.slice none 0 0] 32));have QH:=ah (aQ ((hb2.block _ (lt_of_block KWP.o)).trans KWP.o) (.cells #[.int .u8 0,.int .u64 0,.string ⟨#[]⟩,.slice none 0 0] 32));have Hz:=ah (aQ ((hb2.block _ (lt_of_block KBP.o)).trans KBP.o) (.cells #[.int .u8 0,.int .u64 0,.string ⟨#[]⟩,.slice none 0 0] 32));have ZX:=ah (aV w2 (.cells #[.int .u8 0,.int .u64 0,.string ⟨#[]⟩,.slice none 0 0] 32) _ rfl);have ⟨b0,b1,b2,b3,b4⟩:=jQ Hz.o;have d0:=au QH.o 0 (v:=.string p.1) rfl;have d1:=au QH.o 1 (v:=.int .u8 p.2) rfl;have ⟨x0,x1,x2,x3⟩:=dR ZX.o;have HQ3:=ah ((BO.o.trans (hb2.mono BO.o.size)).alloc (BO.o.trans (hb2.mono BO.o.size)).size (.cells #[.int .u8 0,.int .u64 0,.string ⟨#[]⟩,.slice none 0 0] 32));clear hb2)
     go_roundw
     case rel=>exact⟨k+1,by omega,by go_num,by rw[HI.o],⟨HQ3.o⟩⟩
     case measure=>simp[intOf];omega
    |some x =>
     obtain⟨y,hy,-,hyx⟩:=xH _ _ _ hx
     have hyw:=hw y hy
     rw[hyx]at hyw
     obtain⟨N,hN⟩:∃N:Nat,x.f1=(N:Int):=⟨x.f1.toNat,by omega⟩
     have alW:N<18446744073709551616:=by omega
     have FS:=ah (fun (W:World) (hb:Below w.heap.size w W)=>(FI.o p.2 W hb).mono (fun e w' h=>(by
      rcases h with ⟨h1|h1,h2⟩
      ·obtain⟨y,A0,c0,hy,he,-,-⟩:=h1
       rw[hx]at hy
       cases hy
       rw[hN]at he
       exact⟨A0,c0,he,h2⟩
      ·rw[hx]at h1;cases h1.1:∃A0 c0,e=.returned (.tuple #[.agg #[.int .u8 x.f0,.int .u64 (N:Nat),.string x.f2,.slice A0 x.f3.length c0],.bool true])∧Below W.heap.size W w')))
     by_cases Ym:x.f0=117
     ·have g1:(x.f0==117)=true:=by simp[Ym]
      have HI:=ah (by rw[HT.o];simp only[Md,if_neg hc,hx,if_pos Ym,hN,Int.toNat_natCast]:GR t s fs (k+1)=X++(p.1++bs (Lib.decDigits N)))
      have hds:=zQ N alW
      have sA:=fun w=>oZ w p.1 (bs (Lib.decDigits N)) (by omega)
      have sB:=fun w=>oZ w X (p.1++bs (Lib.decDigits N)) (by rw[gK];have:=HPK.o;omega)
      clear HT hc hds hx hy hyx hyw hN Ym
      go_wp2_with (go_at_call 13;refine(FS.o _ Eo.o).mono ?_;rintro e w2 ⟨A0,c0,rfl,hb2⟩;have HB3:=ah ((Eo.o.trans (hb2.mono Eo.o.size)).alloc (Eo.o.trans (hb2.mono Eo.o.size)).size (.cells #[.int .u8 x.f0,.int .u64 (N:Nat),.string x.f2,.slice A0 x.f3.length c0] 32));have QH:=ah (aQ ((hb2.block _ (lt_of_block KWP.o)).trans KWP.o) (.cells #[.int .u8 x.f0,.int .u64 (N:Nat),.string x.f2,.slice A0 x.f3.length c0] 32));have Hz:=ah (aQ ((hb2.block _ (lt_of_block KBP.o)).trans KBP.o) (.cells #[.int .u8 x.f0,.int .u64 (N:Nat),.string x.f2,.slice A0 x.f3.length c0] 32));have ZX:=ah (aV w2 (.cells #[.int .u8 x.f0,.int .u64 (N:Nat),.string x.f2,.slice A0 x.f3.length c0] 32) _ rfl);have ⟨b0,b1,b2,b3,b4⟩:=jQ Hz.o;have d0:=au QH.o 0 (v:=.string p.1) rfl;have d1:=au QH.o 1 (v:=.int .u8 p.2) rfl;have ⟨x0,x1,x2,x3⟩:=dR ZX.o;have HQ3:=ah ((BO.o.trans (hb2.mono BO.o.size)).alloc (BO.o.trans (hb2.mono BO.o.size)).size (.cells #[.int .u8 x.f0,.int .u64 (N:Nat),.string x.f2,.slice A0 x.f3.length c0] 32));clear hb2)
      refine H_ ((fun w'=>w'.cell? ⟨wr.heap.size,0,none⟩=some (.string p.1)∧w'.cell? ⟨w2.heap.size,1,none⟩=some (.int .u64 (N:Nat)))) fun hHeld=>?_
      refine dL 0 ?_
      refine dL 1 ?_
      refine dL 2 ?_
      refine dL 3 ?_
      refine dL 4 ?_
      refine rn 5 fun K hK=>?_
      go_simp
      refine(FU N alW _).mono ?_;rintro e w5 ⟨rfl,hb5⟩;have zq:=ah (HB3.o.drew.trans (hb5.mono HB3.o.size));have HW5:=ah (HQ3.o.drew.trans (hb5.mono HQ3.o.size));have d0:=au ((hb5.block _ (lt_of_block QH.o)).trans QH.o) 0 (v:=.string p.1) rfl;have ⟨b0,b1,b2,b3,b4⟩:=jQ ((hb5.block _ (lt_of_block Hz.o)).trans Hz.o);have ⟨x0,x1,x2,x3⟩:=dR ((hb5.block _ (lt_of_block ZX.o)).trans ZX.o);clear hb5
      (try go_wp2_with fail)
      refine ji hK ?_;clear hK K hHeld;intro hHeld
      refine dL 6 ?_
      refine dL 7 ?_
      refine rn 8 fun K hK=>?_
      go_simp
      refine ji hK ?_;clear hK K hHeld;intro hHeld
      refine lX ?_
      go_wp2
      go_roundw
      case rel=>exact⟨k+1,by omega,by go_num,by rw[HI.o],⟨HW5.o⟩⟩
      case measure=>simp[intOf];omega
     ·have g1:(x.f0==117)=false:=by simp[Ym]
      have HI:=ah (by rw[HT.o];simp only[Md,if_neg hc,hx,if_neg Ym]:GR t s fs (k+1)=X++(p.1++x.f2))
      have sA:=fun w=>oZ w p.1 x.f2 (by omega)
      have sB:=fun w=>oZ w X (p.1++x.f2) (by rw[gK];have:=HPK.o;omega)
      clear HT hc hx hy hyx hyw hN Ym
      go_wp2_with (go_at_call 13;refine(FS.o _ Eo.o).mono ?_;rintro e w2 ⟨A0,c0,rfl,hb2⟩;have HB3:=ah ((Eo.o.trans (hb2.mono Eo.o.size)).alloc (Eo.o.trans (hb2.mono Eo.o.size)).size (.cells #[.int .u8 x.f0,.int .u64 (N:Nat),.string x.f2,.slice A0 x.f3.length c0] 32));have QH:=ah (aQ ((hb2.block _ (lt_of_block KWP.o)).trans KWP.o) (.cells #[.int .u8 x.f0,.int .u64 (N:Nat),.string x.f2,.slice A0 x.f3.length c0] 32));have Hz:=ah (aQ ((hb2.block _ (lt_of_block KBP.o)).trans KBP.o) (.cells #[.int .u8 x.f0,.int .u64 (N:Nat),.string x.f2,.slice A0 x.f3.length c0] 32));have ZX:=ah (aV w2 (.cells #[.int .u8 x.f0,.int .u64 (N:Nat),.string x.f2,.slice A0 x.f3.length c0] 32) _ rfl);have ⟨b0,b1,b2,b3,b4⟩:=jQ Hz.o;have d0:=au QH.o 0 (v:=.string p.1) rfl;have d1:=au QH.o 1 (v:=.int .u8 p.2) rfl;have ⟨x0,x1,x2,x3⟩:=dR ZX.o;have HQ3:=ah ((BO.o.trans (hb2.mono BO.o.size)).alloc (BO.o.trans (hb2.mono BO.o.size)).size (.cells #[.int .u8 x.f0,.int .u64 (N:Nat),.string x.f2,.slice A0 x.f3.length c0] 32));clear hb2)
      go_roundw
      case rel=>exact⟨k+1,by omega,by go_num,by rw[HI.o],⟨HQ3.o⟩⟩
      case measure=>simp[intOf];omega
  ·have hd:decide ((k:Int)<9)=false:=by simp;omega
   have hk9:k=9:=by omega
   subst hk9
   go_wp2
   go_ret
   exact⟨rfl,qR.o.trans (HB.o.mono qR.o.size)⟩
end Go.Proofs.YtllcccekodcdmaaGreatDoor.Ms
