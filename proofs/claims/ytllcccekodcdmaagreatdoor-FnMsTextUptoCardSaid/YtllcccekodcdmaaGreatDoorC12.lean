import Derived.Lib.SmallJoins
import Derived.Test.YtllcccekodcdmaaGreatDoorC07
import Derived.Test.YtllcccekodcdmaaGreatDoorC08
set_option linter.unusedVariables false
set_option linter.unusedSimpArgs false
set_option maxRecDepth 100000
set_option maxHeartbeats 32000000
open Go.Proofs.Tryz
namespace Go.Proofs.YtllcccekodcdmaaGreatDoor.Ms
open Go Go.RowKit Go.Proofs.ak.aT Go.Proofs.ak.cO Go.Proofs.YtllcccekodcdmaaGreatDoor.bK
theorem nX.set {w:World} {ok:Nat→Prop} {b:A} {u:Value} (hu:HA w ok b u):∀{l:List A} {vs:List Value} (i:Nat),nX w ok l vs→nX w ok (l.set i b) (vs.set i u)
 |[],vs,i,h=>by cases (show vs=[]from h);exact rfl
 |a::l,vs,0,h=>by
  obtain⟨v,vs',rfl,ha,hl⟩:=h
  exact⟨u,vs',rfl,hu,hl⟩
 |a::l,vs,i+1,h=>by
  obtain⟨v,vs',rfl,ha,hl⟩:=h
  exact⟨v,vs'.set i u,rfl,ha,nX.set hu i hl⟩
theorem Mk.put {iR:Nat→Prop} {w:World} {l:List A} {g n c:Nat} {b:A} {u:Value} (h:Mk iR w l (.slice (some ⟨g,0,none⟩) n c)) (i:Nat) (hu:HA w (fun k=>iR k∧k≠g) b u):Mk iR (w.setCell ⟨g,i,none⟩ u) (l.set i b) (.slice (some ⟨g,0,none⟩) n c):=by
 obtain⟨vs,⟨h1,hlen,hr⟩,hl⟩:=h
 rcases hr with ⟨hv,_⟩|⟨g',cap,cur,hv,h0,hg,hle,hcm,hcs,htk⟩
 ·cases hv
 ·cases hv
  have Yp:∀k,k≠g→(w.setCell ⟨g,i,none⟩ u).heap[k]?=w.heap[k]?:=fun k hk=>fQ _ _ _ _ hk
  refine⟨vs.set i u,⟨h1,by simp,.inr ⟨g,c,cur.setIfInBounds i u,by rw[List.length_set],h0,Joins.block_setCell hg _,by rw[List.length_set];exact hle,hcm,by simp[hcs],?_⟩⟩,?_⟩
  ·rw[Array.toList_setIfInBounds,List.take_set,List.length_set,htk]
  ·exact nX.set ((hu.mono (fun k hk=>⟨hk.1,fun e=>hk.2 (dU e)⟩)).step (fun k hk _=>Yp k (fun e=>hk.2 (e▸rfl)))) i (hl.step (fun k hk _=>Yp k (fun e=>hk.2 (e▸rfl))))
theorem Mk.kE {iR:Nat→Prop} {w:World} {l:List A} {A:Option Addr} {n c:Nat} (h:Mk iR w l (.slice A n c)) (i:Nat) (hi:i<l.length):∃g cur v,A=some ⟨g,0,none⟩∧w.heap[g]?=some (.cells cur 20 (0,0))∧cur[i]?=some v:=by
 obtain⟨vs,⟨h1,hlen,hr⟩,hl⟩:=h
 have hll:=hl.len
 rcases hr with ⟨hv,h0⟩|⟨g',cap,cur,hv,h0,hg,hle,hcm,hcs,htk⟩
 ·omega
 ·cases hv
  have hs:i<cur.size:=by omega
  exact⟨g',cur,cur[i],rfl,hg,Array.getElem?_eq_getElem hs⟩
theorem TV {D g g2 k n1 n2 c1 c2 i:Nat} {ks es:List A} {e:A} {K E:bG} {u:Value} {w wr:World} (hD:w.heap[D]?=some (.cells #[.string K,.string E,.slice (some ⟨g,0,none⟩) n1 c1,.slice (some ⟨g2,0,none⟩) n2 c2] 132 (0,0)))
  (h1:Mk (fun k=>D+1≤k∧some k≠(Value.slice (some ⟨g2,0,none⟩) n2 c2).ownBlock) w ks (.slice (some ⟨g,0,none⟩) n1 c1)) (h2:Mk (fun k=>D+1≤k∧some k≠(Value.slice (some ⟨g,0,none⟩) n1 c1).ownBlock) w es (.slice (some ⟨g2,0,none⟩) n2 c2))
  (hu:HA w (fun k=>D+1≤k∧some k≠(Value.slice (some ⟨g,0,none⟩) n1 c1).ownBlock∧some k≠(Value.slice (some ⟨g2,0,none⟩) n2 c2).ownBlock) e u) (hW:∀q,q<w.heap.size→wr.heap[q]?=w.heap[q]?) (hi:i=k)
  (hb:∀w0 B,B≤D→Below B w0 w→Below B w0 wr) (hg:D+1≤g2) (hDl:D<w.heap.size):Ending.returned (.tuple #[])=Ending.returned (.tuple #[])∧∃s1' s2',Dk D (wr.setCell ⟨g2,k,none⟩ u).drew.drew ks (es.set i e) K E s1' s2'∧(∀w0 B,B≤D→Below B w0 w→Below B w0 (wr.setCell ⟨g2,k,none⟩ u).drew.drew) ∧
    ∀k',k'<w.heap.size→k'≠D→some k'≠(Value.slice (some ⟨g,0,none⟩) n1 c1).ownBlock→some k'≠(Value.slice (some ⟨g2,0,none⟩) n2 c2).ownBlock→(wr.setCell ⟨g2,k,none⟩ u).drew.drew.heap[k']?=w.heap[k']?:=by
 subst hi
 have Yp:∀q,q<w.heap.size→q≠g2→(wr.setCell ⟨g2,i,none⟩ u).heap[q]?=w.heap[q]?:=fun q hq hn=>(fQ _ _ _ _ hn).trans (hW q hq)
 exact⟨rfl,_,_,⟨(Yp D hDl (by omega)).trans hD,(h1.step (fun q hq hlt=>Yp q hlt (fun e=>hq.2 (by rw[e];rfl)))).drew.drew,
  ((h2.step (fun q _ hlt=>hW q hlt)).put i ((hu.mono (fun q hq=>⟨⟨hq.1,hq.2.1⟩,fun e=>hq.2.2 (by rw[e];rfl)⟩)).step (fun q _ hlt=>hW q hlt))).drew.drew⟩,
  fun w0 B hB h0=>((hb w0 B hB h0).setCell (p:=⟨g2,i,none⟩) (by dsimp only;omega) _).drew.drew,fun q hq hne a1 a2=>Yp q hq (fun e=>a2 (by rw[e];rfl))⟩
theorem ajI (xs:List Sc) (x:Sc) (es:List A) (e:A) (hx:x.isKey) (hxs:∀y∈xs,y.code=x.code) (hnd:xs.Nodup) (hm:x∈xs) (hlen:xs.length=es.length) (hl:xs.length≤999999) (D:Nat) (K E:bG) (s1 s2:Value) (t2:TypeId) (u2:Value) (sa sb sc:bG) (w:World)
  (hD:Dk D w (xs.map A.sc) es K E s1 s2) (hu:HA w (fun k=>D+1≤k∧some k≠s1.ownBlock∧some k≠s2.ownBlock) e (.iface t2 u2)) :
  Calls prog 51 #[.agg #[.iface 129 (.pointer (some ⟨D,0,none⟩)),.string sa],.agg #[x.val,.string sb],.agg #[.iface t2 u2,.string sc]] w fun en w'=>en=.returned (.tuple #[]) ∧
   ∃s1' s2',Dk D w' (xs.map A.sc) (es.set (xs.idxOf x) e) K E s1' s2'∧(∀w0 B,B≤D→Below B w0 w→Below B w0 w') ∧
    ∀k,k<w.heap.size→k≠D→some k≠s1.ownBlock→some k≠s2.ownBlock→w'.heap[k]?=w.heap[k]?:=by
 obtain⟨hd,hk1,hk2⟩:=hD
 obtain⟨A1,c1,rfl,hc1⟩:=hk1.len
 obtain⟨A2,c2,rfl,hc2⟩:=hk2.len
 obtain⟨tk,uk,hxv⟩:=qQ x
 have Qn:=ah (fun (y:Sc) (hy:y∈xs) (hne:y≠x) (w:World)=>hxv▸Xe y x (by
  have h1:=hxs y hy
  cases y<;>cases x<;>simp[Sc.code,Sc.isKey]at h1 hx ⊢) (hxs y hy) hne w)
 have HEQ:=ah (fun w=>(by have h:=MX x hx w;rwa [hxv]at h:(binOp .eql 20 (.iface tk uk) (.iface tk uk)).run prog w=.ok (.bool true) w))
 have HIX:=ah (fun k (h:k<xs.length) (e:xs[k]=x)=>(by
  have h1:=List.idxOf_lt_length_iff.2 hm
  have h2:=List.getElem_idxOf h1
  exact((List.getElem_inj hnd).1 (h2.trans e.symm)):xs.idxOf x=k))
 have ZT:=ah hm
 rw[hxv]
 have HXV:=aj.mk hxv
 have HD:=aj.mk hd
 have pX:=aj.mk hk1
 have uT:=aj.mk hk2
 have HU:=aj.mk hu
 have hDl:=lt_of_block hd
 have aqh:D<w.heap.size+1:=by omega
 have aqi:D<w.heap.size+1+1:=by omega
 have d2:=au hd 2 (v:=.slice A1 (xs.map A.sc).length c1) rfl
 have d3:=au hd 3 (v:=.slice A2 es.length c2) rfl
 have HLN:=aj.mk hlen
 rw[List.length_map]at *
 go_enter func51,ntmps51
 go_wp2
 generalize hW0:((w.alloc (.cells #[.iface 129 (.pointer (some ⟨D,0,none⟩)),.string sa] 94)).alloc (.cells #[.iface tk uk,.string sb] 94)).alloc (.cells #[.iface t2 u2,.string sc] 94)=W0
 have b1:W0.cell? ⟨w.heap.size+1,0,none⟩=some (.iface tk uk):=by subst hW0;exact au (aQ (aV _ _ _ (by simp)) _) 0 rfl
 have b2:W0.cell? ⟨w.heap.size+1+1,0,none⟩=some (.iface t2 u2):=by subst hW0;exact au (aV _ _ _ (by simp)) 0 rfl
 have qR:=aj.mk (show Below w.heap.size w W0 from hW0▸(((jM w).alloc bW _).alloc (by simp) _).alloc (by simp;omega) _)
 have hz0:W0.heap.size=w.heap.size+3:=by subst hW0;simp
 have HZ0:=aj.mk hz0
 have HB:=aj.mk (jM W0)
 go_loopw [16] (fun v16 wr=>∃k:Nat,k≤xs.length∧v16=.int .i64 (k:Nat)∧aj (Below W0.heap.size W0 wr∧∀i (h:i<xs.length),i<k→xs[i]≠x)) (fun v16 _=>xs.length-(intOf v16).toNat)
 case atStart=>exact⟨0,jf _,rfl,⟨HB.o,fun i h hi=>absurd hi (Nat.not_lt_zero _)⟩⟩
 case round =>
  obtain⟨k,hk,rfl,HB0⟩:=hrel
  have HB:=aj.mk HB0.o.1
  have HNO:=aj.mk HB0.o.2
  have e2:=(HB.o.cell (p:=⟨D,2,none⟩) (by have:=HZ0.o;dsimp only;omega)).trans ((qR.o.cell (p:=⟨D,2,none⟩) hDl).trans d2)
  have e3:=(HB.o.cell (p:=⟨D,3,none⟩) (by have:=HZ0.o;dsimp only;omega)).trans ((qR.o.cell (p:=⟨D,3,none⟩) hDl).trans d3)
  have e4:=(HB.o.cell (p:=⟨w.heap.size+1,0,none⟩) (by have:=HZ0.o;dsimp only;omega)).trans b1
  have e5:=(HB.o.cell (p:=⟨w.heap.size+1+1,0,none⟩) (by have:=HZ0.o;dsimp only;omega)).trans b2
  by_cases hlt:k<xs.length
  ·have hd:decide ((k:Int)<(xs.length:Int))=true:=by simp;omega
   obtain⟨g,v,hA,hcv,hav⟩:=pX.o.at k (by simpa using hlt)
   subst hA
   have hv:v=(xs[k]).val:=by simpa[HA]using hav
   obtain⟨ti,ui,hiv⟩:=qQ xs[k]
   rw[hv,hiv]at hcv
   have e6:=(HB.o.cell (p:=⟨g,k,none⟩) (by have:=HZ0.o;have:=fA w _ hcv;simp at this ⊢;omega)).trans ((qR.o.cell (p:=⟨g,k,none⟩) (fA w _ hcv)).trans hcv)
   have hkn:k<xs.length:=hlt
   have hk9:k+1≤1000000:=by omega
   by_cases he:xs[k]=x
   ·have HII:=aj.mk (HIX.o k hlt he)
    obtain⟨rfl,rfl⟩:tk=ti∧uk=ui:=by rw[he,HXV.o]at hiv;cases hiv;exact⟨rfl,rfl⟩
    have hne:=HEQ.o
    have hke:k<es.length:=by have:=HLN.o;omega
    obtain⟨g2,cur,u,hA2,hg2,hcu⟩:=uT.o.kE k hke
    subst hA2
    have HW:=aj.mk (fun k hk=>(HB.o.block k (by have:=HZ0.o;omega)).trans (qR.o.block k hk):∀k,k<w.heap.size→wr.heap[k]?=w.heap[k]?)
    have hgr:=(HW.o g2 (lt_of_block hg2)).trans hg2
    have e7:=au hgr k hcu
    have e8:=aI hgr k
    have HG2:=aj.mk (uT.o.lt g2 rfl)
    have JZ:=aj.mk hke
    go_wp2
    refine H_ ((fun w'=>w'.cell? ⟨D,2,none⟩=some (.slice (some ⟨g,0,none⟩) xs.length c1)∧w'.cell? ⟨g,k,none⟩=some (.iface tk uk)∧w'.cell? ⟨w.heap.size+1,0,none⟩=some (.iface tk uk))) fun hHeld=>?_
    refine dL 0 ?_
    refine dL 1 ?_
    refine dL 2 ?_
    refine dL 3 ?_
    refine dL 4 ?_
    refine dL 5 ?_
    refine dL 6 ?_
    refine dL 7 ?_
    refine dL 8 ?_
    refine dL 9 ?_
    refine lX ?_
    go_wp2
    refine lgo [8] ((fun w'=>w'.cell? ⟨D,3,none⟩=some (.slice (some ⟨g2,0,none⟩) es.length c2)∧w'.cell? ⟨w.heap.size+1+1,0,none⟩=some (.iface t2 u2))) fun hHeld=>?_
    refine jS 0 ?_
    refine jS 1 ?_
    refine jS 2 ?_
    refine jS 3 ?_
    refine jS 4 ?_
    refine jS 5 ?_
    refine jS 6 ?_
    refine jS 7 ?_
    refine PG 8 fun K hK=>?_
    go_simp
    refine Qe hK ?_
    refine uJ ?_
    go_wp2;refine iW (v:=.tuple #[]) (by simp[results,results51,go_sem]) rfl (TV HD.o pX.o uT.o HU.o HW.o HII.o (fun w0 B hB hb=>(hb.trans (qR.o.mono (by omega))).trans (HB.o.mono (by have:=HZ0.o;omega))) HG2.o.1.1 hDl)
   ·have hne:∀w,(binOp .eql 20 (.iface ti ui) (.iface tk uk)).run prog w=.ok (.bool false) w:=fun w=>hiv▸Qn.o xs[k] (nZ hlt) he w
    have HN2:=aj.mk (fun i h hi=>(by
     by_cases e:i=k
     ·subst e;exact he
     ·exact HNO.o i h (by omega)):∀i (h:i<xs.length),i<k+1→xs[i]≠x)
    go_wp2
    refine H_ ((fun w'=>w'.cell? ⟨D,2,none⟩=some (.slice (some ⟨g,0,none⟩) xs.length c1)∧w'.cell? ⟨g,k,none⟩=some (.iface ti ui)∧w'.cell? ⟨w.heap.size+1,0,none⟩=some (.iface tk uk))) fun hHeld=>?_
    refine dL 0 ?_
    refine dL 1 ?_
    refine dL 2 ?_
    refine dL 3 ?_
    refine dL 4 ?_
    refine dL 5 ?_
    refine dL 6 ?_
    refine dL 7 ?_
    refine dL 8 ?_
    refine dL 9 ?_
    refine lX ?_
    go_wp2
    go_roundw
    case rel=>exact⟨k+1,hkn,by go_num,⟨HB.o.drew,HN2.o⟩⟩
    case measure=>simp[intOf];omega
  ·exfalso
   obtain⟨i,hi,he⟩:=List.getElem_of_mem ZT.o
   exact HNO.o i hi (by omega) he
theorem ajH (xs:List Sc) (x:Sc) (es:List A) (e:A) (hx:x.isKey) (hxs:∀y∈xs,y.code=x.code) (hnd:xs.Nodup) (hlen:xs.length=es.length) (hl:xs.length≤999999) (D:Nat) (K E:bG) (s1 s2:Value) (t2:TypeId) (u2:Value) (sa sb sc:bG) (w:World)
  (hD:Dk D w (xs.map A.sc) es K E s1 s2) (hu:HA w (fun k=>D+1≤k∧some k≠s1.ownBlock∧some k≠s2.ownBlock) e (.iface t2 u2)) :
  Calls prog 51 #[.agg #[.iface 129 (.pointer (some ⟨D,0,none⟩)),.string sa],.agg #[x.val,.string sb],.agg #[.iface t2 u2,.string sc]] w fun en w'=>en=.returned (.tuple #[]) ∧
   ∃s1' s2',Dk D w' ((Ij (xs,es) (x,e)).1.map A.sc) (Ij (xs,es) (x,e)).2 K E s1' s2'∧(∀w0 B,B≤D→Below B w0 w→Below B w0 w') ∧
    ∀k,k<w.heap.size→k≠D→some k≠s1.ownBlock→some k≠s2.ownBlock→w'.heap[k]?=w.heap[k]?:=by
 by_cases hm:x∈xs
 ·rw[show Ij (xs,es) (x,e)=(xs,es.set (xs.idxOf x) e)from if_pos hm]
  exact ajI xs x es e hx hxs hnd hm hlen hl D K E s1 s2 t2 u2 sa sb sc w hD hu
 ·rw[show Ij (xs,es) (x,e)=(xs++[x],es++[e])from if_neg hm]
  exact setIndex xs x es e hx (fun y hy=>⟨hxs y hy,fun e=>hm (e▸hy)⟩) hlen hl D K E s1 s2 t2 u2 sa sb sc w hD hu
def uS (y:l9) (a:A):Prop:=∀(A3:Option Addr) (c3:Nat) (w':World),Kd.C ug w' A3 y.f3.length y.f3→y.f3.length≤c3→Calls prog 31 #[.agg #[.int .u8 y.f0,.int .u64 y.f1,.string y.f2,.slice A3 y.f3.length c3]] w' (DK a w')
theorem Dk.step {D:Nat} {w W:World} {ks es:List A} {K E:bG} {s1 s2:Value} (h:Dk D w ks es K E s1 s2) (hm:∀k,k<w.heap.size→W.heap[k]?=w.heap[k]?):Dk D W ks es K E s1 s2 :=
 ⟨(hm D (lt_of_block h.1)).trans h.1,h.2.1.step (fun k _ hk=>hm k hk),h.2.2.step (fun k _ hk=>hm k hk)⟩
theorem bU {W w1:World} (hb:Below W.heap.size W w1) {a:Addr} {v:Value} (h:W.cell? a=some v):w1.cell? a=some v:=(hb.cell (fA W _ h)).trans h
theorem Qa {w wr w1:World} {X:Obj} (hb:Below (wr.alloc X).drew.heap.size (wr.alloc X).drew w1) (HB:Below w.heap.size w wr):(∀k,k<wr.heap.size→w1.heap[k]?=wr.heap[k]?)∧Below w.heap.size w w1∧wr.heap.size≤w1.heap.size:=by
 have hs:=hb.size
 have hB:wr.heap.size+1≤w1.heap.size:=by simpa using hs
 exact⟨fun k hk=>(hb.block k (by simp;omega)).trans (kN _ _ _ hk),(HB.alloc HB.size _).drew.trans (hb.mono (by have:=HB.size;simp;omega)),by omega⟩
theorem zl {w wr w1 w2:World} (hb:Below w1.heap.size w1 w2) (h1:∀k,k<wr.heap.size→w1.heap[k]?=wr.heap[k]?) (HB:Below w.heap.size w w1) (hle:wr.heap.size≤w1.heap.size):(∀k,k<wr.heap.size→w2.heap[k]?=wr.heap[k]?)∧Below w.heap.size w w2∧wr.heap.size≤w2.heap.size :=
 ⟨fun k hk=>(hb.block k (by omega)).trans (h1 k hk),HB.trans (hb.mono HB.size),Nat.le_trans hle hb.size⟩
theorem ahM {w W:World} {A:Option Addr} {xs:List l9} {y0 y1:l9} (h:Kd.C ug w A xs.length xs) (hb:Below w.heap.size w W) (h0:xs[0]?=some y0) (h1:xs[1]?=some y1):∃ad A0 c0 A1 c1,A=some ad∧1<xs.length ∧
  (W.cell? ad=some (.int .u8 y0.f0)∧W.cell? ⟨ad.block,ad.off+1,none⟩=some (.int .u64 y0.f1)∧W.cell? ⟨ad.block,ad.off+2,none⟩=some (.string y0.f2)∧W.cell? ⟨ad.block,ad.off+3,none⟩=some (.slice A0 y0.f3.length c0)∧y0.f3.length≤c0∧ug.C w A0 y0.f3.length y0.f3) ∧
  (W.cell? ⟨ad.block,ad.off+4,none⟩=some (.int .u8 y1.f0)∧W.cell? ⟨ad.block,ad.off+4+1,none⟩=some (.int .u64 y1.f1)∧W.cell? ⟨ad.block,ad.off+4+2,none⟩=some (.string y1.f2)∧W.cell? ⟨ad.block,ad.off+4+3,none⟩=some (.slice A1 y1.f3.length c1)∧y1.f3.length≤c1∧ug.C w A1 y1.f3.length y1.f3):=by
 obtain⟨l0,e0⟩:=List.getElem?_eq_some_iff.1 h0
 obtain⟨l1,e1⟩:=List.getElem?_eq_some_iff.1 h1
 obtain⟨ad,A0,c0,hA,p⟩:=yS h hb 0 l0
 obtain⟨ad',A1,c1,hA',q⟩:=yS h hb 1 l1
 rw[hA]at hA'
 cases hA'
 rw[Nat.zero_mul,Addr.add_zero',e0]at p
 rw[Nat.one_mul,e1,show ad.add 4=⟨ad.block,ad.off+4,none⟩ by simp[Addr.add]]at q
 exact⟨ad,A0,c0,A1,c1,hA,l1,p,q⟩
theorem X7 (k:UInt8) (t:T) (hw:(T.dict k t).wf) (hf:(T.dict k t).fits 0 0 0) (hs:(T.dict k t).sig.length≤1000000) (xs:List Sc) (es:List A) (vs:List l9)
  (hxs:∀x∈xs,x.isKey∧x.code=k) (hlen:vs.length=xs.length) (hlen2:vs.length=es.length) (hl:vs.length≤1000000) (hty:∀(i:Nat) (h:i<es.length),(es[i]).dN.ty.length≤1000000) (f1:Int) (A0:Option Addr) (c:Nat) (w:World) (hc:Kd.C ug w A0 vs.length vs) (hcc:vs.length≤c)
  (ih:∀(i:Nat) (h:i<vs.length) (h1:i<xs.length) (h2:i<es.length),∃y0 y1,(vs[i]).f3[0]?=some y0∧(vs[i]).f3[1]?=some y1∧uS y0 (.sc xs[i])∧uS y1 es[i]) :
  Calls prog 31 #[.agg #[.int .u8 97,.int .u64 f1,.string (bs (123::k::(t.sig++[125]))),.slice A0 vs.length c]] w (DK (.dict k t ((dfold (xs.zip es)).1.map A.sc) (dfold (xs.zip es)).2) w):=by
 have h1:(bs (123::k::(t.sig++[125]))).toList.isEmpty=false:=by rw[jl];rfl
 have h1b:((bs (123::k::(t.sig++[125]))).toList==[])=false:=by rw[bH];rfl
 have h0:0<(bs (123::k::(t.sig++[125]))).size:=by rw[aH];simp
 have h3:(((((bs (123::k::(t.sig++[125])))[(0:Nat)]'h0).toNat:Nat):Int)==123)=true:=by rw[byte_at _ 0 123 h0 rfl];rfl
 have H:=fun w=>oZ w ⟨#[97]⟩ (bs (123::k::(t.sig++[125]))) (by rw[aH];have:(⟨#[97]⟩:bG).size=1:=rfl;simp only[T.sig,d_,dY,kW]at hs ⊢;omega)
 have e97:(⟨#[97]⟩:bG)++bs (123::k::(t.sig++[125]))=bs (T.dict k t).sig:=by rw[show (⟨#[97]⟩:bG)=bs [97]from rfl,dh];rfl
 rw[e97]at H
 have HDT:=ah (fun w'=>show Calls prog 50 #[.string (bs (T.dict k t).sig)] w' (fun e w''=>e=.returned (.string (bs (123::k::t.ty)))∧Below w'.heap.size w' w'')from aaM _ (.dict k t) bW hw hf hs w')
 have HMM:=ah (fun w'=>makeMap k t w')
 generalize bs (T.dict k t).sig=atw at *
 have HC:=aj.mk hc
 have IH:=ah ih
 have HN:=ah (show ∀(W:World) (hb:Below w.heap.size w W) (i:Nat) (hi:i<vs.length),_ from fun W hb i hi=>yS hc hb i hi)
 have HLEN:=aj.mk hlen
 have agJ:=aj.mk hlen2
 obtain⟨n,hn⟩:∃n,vs.length=n:=⟨_,rfl⟩
 have Ep:=aj.mk hn
 rw[hn]at hcc hl ⊢
 go_enter func31,ntmps31
 go_wp2_with (first|(go_at_call 50;refine(HDT.o _).mono ?_;rintro e wd ⟨rfl,hbd⟩;have ⟨hB,kbd,aiO⟩:=dP hbd;have HBD:=aj.mk hB;have KBD:=aj.mk kbd;clear hbd kbd hB)|(go_at_call 49;refine(HMM.o _).mono ?_;rintro e wm ⟨D,rfl,aqg,hDm,hbm⟩;have kbm:=(hbm.block w.heap.size aiO).trans KBD.o;have x3:=au kbm 3 (v:=.slice A0 n c) rfl;have atE:w.heap.size<wm.heap.size:=lt_of_block kbm;have HBM:=aj.mk (HBD.o.trans (hbm.mono HBD.o.size));have KD:=aj.mk hDm;have hDw:w.heap.size<D:=Nat.lt_of_lt_of_le aiO aqg;clear hbm kbm hDm))
 have KV:=aj.mk (aV wm (.cells #[.iface 129 (.pointer (some ⟨D,0,none⟩)),.string (bs (123::k::t.ty))] 94) _ rfl)
 have HB:=aj.mk (HBM.o.alloc HBM.o.size (.cells #[.iface 129 (.pointer (some ⟨D,0,none⟩)),.string (bs (123::k::t.ty))] 94))
 have KD0:=aj.mk (show Dk D (wm.alloc (.cells #[.iface 129 (.pointer (some ⟨D,0,none⟩)),.string (bs (123::k::t.ty))] 94)) [] [] (bs [k]) (bs t.ty) (.slice none 0 0) (.slice none 0 0)from ⟨aQ KD.o _,Mk.nil _ _,Mk.nil _ _⟩)
 have hDV:D<wm.heap.size:=lt_of_block KD.o
 generalize hV:wm.heap.size=V at *
 go_loopw [137] (fun aj7 wr=>∃(j:Nat) (s1 s2:Value),j≤n∧aj7=.int .i64 (j:Nat)∧aj (Dk D wr ((dfold ((xs.zip es).take j)).1.map A.sc) (dfold ((xs.zip es).take j)).2 (bs [k]) (bs t.ty) s1 s2)∧aj (wr.heap[V]?=some (.cells #[.iface 129 (.pointer (some ⟨D,0,none⟩)),.string (bs (123::k::t.ty))] 94 (0,0)))∧aj (Below w.heap.size w wr)) (fun aj7 _=>n-(intOf aj7).toNat)
 case atStart=>exact⟨0,.slice none 0 0,.slice none 0 0,jf _,rfl,KD0,KV,HB⟩
 case round =>
  obtain⟨j,s1,s2,hj,rfl,KD,KV,HB⟩:=hrel
  by_cases hlt:j<n
  ·have hd:decide ((j:Int)<(n:Int))=true:=by simp;omega
   have hj9:j+1≤1000001:=by omega
   have hjv:j<vs.length:=by have:=Ep.o;omega
   have hjx:j<xs.length:=by have:=HLEN.o;omega
   have hje:j<es.length:=by have:=agJ.o;omega
   obtain⟨ad,A3,c3,hA,h4,h5,h6,h7,h8,h9⟩:=HN.o wr HB.o j hjv
   subst hA
   obtain⟨y0,y1,hy0,hy1,D0,D1⟩:=IH.o j hjv hjx hje
   have HT1:=ah (by rw[IE xs es j hjx hje,Ry]:dfold ((xs.zip es).take (j+1))=Ij (dfold ((xs.zip es).take j)) (xs[j],es[j]))
   have HTY:=ah (hty j hje)
   have HKJ:=ah (by
    have h0:=hxs _ (nZ hjx)
    have hd:=OD ((xs.zip es).take j)
    have hz:((xs.zip es).take j).length≤j:=List.length_take_le _ _
    refine⟨h0.1,fun y hy=>?_,hd.len,by have:=hd.le;omega,hd.nd⟩
    obtain⟨q,hq,rfl⟩:=hd.ks y hy
    have hm:q.1∈xs:=(List.of_mem_zip (List.mem_of_mem_take hq)).1
    rw[(hxs _ hm).2,h0.2]:(xs[j]).isKey∧(∀y∈(dfold ((xs.zip es).take j)).1,y.code=(xs[j]).code)∧(dfold ((xs.zip es).take j)).1.length=(dfold ((xs.zip es).take j)).2.length∧(dfold ((xs.zip es).take j)).1.length≤j∧(dfold ((xs.zip es).take j)).1.Nodup)
   generalize dfold ((xs.zip es).take j)=F at *
   generalize xs[j]=xj at HT1 D0 HKJ
   generalize es[j]=ej at HT1 D1 HTY
   generalize vs[j]=x at h4 h5 h6 h7 h8 h9 hy0 hy1
   obtain⟨Ih,A4,c4,A5,c5,hA2,hlen3,⟨p3,p4,p5,p6,hc4,C4⟩,⟨p7,p8,p9,p10,hc5,C5⟩⟩:=ahM h9 (HB.o.alloc HB.o.size (.cells #[.int .u8 x.f0,.int .u64 x.f1,.string x.f2,.slice A3 x.f3.length c3] 53)) hy0 hy1
   subst hA2
   have p0:=au (aQ KV.o (.cells #[.int .u8 x.f0,.int .u64 x.f1,.string x.f2,.slice (some Ih) x.f3.length c3] 53)) 0 (v:=.iface 129 (.pointer (some ⟨D,0,none⟩))) rfl
   have p1:=au (aQ KV.o (.cells #[.int .u8 x.f0,.int .u64 x.f1,.string x.f2,.slice (some Ih) x.f3.length c3] 53)) 1 (v:=.string (bs (123::k::t.ty))) rfl
   have p2:=au (aV wr (.cells #[.int .u8 x.f0,.int .u64 x.f1,.string x.f2,.slice (some Ih) x.f3.length c3] 53) _ rfl) 3 (v:=.slice (some Ih) x.f3.length c3) rfl
   have H40:=ah C4
   have H50:=ah C5
   have HD0:=ah D0
   have HD1:=ah D1
   have hl1:(0:Int)<(x.f3.length:Int):=by omega
   have hl2:(1:Int)<(x.f3.length:Int):=by omega
   have hl0:0<x.f3.length:=by omega
   go_wp2
   refine lgo [13] ((fun w'=>w'.cell? ⟨V,0,none⟩=some (.iface 129 (.pointer (some ⟨D,0,none⟩)))∧w'.cell? ⟨V,1,none⟩=some (.string (bs (123::k::t.ty)))∧w'.cell? ⟨wr.heap.size,3,none⟩=some (.slice (some Ih) x.f3.length c3)∧w'.cell? Ih=some (.int .u8 y0.f0)∧w'.cell? ⟨Ih.block,Ih.off+1,none⟩=some (.int .u64 y0.f1)∧w'.cell? ⟨Ih.block,Ih.off+2,none⟩=some (.string y0.f2)∧w'.cell? ⟨Ih.block,Ih.off+3,none⟩=some (.slice A4 y0.f3.length c4)∧w'.cell? ⟨Ih.block,Ih.off+4,none⟩=some (.int .u8 y1.f0)∧w'.cell? ⟨Ih.block,Ih.off+4+1,none⟩=some (.int .u64 y1.f1)∧w'.cell? ⟨Ih.block,Ih.off+4+2,none⟩=some (.string y1.f2)∧w'.cell? ⟨Ih.block,Ih.off+4+3,none⟩=some (.slice A5 y1.f3.length c5))) fun hHeld=>?_
   refine jS 0 ?_
   refine jS 1 ?_
   refine jS 2 ?_
   refine jS 3 ?_
   refine jS 4 ?_
   refine jS 7 ?_
   refine jS 8 ?_
   refine jS 9 ?_
   refine jS 10 ?_
   refine ln 5 fun K hK=>?_
   go_simp
   refine(HD0.o _ _ _ (Kd.bQ H40.o (HB.o.alloc HB.o.size _).drew) hc4).mono ?_;rintro e w1 ⟨u0,rfl,hu0,hb1⟩;obtain rfl:u0=xj.val:=hu0;have q0:=bU hb1 p0;have q1:=bU hb1 p1;have q2:=bU hb1 p2;have q3:=bU hb1 p3;have q4:=bU hb1 p4;have q5:=bU hb1 p5;have q6:=bU hb1 p6;have q7:=bU hb1 p7;have q8:=bU hb1 p8;have q9:=bU hb1 p9;have q10:=bU hb1 p10;have ⟨hw1,hB1,hle1⟩:=Qa hb1 HB.o;have HW1:=aj.mk hw1;have HB1:=aj.mk hB1;have HL1:=aj.mk hle1;clear hb1 hw1 hB1 hle1
   (try go_wp2_with fail)
   refine ji hK ?_;clear hK K hHeld;intro hHeld
   refine ln 6 fun K hK=>?_
   go_simp
   refine(valueOf (.sc xj) (by simp[A.dN,T.ty]) _ (fun _=>True) _ rfl).mono ?_;rintro e w2 ⟨rfl,hb2⟩;have r0:=bU hb2 q0;have r1:=bU hb2 q1;have r2:=bU hb2 q2;have r3:=bU hb2 q3;have r4:=bU hb2 q4;have r5:=bU hb2 q5;have r6:=bU hb2 q6;have r7:=bU hb2 q7;have r8:=bU hb2 q8;have r9:=bU hb2 q9;have r10:=bU hb2 q10;have ⟨hw2,hB2,hle2⟩:=zl hb2 HW1.o HB1.o HL1.o;have HW2:=aj.mk hw2;have HB2:=aj.mk hB2;have HL2:=aj.mk hle2;clear hb2 hw2 hB2 hle2
   (try go_wp2_with fail)
   refine ji hK ?_;clear hK K hHeld;intro hHeld
   refine ln 11 fun K hK=>?_
   go_simp
   refine(HD1.o _ _ _ (Kd.bQ H50.o HB2.o) hc5).mono ?_;rintro e w3 ⟨u1,rfl,hu1,hb3⟩;have ⟨t2,u2,hiu⟩:=hu1.iface;subst hiu;have gg0:=bU hb3 r0;have gg1:=bU hb3 r1;have gg2:=bU hb3 r2;have gg3:=bU hb3 r3;have gg4:=bU hb3 r4;have gg5:=bU hb3 r5;have gg6:=bU hb3 r6;have gg7:=bU hb3 r7;have gg8:=bU hb3 r8;have gg9:=bU hb3 r9;have aqf:=bU hb3 r10;have ⟨hw3,hB3,hle3⟩:=zl hb3 HW2.o HB2.o HL2.o;have HW3:=aj.mk hw3;have HB3:=aj.mk hB3;have HL3:=aj.mk hle3;have HU3:=aj.mk hu1;clear hb3 hw3 hB3 hle3 hu1
   (try go_wp2_with fail)
   refine ji hK ?_;clear hK K hHeld;intro hHeld
   refine ln 12 fun K hK=>?_
   go_simp
   refine(valueOf ej HTY.o _ _ _ HU3.o).mono ?_;rintro e w4 ⟨rfl,hb4⟩;have oo0:=bU hb4 gg0;have oo1:=bU hb4 gg1;have oo2:=bU hb4 gg2;have oo3:=bU hb4 gg3;have oo4:=bU hb4 gg4;have oo5:=bU hb4 gg5;have oo6:=bU hb4 gg6;have oo7:=bU hb4 gg7;have oo8:=bU hb4 gg8;have oo9:=bU hb4 gg9;have aui:=bU hb4 aqf;have ⟨hw4,hB4,al5⟩:=zl hb4 HW3.o HB3.o HL3.o;have HU4:=aj.mk (HA.below HU3.o hb4);have HW4:=aj.mk hw4;have HB4:=aj.mk hB4;have HL4:=aj.mk al5;clear hb4 hw4 hB4 al5
   (try go_wp2_with fail)
   refine ji hK ?_;clear hK K hHeld;intro hHeld
   refine PG 13 fun K hK=>?_
   go_simp;refine(ajH F.1 xj F.2 ej HKJ.o.1 HKJ.o.2.1 HKJ.o.2.2.2.2 HKJ.o.2.2.1 (by have:=HKJ.o.2.2.2.1;omega) D (bs [k]) (bs t.ty) s1 s2 t2 u2 _ _ _ _ (KD.o.step HW4.o) (HU4.o.mono (fun q hq=>⟨by have:=lt_of_block KD.o.1;have:=HL2.o;omega,fun e=>by have:=KD.o.2.1.lt q e.symm;have:=HL2.o;omega,fun e=>by have:=KD.o.2.2.lt q e.symm;have:=HL2.o;omega⟩))).mono ?_;rintro en w5 ⟨rfl,s1',s2',hdk,hbl,hfr⟩;have kv4:=(HW4.o V (lt_of_block KV.o)).trans KV.o;have HK5:=aj.mk ((hfr V (lt_of_block kv4) (Nat.ne_of_gt hDV) ((KD.o.step HW4.o).2.1.ne kv4 (by decide)) ((KD.o.step HW4.o).2.2.ne kv4 (by decide))).trans kv4);have zq:=aj.mk (hbl w w.heap.size (Nat.le_of_lt hDw) HB4.o);have HD5:=aj.mk hdk;clear hdk hbl hfr kv4;(try go_wp2_with fail)
   refine Qe hK ?_
   refine uJ ?_
   go_wp2
   go_roundw
   case rel=>exact⟨j+1,s1',s2',hlt,by go_num,⟨by rw[HT1.o];exact HD5.o⟩,HK5,zq⟩
   case measure=>simp[intOf];omega
  ·have hd:decide ((j:Int)<(n:Int))=false:=by simp;omega
   have c0:=au KV.o 0 (v:=.iface 129 (.pointer (some ⟨D,0,none⟩))) rfl
   have c1:=au KV.o 1 (v:=.string (bs (123::k::t.ty))) rfl
   have JZ:=aj.mk (kT (by rw[List.length_zip];have:=HLEN.o;have:=agJ.o;have:=Ep.o;omega):(xs.zip es).take j=xs.zip es)
   go_wp2_with (go_at_call 53;refine(AY 129 _ _ _).mono ?_;rintro e w5 ⟨rfl,hb5⟩;have zq:=aj.mk hb5;clear hb5)
   go_ret
   have hD:=KD.o.step (fun k hk=>zq.o.block k hk)
   rw[JZ.o]at hD
   obtain⟨hb,⟨v1,r1,l1⟩,⟨v2,r2,l2⟩⟩:=hD
   exact⟨_,rfl,⟨D,s1,s2,v1,v2,rfl,by omega,hb,r1.mono (fun k hk=>by have:=hk.1;omega),l1.mono (fun k hk=>by have:=hk.1.1;omega),r2.mono (fun k hk=>by have:=hk.1;omega),l2.mono (fun k hk=>by have:=hk.1.1;omega)⟩,HB.o.trans (zq.o.mono HB.o.size)⟩
section
section
variable {ops:Array Oper} {rest:List Oper} {o:Oper} {a:Act} {Q:Exit→Act→World→Prop}
theorem Mk.Oh {iR:Nat→Prop} {w0 W:World} (base:Nat) (hgd:o.guard=none) (s x:Operand)
  (ho:o.op=.call {callee:=.builtin .append,args:=#[s,x],argTypes:=#[89,89]}) (v:Value) (l:List A) (b:A) (u:Value) (hs:a.eval s=v) (hx:a.eval x=.slice (some ⟨W.heap.size,0,none⟩) 1 1)
  (hb1:∀k,iR k→base≤k) (hfresh:∀k,W.heap.size≤k→iR k)
  (HM:Mk iR W l v) (HU:HA W (fun k=>iR k∧some k≠v.ownBlock) b u) (HB:Below base w0 W) (hbase:base≤W.heap.size) (hl:l.length+1≤1000000)
  (h:∀v1 w1,Mk iR w1 (l++[b]) v1→Below base w0 w1→wpList prog ops Q rest (a.put o.dst v1) w1) :
  wpList prog ops Q (o::rest) a (W.alloc (.cells #[u] 20)) :=
 wpList_plain hgd fun K hK=>by
  have hw:Region.wanted o (yielded ops a.tmps)=true:=by simp[Region.wanted,hgd]
  have:=Mk.wJ (K:=K) (Q:=Q) base hw s x ho v l b u hs hx hb1 hfresh HM HU HB hbase hl (fun v1 w1 h1 h2 _ _=>hK _ _ (h v1 w1 h1 h2))
  rwa [if_pos hw]at this
end
def Doors (vs:List l9) (l:List A):Prop:=vs.length=l.length∧∀(i:Nat) (h:i<l.length) (h':i<vs.length),uS vs[i] l[i]
theorem X9 (l:List A) (vs:List l9) (hv:Doors vs l) (hl:l.length≤999999) (A0:Option Addr) (c:Nat) (w:World) (hc:Kd.C ug w A0 vs.length vs) (hcc:vs.length≤c) :
  Calls prog 55 #[.slice A0 vs.length c] w fun e w'=>∃s,e=.returned s∧Mk (fun k=>w.heap.size≤k) w' l s∧Below w.heap.size w w':=by
 obtain⟨hlen,hget⟩:=hv
 have IH:=ah (fun (i:Nat) (h:i<l.length) (h':i<vs.length)=>hget i h h')
 have HN:=ah (show ∀(W:World) (hb:Below w.heap.size w W) (i:Nat) (hi:i<vs.length),_ from fun W hb i hi=>yS hc hb i hi)
 have HLEN:=aj.mk hlen
 obtain⟨n,hn⟩:∃n,vs.length=n:=⟨_,rfl⟩
 have Ep:=aj.mk hn
 rw[hn]at hcc ⊢
 have HB:=aj.mk (jM w)
 go_enter func55,ntmps55
 go_wp2
 go_loopw [3,8] (fun v3 v8 wr=>∃(k:Nat),k≤n∧v8=.int .i64 (k:Nat)∧aj (Mk (fun k=>w.heap.size≤k) wr (l.take k) v3)∧aj (Below w.heap.size w wr)) (fun _ v8 _=>n-(intOf v8).toNat)
 case atStart=>exact⟨0,jf _,rfl,⟨Mk.nil _ _⟩,HB⟩
 case round =>
  obtain⟨k,hk,rfl,HM,HB⟩:=hrel
  by_cases hlt:k<n
  ·have hd:decide ((k:Int)<(n:Int))=true:=by simp;omega
   have hk9:k+1≤1000001:=by have:=HLEN.o;have:=Ep.o;omega
   have hkv:k<vs.length:=by have:=Ep.o;omega
   have hkl:k<l.length:=by have:=HLEN.o;omega
   obtain⟨ad,A3,c3,hA,h0,h1,h2,h3,h4,h5⟩:=HN.o wr HB.o k hkv
   subst hA
   have HIH:=ah (IH.o k hkl hkv)
   have HT:=ah (show l.take (k+1)=l.take k++[l[k]]from lu hkl)
   generalize vs[k]=x at h0 h1 h2 h3 h4 h5 HIH
   generalize l[k]=a at HIH HT
   have Qm:=aj.mk h5
   go_wp2_with (first|(go_at_call 31;refine(HIH.o _ _ _ (Kd.bQ Qm.o (HB.o.alloc HB.o.size _)) h4).mono ?_;rintro e w1 ⟨u0,rfl,hu,hb1⟩;have ⟨t,u,hiu⟩:=hu.iface;subst hiu;have HM1:=aj.mk ((HM.o.alloc (.cells #[.int .u8 x.f0,.int .u64 x.f1,.string x.f2,.slice A3 x.f3.length c3] 53)).below hb1);have HB1:=aj.mk ((HB.o.alloc HB.o.size (.cells #[.int .u8 x.f0,.int .u64 x.f1,.string x.f2,.slice A3 x.f3.length c3] 53)).trans (hb1.mono (by have:=HB.o.size;simp;omega)));have ZV:=aj.mk (hu.mono (ok':=fun k=>w.heap.size≤k∧some k≠Value.ownBlock u3) (fun k hk=>⟨by have:=HB.o.size;simp at hk;omega,fun e=>by have:=HM.o.lt k e.symm;simp at hk;omega⟩));clear hu hb1)|((with_reducible refine jH (b:=.append) (xs:=#[.tmp 12,.tmp 15]) rfl ?_);at_builtin;refine Mk.Oh (iR:=fun k=>w.heap.size≤k) (w0:=w) w.heap.size rfl (.tmp 12) (.tmp 15) rfl u3 (l.take k) a (.iface t u) rfl rfl (fun k hk=>hk) (fun k hk=>Nat.le_trans HB1.o.size hk) HM1.o ZV.o HB1.o HB1.o.size (by rw[List.length_take];omega) ?_;intro v2 w2 hm2 hB2;have ZR:=aj.mk hm2;have HB2:=aj.mk hB2;clear hm2 hB2))
   go_roundw
   case rel=>exact⟨k+1,hlt,by go_num,⟨by rw[HT.o];exact ZR.o⟩,HB2⟩
   case measure=>simp[intOf];omega
  ·have hd:decide ((k:Int)<(n:Int))=false:=by simp;omega
   have hke:l.take k=l:=kT (by have:=HLEN.o;have:=Ep.o;omega)
   have JZ:=aj.mk hke
   go_wp2
   go_ret
   exact⟨_,rfl,by have:=HM.o;rw[JZ.o]at this;exact this,HB.o⟩
end
mutual
def kZ:dS→Nat
 |⟨_,_,_,l⟩=>1+eu l
def eu:List dS→Nat
 |[]=>0
 |a::l=>kZ a+eu l
end
mutual
def jv:dS→Nat
 |⟨_,_,s,l⟩=>s.size+dJ l
def dJ:List dS→Nat
 |[]=>0
 |a::l=>jv a+dJ l
end
theorem iG (x:dS):kZ x=1+eu x.f3:=by cases x;rfl
theorem jF (x:dS):jv x=x.f2.size+dJ x.f3:=by cases x;rfl
theorem wM:∀a b:List dS,eu (a++b)=eu a+eu b
 |[],b=>by simp[eu]
 |x::a,b=>by simp[eu,wM a b];omega
theorem uZ:∀a b:List dS,dJ (a++b)=dJ a+dJ b
 |[],b=>by simp[dJ]
 |x::a,b=>by simp[dJ,uZ a b];omega
theorem XZ (l:List dS) (k:Nat) (h:k<l.length):eu (l.take (k+1))=eu (l.take k)+(1+eu (l[k]).f3):=by
 rw[lu h,wM];simp[eu,iG]
theorem Rf (l:List dS) (k:Nat) (h:k<l.length):dJ (l.take (k+1))=dJ (l.take k)+((l[k]).f2.size+dJ (l[k]).f3):=by
 rw[lu h,uZ];simp[dJ,jF]
theorem X3 (l:List dS) (k:Nat):eu (l.take k)≤eu l:=by
 have:=wM (l.take k) (l.drop k)
 rw[List.take_append_drop]at this;omega
theorem Rh (l:List dS) (k:Nat):dJ (l.take k)≤dJ l:=by
 have:=uZ (l.take k) (l.drop k)
 rw[List.take_append_drop]at this;omega
theorem fK:∀l:List dS,l.length≤eu l
 |[]=>bW
 |x::l=>by have:=fK l;simp only[d_,eu,iG];omega
structure Qp (V B v b:Nat) (w:World):Prop where
 v:w.heap[V]?=some (.cells #[.int .i64 v] 3 (0,0))
 b:w.heap[B]?=some (.cells #[.int .i64 b] 3 (0,0))
theorem Qp.old {V B v b:Nat} {w w':World} (h:Qp V B v b w) (hb:Below w.heap.size w w'):Qp V B v b w' :=
 ⟨(hb.block _ (lt_of_block h.v)).trans h.v,(hb.block _ (lt_of_block h.b)).trans h.b⟩
theorem Qp.aq0 {V B v b:Nat} {w:World} (h:Qp V B v b w) (hne:V≠B) (x:Nat):Qp V B x b (w.setCell ⟨V,0,none⟩ (.int .i64 x)) :=
 ⟨Joins.block_setCell h.v _,(ku _ _ _ _ (fun e=>hne e.symm)).trans h.b⟩
theorem Qp.agi {V B v b:Nat} {w:World} (h:Qp V B v b w) (hne:V≠B) (x:Nat):Qp V B v x (w.setCell ⟨B,0,none⟩ (.int .i64 x)) :=
 ⟨(ku _ _ _ _ hne).trans h.v,Joins.block_setCell h.b _⟩
theorem uY {w W:World} {A:Option Addr} {xs:List dS} (h:Kd.C qx w A xs.length xs) (hb:Below w.heap.size w W) (i:Nat) (hi:i<xs.length):∃ad A3 c3,A=some ad∧W.cell? (ad.add (i*4))=some (.int .u8 (xs[i]).f0)∧W.cell? ⟨(ad.add (i*4)).block,(ad.add (i*4)).off+1,none⟩=some (.int .u64 (xs[i]).f1)∧W.cell? ⟨(ad.add (i*4)).block,(ad.add (i*4)).off+2,none⟩=some (.string (xs[i]).f2)∧W.cell? ⟨(ad.add (i*4)).block,(ad.add (i*4)).off+3,none⟩=some (.slice A3 (xs[i]).f3.length c3)∧(xs[i]).f3.length≤c3∧qx.C w A3 (xs[i]).f3.length (xs[i]).f3:=by
 have:=mD h (i:Int) (by omega) (by omega)
 have e:aA xs (i:Int)=xs[i]:=by simp[aA,wC,gQ hi]
 rw[e,show((i:Nat):Int).toNat=i from rfl]at this
 obtain⟨ad,A3,c3,e,h0,h1,h2,h3,h4,h5⟩:=this
 exact⟨ad,A3,c3,e,(hb.cell (fA w _ h0)).trans h0,(hb.cell (fA w _ h1)).trans h1,(hb.cell (fA w _ h2)).trans h2,(hb.cell (fA w _ h3)).trans h3,h4,h5⟩
def ahF (l:List dS) (v b V B:Nat) (W0:World) (e:Ending) (w':World):Prop :=
 ∃(r:Bool) (v' b':Nat),e=.returned (.bool r)∧Qp V B v' b' w'∧Below W0.heap.size W0 w'∧v'≤v+eu l∧b'≤b+dJ l∧(r=true→v'=v+eu l∧b'=b+dJ l∧(l≠[]→v'≤400∧b'≤65536))
theorem Y0 (m:Nat):∀(l:List dS),eu l≤m→∀(A:Option Addr) (c:Nat) (d:Int) (v b V B:Nat) (W0 w:World),Kd.C qx W0 A l.length l→l.length≤c→Qp V B v b w→V≠B→W0.heap.size≤V→W0.heap.size≤B→Below W0.heap.size W0 w →
  eu l+v≤10000000→dJ l+b≤10000000→-1≤d→d≤100 →
  Calls prog 59 #[.slice A l.length c,.int .i64 d,.pointer (some ⟨V,0,none⟩),.pointer (some ⟨B,0,none⟩)] w (ahF l v b V B W0):=by
 induction m using Nat.strongRecOn with
 | _ m ih =>
 intro l hm A c d v b V B W0 w hc hcc h2 hne hV hB hb h3 h4 h5 h6
 have hl:=fK l
 have HN:=ah (show ∀(W:World) (hb:Below W0.heap.size W0 W) (i:Nat) (hi:i<l.length),_ from fun W hb i hi=>uY hc hb i hi)
 obtain⟨n,hn⟩:∃n,l.length=n:=⟨_,rfl⟩
 have Ep:=ah hn
 rw[hn]at hcc hl ⊢
 have IH:=ah ih
 have H2:=ah h2
 have HB:=ah hb
 have HA:=ah (⟨h3,h4,hV,hB,hne,hm⟩:eu l+v≤10000000∧dJ l+b≤10000000∧W0.heap.size≤V∧W0.heap.size≤B∧V≠B∧eu l≤m)
 by_cases hg:d<0∧0<n
 ·have hg1:d<0:=hg.1
  have hg2:((0:Int)<(n:Int)):=by omega
  clear hc hb h2 ih hn hg
  go_enter func59,ntmps59
  go_wp2
  go_ret
  exact⟨false,v,b,rfl,H2.o,HB.o,by omega,by omega,fun h=>nomatch h⟩
 have hg:(d<0∧n=0)∨0≤d:=by omega
 clear hc hb h2 ih hn
 rcases hg with ⟨hg,hn0⟩|hg
 all_goals (
  first
   |have hg1:decide (d<0)=true:=decide_eq_true hg
    have hg2:decide ((0:Int)<(n:Int))=false:=by simp;omega
   |have hg1:decide (d<0)=false:=decide_eq_false (by omega)
  go_enter func59,ntmps59
  go_wp2
  go_loopw [19] (fun t wr=>∃(k:Nat),k≤n∧t=.int .i64 (k:Nat)∧aj (Qp V B (v+eu (l.take k)) (b+dJ (l.take k)) wr)∧aj (Below W0.heap.size W0 wr)∧aj (0<k→v+eu (l.take k)≤400∧b+dJ (l.take k)≤65536∧0≤d)) (fun t _=>n-(intOf t).toNat)
  case atStart=>exact⟨0,jf _,rfl,⟨H2.o⟩,⟨HB.o⟩,⟨fun h=>absurd h (Nat.lt_irrefl _)⟩⟩
  case round =>
   clear HB H2
   obtain⟨k,hk,rfl,H2,HB,HK⟩:=hrel
   by_cases hlt:k<n
   ·try (exfalso;omega;done)
    all_goals (
    have hd:decide ((k:Int)<(n:Int))=true:=by simp;omega
    have hd0:0≤d:=by omega
    have hkl:k<l.length:=by have:=Ep.o;omega
    have c1:=XZ l k hkl
    have c2:=Rf l k hkl
    have c3:=X3 l (k+1)
    have c4:=Rh l (k+1)
    obtain⟨ad,A3,c5,hA,r0,r1,r2,r3,r4,r5⟩:=HN.o W0 jc k hkl
    subst hA
    have IHX:=ah (IH.o (eu (l[k]).f3) (by have:=HA.o;omega) (l[k]).f3 bW)
    have Qm:=ah r5
    clear r5 r0 r1
    obtain⟨x,hx⟩:∃x,l[k]=x:=⟨_,rfl⟩
    rw[hx]at r2 r3 r4 IHX Qm c1 c2
    have HR:=ah (fun W (hb:Below W0.heap.size W0 W)=>⟨(hb.cell (fA W0 _ r2)).trans r2,(hb.cell (fA W0 _ r3)).trans r3⟩:∀W,Below W0.heap.size W0 W→W.cell? ⟨(ad.add (k*4)).block,(ad.add (k*4)).off+2,none⟩=some (.string x.f2)∧W.cell? ⟨(ad.add (k*4)).block,(ad.add (k*4)).off+3,none⟩=some (.slice A3 x.f3.length c5))
    clear r2 r3
    obtain⟨N,hN⟩:∃N,v+eu (l.take k)=N:=⟨_,rfl⟩
    obtain⟨M,hM⟩:∃M,b+dJ (l.take k)=M:=⟨_,rfl⟩
    rw[hN,hM]at H2 HK
    have cv:=au H2.o.v 0 (v:=.int .i64 N) rfl
    have cb:=au H2.o.b 0 (v:=.int .i64 M) rfl
    have fv:=aI H2.o.v 0
    have fb:=aI H2.o.b 0
    have HX:=ah hx
    have HNM:=ah (⟨hN,hM,c1,c2,c3,c4⟩:v+eu (l.take k)=N∧b+dJ (l.take k)=M∧eu (l.take (k+1))=eu (l.take k)+(1+eu x.f3)∧dJ (l.take (k+1))=dJ (l.take k)+(x.f2.size+dJ x.f3)∧eu (l.take (k+1))≤eu l∧dJ (l.take (k+1))≤dJ l)
    clear hx hN hM c1 c2 c3 c4
    go_wp2
    rw[show wrap64 ((N:Int)+1)=((N+1:Nat):Int) by have:=HNM.o;have:=HA.o;unfold wrap64;omega]
    obtain⟨W2,hW2⟩:∃W2,wr.setCell ⟨V,0,none⟩ (.int .i64 ((N+1:Nat):Int))=W2:=⟨_,rfl⟩
    rw[hW2]
    have H2:=ah (hW2▸H2.o.aq0 hne (N+1):Qp V B (N+1) M W2)
    have HB:=ah (hW2▸HB.o.setCell (p:=⟨V,0,none⟩) hV _:Below W0.heap.size W0 W2)
    clear hW2 cv cb fv fb
    have cb:=au H2.o.b 0 (v:=.int .i64 M) rfl
    have fb:=aI H2.o.b 0
    obtain⟨r2,r3⟩:=HR.o W2 HB.o
    go_region
    rw[show wrap64 ((M:Int)+(x.f2.size:Int))=((M+x.f2.size:Nat):Int) by have:=HNM.o;have:=HA.o;unfold wrap64;omega]
    obtain⟨W3,hW3⟩:∃W3,W2.setCell ⟨B,0,none⟩ (.int .i64 ((M+x.f2.size:Nat):Int))=W3:=⟨_,rfl⟩
    rw[hW3]
    have H2:=ah (hW3▸H2.o.agi hne (M+x.f2.size):Qp V B (N+1) (M+x.f2.size) W3)
    have HB:=ah (hW3▸HB.o.setCell (p:=⟨B,0,none⟩) hB _:Below W0.heap.size W0 W3)
    clear hW3 cb fb r2 r3
    have H2:=ah (H2.o.old (jc.drew):Qp V B (N+1) (M+x.f2.size) W3.drew)
    have HB:=ah (HB.o.drew)
    generalize W3.drew=W4 at *
    have cv:=au H2.o.v 0 (v:=.int .i64 ((N+1:Nat):Int)) rfl
    have cb:=au H2.o.b 0 (v:=.int .i64 ((M+x.f2.size:Nat):Int)) rfl
    obtain⟨r2,r3⟩:=HR.o W4 HB.o
    have hNM:N+(1+eu x.f3)≤10000000∧M+(x.f2.size+dJ x.f3)≤10000000∧N+1≤v+eu l∧M+x.f2.size≤b+dJ l:=by
     have:=HNM.o;have:=HA.o;omega
    by_cases g1:400<N+1
    ·have gd:decide ((400:Int)<((N+1:Nat):Int))=true:=by simp;omega
     go_wp2
     go_ret
     exact⟨false,N+1,_,rfl,H2.o,HB.o,hNM.2.2.1,hNM.2.2.2,fun h=>nomatch h⟩
    have gd:decide ((400:Int)<((N+1:Nat):Int))=false:=by simp;omega
    by_cases g2:65536<M+x.f2.size
    ·have ge:decide ((65536:Int)<((M+x.f2.size:Nat):Int))=true:=by simp;omega
     go_wp2
     go_ret
     exact⟨false,N+1,_,rfl,H2.o,HB.o,hNM.2.2.1,hNM.2.2.2,fun h=>nomatch h⟩
    have ge:decide ((65536:Int)<((M+x.f2.size:Nat):Int))=false:=by simp;omega
    go_wp2_with (go_at_call 59;refine(IHX.o A3 _ _ _ _ V B W0 _ Qm.o (by assumption) H2.o hne hV hB HB.o (by omega) (by omega) (by omega) (by omega)).mono ?_;rintro e w5 ⟨r,v5,b5,rfl,t5,hb5,hv5,hB5,hr5⟩;refine Hid.o ?_)
    refine ah ?_
    have T5:=ah t5
    have zq:=ah hb5
    have H5:=ah (⟨hv5,hB5,hr5⟩:_∧_∧_)
    clear t5 hb5 hv5 hB5 hr5
    have HG:=ah (⟨g1,g2⟩:¬_∧¬_)
    clear g1 g2
    have akx:=ah hNM
    clear hNM
    cases r
    ·go_wp2
     go_ret
     exact⟨false,v5,b5,rfl,T5.o,zq.o,by have:=H5.o;have:=HNM.o;have:=akx.o;omega,by have:=H5.o;have:=HNM.o;have:=akx.o;omega,fun h=>nomatch h⟩
    ·go_wp2
     go_roundw
     case rel =>
      refine⟨k+1,hlt,by go_num,⟨?_⟩,⟨zq.o⟩,⟨fun _=>?_⟩⟩
      ·have h1:=H5.o.2.2 rfl
       have h2:=HNM.o
       rw[show v+eu (l.take (k+1))=v5 by omega,show b+dJ (l.take (k+1))=b5 by omega]
       exact T5.o
      ·have h1:=H5.o.2.2 rfl
       have h2:=HNM.o
       have h3:=HG.o
       by_cases e:x.f3=[]
       ·rw[e]at h1 h2
        simp only[eu,dJ]at h1 h2
        omega
       ·have:=h1.2.2 e
        omega
     case measure=>simp[intOf];omega)
   ·have hd:decide ((k:Int)<(n:Int))=false:=by simp;omega
    have hke:l.take k=l:=kT (by have:=Ep.o;omega)
    rw[hke]at H2 HK
    have JZ:=ah hke
    clear hke
    go_wp2
    go_ret
    exact⟨true,_,_,rfl,H2.o,HB.o,bW,bW,fun _=>⟨rfl,rfl,fun hne=>by have:=Ep.o;have:=List.length_pos_iff.2 hne;have:=HK.o (by omega);omega⟩⟩)
def yG (P:Prop) (w:World) (e:Ending) (w':World):Prop:=∃r:Bool,e=.returned (.bool r)∧Below w.heap.size w w'∧(r=true→P)
theorem agu (w:World):Qp w.heap.size (w.heap.size+1) 0 0 ((w.alloc (.cells #[.int .i64 0] 3)).alloc (.cells #[.int .i64 0] 3)):=by
 refine⟨?_,?_⟩
 ·rw[kN _ _ _ (by simp)]
  exact aV _ _ _ rfl
 ·exact aV _ _ _ (by simp)
theorem Ua (l:List dS) (A:Option Addr) (c:Nat) (w:World) (hc:Kd.C qx w A l.length l) (hcc:l.length≤c) (h1:eu l≤9000000) (h2:dJ l≤9000000) :
  Calls prog 37 #[.slice A l.length c] w (yG (eu l≤400∧dJ l≤65536) w):=by
 obtain⟨n,hn⟩:∃n,l.length=n:=⟨_,rfl⟩
 have SM:=ah (Y0 (eu l) l bW A c 100 0 0 w.heap.size (w.heap.size+1) w _ hc hcc (agu w) (by omega) bW (by omega) ((gG _).alloc (by simp) _) (by omega) (by omega) (by omega) (by omega))
 rw[hn]at SM ⊢
 go_enter func37,ntmps37
 go_wp2_with (go_at_call 59;refine SM.o.mono ?_;rintro e w5 ⟨r,v5,b5,rfl,t5,hb5,hv5,hB5,hr5⟩;have HB:=ah hb5;have HR:=ah hr5;clear hb5 hr5 hv5 hB5 t5)
 go_ret
 refine⟨_,rfl,HB.o,fun h=>?_⟩
 have:=HR.o h
 by_cases e:l=[]
 ·subst e;simp[eu,dJ]
 ·have:=this.2.2 e;omega
end Go.Proofs.YtllcccekodcdmaaGreatDoor.Ms
namespace Go.Proofs.YtllcccekodcdmaaGreatDoor.Ms
open Go Go.RowKit Go.Proofs.ak.aT Go.Proofs.YtllcccekodcdmaaGreatDoor.bK
theorem vw (x:List UInt8) (hl:x.length≤100000):∃k m,bP.f k (bs x)=some ((m:Nat):Int)∧Found x 0 0 0 m:=by
 obtain⟨m,⟨k,hk⟩,hf⟩:=Kz _ x 0 0 0 bW hl (by decide) (by decide) (by decide) (by decide) (by decide) (by decide)
 refine⟨k,m,?_,hf⟩
 unfold bP.f
 rw[show ay.f k (bs x) 32 32 32=some (m:Int)from hk]
 rfl
def QF (x:List UInt8):Prop:=∃ts,T.Ht ts∧T.qC ts 0 0 0∧x=T.sigs ts
theorem Ue (n:Nat):∀(x:List UInt8) (out:List bG),x.length≤n→x.length≤100000→out.length+x.length≤1000000→∃k o r,dD.l0 k (bs x) out=some (o,r)∧(r=true→QF x):=by
 induction n with
 |zero =>
  intro x out h
  have e:x=[]:=List.length_eq_zero_iff.1 (by omega)
  subst e
  intros
  refine⟨1,out,true,?_,fun _=>⟨[],trivial,trivial,rfl⟩⟩
  simp only[dD.l0,bH,if_pos]
 |succ n ih =>
  intro x out h hl ho
  by_cases e:x=[]
  ·subst e
   refine⟨1,out,true,?_,fun _=>⟨[],trivial,trivial,rfl⟩⟩
   simp only[dD.l0,bH,if_pos]
  obtain⟨k,m,hm,hf,ht⟩:=vw x hl
  have hne:¬(bs x).toList=([]:List UInt8):=by rw[bH];exact e
  by_cases hm0:m=0
  ·refine⟨k+1,[],false,?_,fun h=>nomatch h⟩
   simp only[dD.l0]
   rw[if_neg hne,hm]
   simp only[Option.bind_some]
   rw[if_pos (by omega)]
  ·obtain⟨t,t1,t2,t3⟩:=ht (by omega)
   obtain⟨k2,o,r,h2,h3⟩:=ih (x.drop m) (out++[(bs x).extract 0 m]) (by rw[List.length_drop];omega) (by rw[List.length_drop];omega) (by rw[List.length_drop,dY];simp;omega)
   refine⟨max k k2+1,o,r,?_,fun hr=>?_⟩
   ·simp only[dD.l0]
    rw[if_neg hne,eY (F:=fun j=>bP.f j (bs x)) (fun j=>bP.mono _ j) (Nat.le_max_left k k2) hm]
    simp only[Option.bind_some]
    rw[if_neg (by omega),if_pos (by omega),if_pos (by rw[aH];omega),if_pos (by omega),Int.toNat_natCast]
    have ex:(bs x).extract m (bs x).size=bs (x.drop m):=by rw[nM,aH,kT (by rw[List.length_drop];omega)]
    rw[ex]
    exact eY (F:=fun j=>dD.l0 j (bs (x.drop m)) (out++[(bs x).extract 0 m])) (fun j=>dD.dZ j _ _) (Nat.le_max_right k k2) h2
   ·obtain⟨ts,w1,w2,w3⟩:=h3 hr
    exact⟨t::ts,⟨t1,w1⟩,⟨t2,w2⟩,by show x=t.sig++T.sigs ts;rw[←t3,←w3,List.take_append_drop]⟩
theorem Zu (x:List UInt8):∃k r,iH.f k (bs x)=some r∧(r=true→x.length≤255∧QF x):=by
 by_cases h:255<x.length
 ·refine⟨0,false,?_,fun h=>nomatch h⟩
  unfold iH.f dD.f
  rw[if_pos (by rw[aH];omega)]
  rfl
 ·obtain⟨k,o,r,h1,h2⟩:=Ue _ x [] bW (by omega) (by simp;omega)
  refine⟨k,r,?_,fun hr=>⟨by omega,h2 hr⟩⟩
  unfold iH.f dD.f
  rw[if_neg (by rw[aH];omega),h1]
  rfl
def E_ (x:List UInt8):Prop:=x.length≤255∧QF x∧∃k,iH.f k (bs x)=some true
theorem Hq (x:List UInt8):∃k r,iH.f k (bs x)=some r∧(r=true→E_ x):=by
 obtain⟨k,r,h,g⟩:=Zu x
 exact⟨k,r,h,fun e=>⟨(g e).1,(g e).2,k,e▸h⟩⟩
def ZL (x:List UInt8):Prop:=(∃t:T,t.Dz∧t.fits 0 0 0∧x=t.sig)∨∃(q:UInt8) (t:T),basic q∧t.Dz∧(T.dict q t).fits 0 0 0∧x=123::q::(t.sig++[125])
theorem aaY (x:List UInt8) (hl:x.length≤99999):∃k one rest r,dX.f k (bs x)=some (one,rest,r)∧(r=true→rest=⟨#[]⟩→ZL x):=by
 have hz:∀y:List UInt8,bs y=(⟨#[]⟩:bG)→y=[]:=fun y h=>ahN (y:=[]) h
 by_cases hq:1<x.length∧x.head?=some 123
 ·obtain⟨r,rfl⟩:∃r,x=123::r:=by
   cases x with
   |nil=>simp at hq
   |cons q r1=>simp at hq;exact⟨r1,by rw[hq.2]⟩
  have happ:(⟨#[97]⟩:bG)++bs (123::r)=bs (97::123::r):=dh [97] (123::r)
  obtain⟨k,m,hm,hf,ht⟩:=vw (97::123::r) (by simp only[d_]at hl ⊢;omega)
  have h0:bt (bs (123::r)) 0=((123:UInt8).toNat:Nat):=qZ (123::r) 0 (by simp)
  by_cases hm1:m≤1
  ·refine⟨k+1,⟨#[]⟩,⟨#[]⟩,false,?_,fun h=>nomatch h⟩
   unfold dX.f
   rw[if_pos (by rw[aH];omega),if_pos (by rw[aH];omega),h0]
   show dX.j0 (k+1) _ true=_
   simp only[dX.j0]
   rw[if_pos trivial,if_pos (by rw[aH];omega),happ,hm]
   simp only[Option.bind_some]
   rw[if_pos (by unfold wrap64;omega)]
  ·refine⟨k+1,(bs (123::r)).extract 0 (m-1),(bs (123::r)).extract (m-1) (bs (123::r)).size,true,?_,fun _ he=>?_⟩
   ·unfold dX.f
    rw[if_pos (by rw[aH];omega),if_pos (by rw[aH];omega),h0]
    show dX.j0 (k+1) _ true=_
    simp only[dX.j0]
    simp only[d_]at hf hl
    have hw:wrap64 ((m:Int)-1)=((m-1:Nat):Int):=by unfold wrap64;omega
    rw[if_pos trivial,if_pos (by rw[aH];simp only[d_];omega),happ,hm]
    simp only[Option.bind_some]
    rw[hw,if_neg (by omega),if_pos (by omega),if_pos (by rw[aH];simp only[d_];omega),Int.toNat_natCast]
   ·obtain⟨t,t1,t2,t3⟩:=ht (by omega)
    have hlen:(123::r).length≤m-1:=by
     rw[nM,aH]at he
     have:=congrArg List.length (hz _ he)
     rw[List.length_take,List.length_drop,kW]at this
     omega
    have e:(97::123::r).take m=97::123::r:=kT (by simp only[d_]at hlen ⊢;omega)
    rw[e]at t3
    cases t with
    |base c=>simp[T.sig]at t3
    |arr t =>
     exfalso
     simp only[T.sig,List.cons.injEq,true_and]at t3
     cases t with
     |base c=>simp only[T.sig,List.cons.injEq]at t3;obtain⟨rfl,-⟩:=t3;revert t1;simp[T.Dz,basic]
     |arr t=>simp[T.sig]at t3
     |dict k t=>simp[T.sig]at t3
     |str ts=>simp[T.sig]at t3
    |dict q t =>
     simp only[T.sig,List.cons.injEq,true_and]at t3
     exact .inr ⟨q,t,t1.1,t1.2,t2,by rw[t3]⟩
    |str ts=>simp[T.sig]at t3
 ·obtain⟨k,m,hm,hf,ht⟩:=vw x (by omega)
  have hj:dX.f (k+1) (bs x)=dX.j0 (k+1) (bs x) false:=by
   unfold dX.f
   by_cases h1:1<x.length
   ·rw[if_pos (by rw[aH];omega),if_pos (by rw[aH];omega)]
    cases x with
    |nil=>simp at h1
    |cons q r =>
     have h0:bt (bs (q::r)) 0=((q.toNat:Nat):Int):=qZ (q::r) 0 (by simp)
     rw[h0]
     congr 1
     rw[kS]
     intro e
     refine hq ⟨h1,?_⟩
     have:q=123:=UInt8.toNat_inj.1 (by have:=Int.ofNat.inj e;exact this)
     rw[this];rfl
   ·rw[if_neg (by rw[aH];omega)]
  by_cases hm0:m=0
  ·refine⟨k+1,⟨#[]⟩,⟨#[]⟩,false,?_,fun h=>nomatch h⟩
   rw[hj]
   simp only[dX.j0]
   rw[if_neg (by decide),hm]
   simp only[Option.bind_some]
   rw[if_pos (by omega)]
  ·refine⟨k+1,(bs x).extract 0 m,(bs x).extract m (bs x).size,true,?_,fun _ he=>?_⟩
   ·rw[hj]
    simp only[dX.j0]
    rw[if_neg (by decide),hm]
    simp only[Option.bind_some]
    rw[if_neg (by omega),if_pos (by omega),if_pos (by rw[aH];omega),Int.toNat_natCast]
   ·obtain⟨t,t1,t2,t3⟩:=ht (by omega)
    have hlen:x.length≤m:=by
     rw[nM,aH]at he
     have:=congrArg List.length (hz _ he)
     rw[List.length_take,List.length_drop,kW]at this
     omega
    rw[kT hlen]at t3
    exact .inl ⟨t,t1,t2,t3⟩
theorem o9 (l:List dS) (i:Nat) (h:i<l.length):aA l (i:Int)=l[i]:=by
 simp[aA,wC,gQ h]
theorem EM (i:Nat) (h:i≤100000000):wrap64 ((i:Int)+1)=((i+1:Nat):Int):=by unfold wrap64;omega
instance (k:UInt8):Decidable (kJ k):=by unfold kJ;infer_instance
theorem Po:∀k:UInt8,lM.f (k.toNat:Nat)=some (decide (kJ k)):=by
 intro k
 have h:∀n:Fin 256,lM.f ((UInt8.ofNat n.val).toNat:Nat)=some (decide (kJ (UInt8.ofNat n.val))):=by decide +kernel
 have:=h ⟨k.toNat,by simpa using k.toNat_lt⟩
 simpa using this
def lD (x:List UInt8):Prop:=∀(i:Nat) (h:i+1<x.length),x[i]=123→kJ x[i+1]
theorem Pq (x:List UInt8) (hl:x.length≤100000) (n:Nat):∀i:Nat,x.length-i≤n→i≤1000000→∃k r,bI.l0 k (bs x) (i:Int)=some r∧(r=true→∀(j:Nat) (h:j+1<x.length),i≤j→x[j]=123→kJ x[j+1]):=by
 induction n with
 |zero =>
  intro i h hi
  refine⟨1,true,?_,fun _ j hj hij=>by omega⟩
  simp only[bI.l0]
  rw[EM i (by omega),if_neg (by rw[aH];omega)]
 |succ n ih =>
  intro i h hi
  by_cases he:i+1<x.length
  ·obtain⟨k,r,h1,h2⟩:=ih (i+1) (by omega) (by omega)
   have hb:bt (bs x) (i:Int)=((x[i].toNat:Nat):Int):=qZ x i (by omega)
   have hb1:bt (bs x) ((i+1:Nat):Int)=((x[i+1].toNat:Nat):Int):=qZ x (i+1) he
   by_cases hc:x[i]=123
   ·by_cases hk:kJ x[i+1]
    ·refine⟨k+1,r,?_,fun hr j hj hij hx=>?_⟩
     ·simp only[bI.l0]
      rw[EM i (by omega),if_pos (by rw[aH];omega),if_pos (by omega),if_pos (by rw[aH];omega),hb,if_pos (by rw[hc];rfl),if_pos (by omega),hb1,Po,decide_eq_true hk]
      exact h1
     ·by_cases e:j=i
      ·subst e;exact hk
      ·exact h2 hr j hj (by omega) hx
    ·refine⟨1,false,?_,fun h=>nomatch h⟩
     simp only[bI.l0]
     rw[EM i (by omega),if_pos (by rw[aH];omega),if_pos (by omega),if_pos (by rw[aH];omega),hb,if_pos (by rw[hc];rfl),if_pos (by omega),hb1,Po,decide_eq_false hk]
     rfl
   ·refine⟨k+1,r,?_,fun hr j hj hij hx=>?_⟩
    ·simp only[bI.l0]
     rw[EM i (by omega),if_pos (by rw[aH];omega),if_pos (by omega),if_pos (by rw[aH];omega),hb,if_neg (fun h=>hc (UInt8.toNat_inj.1 (by have:=Int.ofNat.inj h;exact this)))]
     exact h1
    ·by_cases e:j=i
     ·subst e;exact absurd hx hc
     ·exact h2 hr j hj (by omega) hx
  ·refine⟨1,true,?_,fun _ j hj hij=>by omega⟩
   simp only[bI.l0]
   rw[EM i (by omega),if_neg (by rw[aH];omega)]
theorem YA (x:List UInt8) (hl:x.length≤100000):∃k r,bI.f k (bs x)=some r∧(r=true→lD x):=by
 obtain⟨k,r,h1,h2⟩:=Pq x hl _ 0 bW (by omega)
 exact⟨k,r,h1,fun hr j hj hx=>h2 hr j hj (jf _) hx⟩
mutual
def jh:dS→List UInt8
 |⟨k,_,s,l⟩=>if k=97 then 97::s.data.toList else if k=40 then 40::(iY l++[41])else if k=123 then 123::(iY l++[125])else[UInt8.ofNat k.toNat]
def iY:List dS→List UInt8
 |[]=>[]
 |a::l=>jh a++iY l
end
theorem lT (x:dS):jh x=if x.f0=97 then 97::x.f2.data.toList else if x.f0=40 then 40::(iY x.f3++[41])else if x.f0=123 then 123::(iY x.f3++[125])else[UInt8.ofNat x.f0.toNat]:=by cases x;rw[jh]
mutual
theorem acP:∀x:dS,(jh x).length≤jv x+2*kZ x
 |⟨k,_,s,l⟩=>by
  have:=yc l
  have hs:s.data.toList.length=s.size:=by rw[Array.length_toList];rfl
  rw[jh,jv,kZ]
  split
  ·simp only[d_,hs];omega
  split
  ·simp only[d_,dY,kW];omega
  split
  ·simp only[d_,dY,kW];omega
  ·simp only[d_,kW];omega
theorem yc:∀l:List dS,(iY l).length≤dJ l+2*eu l
 |[]=>bW
 |a::l=>by
  have:=acP a
  have:=yc l
  simp only[iY,dJ,eu,dY];omega
end
theorem iT:∀(l:List dS) (i:Nat) (h:i<l.length),kZ l[i]≤eu l
 |a::l,0,h=>by simp only[List.getElem_cons_zero,eu];omega
 |a::l,i+1,h=>by have:=iT l i (by simpa using h);simp only[List.getElem_cons_succ,eu];omega
theorem lH:∀(l:List dS) (i:Nat) (h:i<l.length),jv l[i]≤dJ l
 |a::l,0,h=>by simp only[List.getElem_cons_zero,dJ];omega
 |a::l,i+1,h=>by have:=lH l i (by simpa using h);simp only[List.getElem_cons_succ,dJ];omega
theorem xC (l:List dS) (i:Nat) (h:i<l.length):iY (l.drop i)=jh l[i]++iY (l.drop (i+1)):=by
 rw[List.drop_eq_getElem_cons h];rfl
theorem GZ (n:Nat):∀x:dS,kZ x≤n→jv x+2*kZ x≤1000000→∃k,aN.f k x.f0 x.f1 x.f2 x.f3=some (bs (jh x)):=by
 induction n with
 |zero=>intro x h;rw[iG]at h;omega
 |succ n ih =>
 intro x hn hb
 rw[iG]at hn hb
 rw[jF]at hb
 have hl:=fK x.f3
 have loop:∀(e:bG) (j i:Nat) (pre:List UInt8),x.f3.length-i≤j→i≤x.f3.length→e.size≤1→pre.length+(iY (x.f3.drop i)).length≤3000000 →
   ∃k,aN.l0 k e (bs pre) x.f3 (x.f3.length:Int) (i:Int)=some (bs (pre++iY (x.f3.drop i))++e):=by
  intro e j
  induction j with
  |zero =>
   intro i pre hj hi he hp
   have e1:i=x.f3.length:=by omega
   subst e1
   refine⟨1,?_⟩
   simp only[aN.l0]
   rw[if_neg (by omega),if_pos (by rw[aH];omega)]
   rw[List.drop_length];simp[iY]
  |succ j Ip =>
   intro i pre hj hi he hp
   by_cases hlt:i<x.f3.length
   ·have hc:=iT x.f3 i hlt
    have hbl:=lH x.f3 i hlt
    obtain⟨k1,h1⟩:=ih x.f3[i] (by omega) (by omega)
    rw[xC _ _ hlt,dY]at hp
    obtain⟨k2,h2⟩:=Ip (i+1) (pre++jh x.f3[i]) (by omega) (by omega) he (by rw[dY];omega)
    refine⟨max k1 k2+1,?_⟩
    simp only[aN.l0]
    rw[if_pos (by omega),if_pos (by omega),if_pos (by omega),o9 _ _ hlt,eY (F:=fun j=>aN.f j (x.f3[i]).f0 (x.f3[i]).f1 (x.f3[i]).f2 (x.f3[i]).f3) (fun j=>aN.mono _ _ _ _ j) (Nat.le_max_left k1 k2) h1]
    simp only[Option.bind_some]
    rw[if_pos (by rw[aH,aH];omega),EM i (by omega),dh]
    have h3:=eY (F:=fun j=>aN.l0 j e (bs (pre++jh x.f3[i])) x.f3 (x.f3.length:Int) ((i+1:Nat):Int)) (fun j=>(aN.dZ j).2.2.2 _ _ _ _ _) (Nat.le_max_right k1 k2) h2
    rw[xC _ _ hlt,←ni]
    exact h3
   ·have e1:i=x.f3.length:=by omega
    subst e1
    refine⟨1,?_⟩
    simp only[aN.l0]
    rw[if_neg (by omega),if_pos (by rw[aH];omega)]
    rw[List.drop_length];simp[iY]
 have hlen:=yc x.f3
 have hs2:x.f2.data.toList.length=x.f2.size:=by rw[Array.length_toList];rfl
 rw[lT]
 by_cases h97:x.f0=97
 ·refine⟨1,?_⟩
  simp only[aN.f]
  rw[if_pos h97,if_pos h97,if_pos (by omega)]
  congr 1
 rw[if_neg h97]
 by_cases NU:x.f0=40
 ·rw[if_pos NU]
  obtain⟨k,hk⟩:=loop ⟨#[41]⟩ _ 0 [40] bW (jf _) bW (by simp;omega)
  refine⟨k+3,?_⟩
  simp only[aN.f,aN.j0,aN.j1]
  rw[if_neg h97,if_pos NU,NU,if_pos (by rfl),if_neg (by decide)]
  rw[show strOfNums [40]=bs [40]from rfl]
  refine hk.trans ?_
  rw[List.drop_zero,show(⟨#[41]⟩:bG)=bs [41]from rfl,dh]
  rfl
 rw[if_neg NU]
 by_cases mP:x.f0=123
 ·rw[if_pos mP]
  obtain⟨k,hk⟩:=loop ⟨#[125]⟩ _ 0 [123] bW (jf _) bW (by simp;omega)
  refine⟨k+3,?_⟩
  simp only[aN.f,aN.j0,aN.j1]
  rw[if_neg h97,if_neg NU,mP,if_pos (by rfl),if_pos rfl]
  rw[show strOfNums [123]=bs [123]from rfl]
  refine hk.trans ?_
  rw[List.drop_zero,show(⟨#[125]⟩:bG)=bs [125]from rfl,dh]
  rfl
 rw[if_neg mP]
 refine⟨2,?_⟩
 simp only[aN.f,aN.j0]
 rw[if_neg h97,if_neg NU,if_neg (by simpa using mP)]
 rfl
end Go.Proofs.YtllcccekodcdmaaGreatDoor.Ms
