import Derived.Test.YtllcccekodcdmaaGreatDoorC22
set_option linter.unusedVariables false
set_option linter.unusedSimpArgs false
set_option maxRecDepth 100000
set_option maxHeartbeats 32000000
open Go.Proofs.Tryz
namespace Go.Proofs.YtllcccekodcdmaaGreatDoor.Ms
open Go Go.RowKit Go.Proofs.ak.aT Go.Proofs.ak.cO Go.Proofs.YtllcccekodcdmaaGreatDoor.bK
def o_ (x:jB) (l:List jB):List jB:=l.filter (fun y=>decide (y.f0<x.f0))++[x]++l.filter (fun y=>decide (x.f0<y.f0))
theorem aal {w W:World} {ok:Nat→Prop} {A:Option Addr} {xs:List jB} (h:Kd.F wG w ok A xs.length xs) (hb:Below w.heap.size w W) (i:Nat) (hi:i<xs.length):∃ad A4 c4,A=some ad∧W.cell? (ad.add (i*5))=some (.int .u8 (xs[i]).f0)∧W.cell? ⟨(ad.add (i*5)).block,(ad.add (i*5)).off+1,none⟩=some (.int .u8 (xs[i]).f1.f0)∧W.cell? ⟨(ad.add (i*5)).block,(ad.add (i*5)).off+2,none⟩=some (.int .u64 (xs[i]).f1.f1)∧W.cell? ⟨(ad.add (i*5)).block,(ad.add (i*5)).off+3,none⟩=some (.string (xs[i]).f1.f2)∧W.cell? ⟨(ad.add (i*5)).block,(ad.add (i*5)).off+4,none⟩=some (.slice A4 (xs[i]).f1.f3.length c4) ∧
  Kd.FK wG W (fun k=>ok k∧k<w.heap.size) xs[i] [.int .u8 (xs[i]).f0,.int .u8 (xs[i]).f1.f0,.int .u64 (xs[i]).f1.f1,.string (xs[i]).f1.f2,.slice A4 (xs[i]).f1.f3.length c4]:=by
 obtain⟨ad,A4,c4,e,h0,h1,h2,h3,h4,h5,h6⟩:=zK (Kd.ET h) hb i hi
 obtain⟨ad',c,e',hcl,hK,hcc,_⟩:=Kd.akq h z38 (i:Int) (by omega) (by omega)
 rw[e]at e'
 injection e' with e'
 subst e'
 have ex:xs.getD (i:Int).toNat z38=xs[i]:=by simp[wC,gQ hi]
 rw[ex]at hK
 obtain⟨A6,c6,rfl,h7,_⟩:=Ba (Kd.ES hK)
 have hc4:W.cell? (ad.add (i*5+4))=some (.slice A6 (xs[i]).f1.f3.length c6):=(hb.cell (fA w _ (hcc 4 _ rfl))).trans (hcc 4 _ rfl)
 have e4:ad.add (i*5+4)=⟨(ad.add (i*5)).block,(ad.add (i*5)).off+4,none⟩:=iE _ _ 4 (by omega)
 rw[e4,h4]at hc4
 injection dU hc4 with q1 _ q3
 subst q1 q3
 exact⟨ad,A4,c4,e,h0,h1,h2,h3,h4,Kd.xq (Kd.ER hK) (fun k hk _=>hb.block k hk.2)⟩
structure Wf (ok:Nat→Prop) (w wr:World) (b0 b1 b2:Obj) (v:Value) (l:List jB):Prop where
 b0:wr.heap[w.heap.size]?=some b0
 b1:wr.heap[w.heap.size+1]?=some b1
 b2:wr.heap[w.heap.size+1+1]?=some b2
 nn:Kd.N wG 38 wr w.heap.size (fun k=>(ok k∧k<w.heap.size)∨w.heap.size+3≤k) v l
 eX:Below w.heap.size w wr
theorem Wf.old {ok:Nat→Prop} {w wr W:World} {b0 b1 b2:Obj} {v:Value} {l:List jB} (h:Wf ok w wr b0 b1 b2 v l) (hb:Below wr.heap.size wr W):Wf ok w W b0 b1 b2 v l :=
 ⟨(hb.block _ (lt_of_block h.b0)).trans h.b0,(hb.block _ (lt_of_block h.b1)).trans h.b1,(hb.block _ (lt_of_block h.b2)).trans h.b2,Kd.J9 h.nn hb,h.eX.trans (hb.mono h.eX.size)⟩
theorem Wf.app {ok:Nat→Prop} {w wr W w1:World} {b0 b1 b2:Obj} {v v1:Value} {l l1:List jB} (h:Wf ok w wr b0 b1 b2 v l) (hb:Below wr.heap.size wr W) (hn:Kd.N wG 38 w1 w.heap.size (fun k=>(ok k∧k<w.heap.size)∨w.heap.size+3≤k) v1 l1) (hg:W.grownBy w1 v.ownBlock):Wf ok w w1 b0 b1 b2 v1 l1:=by
 have hW:=h.old hb
 have hown:∀k,v.ownBlock=some k→w.heap.size+3≤k:=fun k hk=>by
  have h1:=Kd.EX h.nn k hk
  rcases h.nn.1 k hk with h2|h2
  ·have:=h2.2;omega
  ·exact h2
 have hk:∀k o,k<w.heap.size+3→W.heap[k]?=some o→w1.heap[k]?=some o:=fun k o hlt ho=>(hg.block k (lt_of_block ho) (fun e=>by have:=hown k e.symm;omega)).trans ho
 exact⟨hk _ _ (by omega) hW.b0,hk _ _ (by omega) hW.b1,hk _ _ (by omega) hW.b2,hn,hW.eX.grown hg hW.eX.size (fun k hk=>by have:=hown k hk;omega)⟩
theorem Wf.lt {ok:Nat→Prop} {w wr:World} {b0 b1 b2:Obj} {v:Value} {l:List jB} (h:Wf ok w wr b0 b1 b2 v l):w.heap.size+3≤wr.heap.size:=by have:=lt_of_block h.b2;omega
theorem Nr {ok:Nat→Prop} (t f s:Int) (fs:List jB) (A1 A2:Option Addr) (c1 n2 c2:Nat) (x:jB) (A5:Option Addr) (c5:Nat) (w:World) (h1:Kd.F wG w ok A1 fs.length fs) (hl:fs.length≤1000) (h5:Kd.F qx w ok A5 x.f1.f3.length x.f1.f3) (hc5:x.f1.f3.length≤c5) :
  Calls prog 15 #[.agg #[.int .u8 t,.int .u8 f,.int .u32 s,.slice A1 fs.length c1,.slice A2 n2 c2],.agg #[.int .u8 x.f0,.int .u8 x.f1.f0,.int .u64 x.f1.f1,.string x.f1.f2,.slice A5 x.f1.f3.length c5]] w fun e w' =>
   ∃A' c',e=.returned (.agg #[.int .u8 t,.int .u8 f,.int .u32 s,.slice A' (o_ x fs).length c',.slice A2 n2 c2])∧(o_ x fs).length≤c'∧Kd.F wG w' (fun k=>(ok k∧k<w.heap.size)∨w.heap.size+3≤k) A' (o_ x fs).length (o_ x fs)∧Below w.heap.size w w':=by
 have HN:=ah (show ∀(W:World) (hb:Below w.heap.size w W) (i:Nat) (hi:i<fs.length),_ from fun W hb i hi=>aal h1 hb i hi)
 have HX:=ah (fun W (hb:Below w.heap.size w W)=>(Kd.xq (Kd.ER (afI w ok x hc5 h5)) (fun k hk _=>hb.block k hk.2):Kd.FK wG W (fun k=>ok k∧k<w.heap.size) x [.int .u8 x.f0,.int .u8 x.f1.f0,.int .u64 x.f1.f1,.string x.f1.f2,.slice A5 x.f1.f3.length c5]))
 obtain⟨n1,hn1⟩:∃n1,fs.length=n1:=⟨_,rfl⟩
 have B_:=ah hn1
 rw[hn1]at hl ⊢
 clear h1 hn1 h5
 go_enter func15,ntmps15
 go_wp2
 have WF:=ah (⟨aQ (aQ (aV w _ _ rfl) _) _,aQ (aV (w.alloc _) _ _ (by simp)) _,aV (w.alloc _ |>.alloc _) _ _ (by simp),Kd.Z5 _ _ _ _ _,(((jM w).alloc bW _).alloc (by simp) _).alloc (by simp;omega) _⟩:Wf ok w (((w.alloc (.cells #[.int .u8 t,.int .u8 f,.int .u32 s,.slice A1 n1 c1,.slice A2 n2 c2] 26 (0,0))).alloc (.cells #[.int .u8 x.f0,.int .u8 x.f1.f0,.int .u64 x.f1.f1,.string x.f1.f2,.slice A5 x.f1.f3.length c5] 38 (0,0))).alloc (.cells #[.int .u8 0,.int .u8 0,.int .u32 0,.slice none 0 0,.slice none 0 0] 26 (0,0))) (.cells #[.int .u8 t,.int .u8 f,.int .u32 s,.slice A1 n1 c1,.slice A2 n2 c2] 26 (0,0)) (.cells #[.int .u8 x.f0,.int .u8 x.f1.f0,.int .u64 x.f1.f1,.string x.f1.f2,.slice A5 x.f1.f3.length c5] 38 (0,0)) (.cells #[.int .u8 0,.int .u8 0,.int .u32 0,.slice none 0 0,.slice none 0 0] 26 (0,0)) (.slice none 0 0) [])
 go_loopw [5,13] (fun v5 v13 wr=>∃(k:Nat),k≤n1∧v13=.int .i64 (k:Nat)∧aj (Wf ok w wr (.cells #[.int .u8 t,.int .u8 f,.int .u32 s,.slice A1 n1 c1,.slice A2 n2 c2] 26 (0,0)) (.cells #[.int .u8 x.f0,.int .u8 x.f1.f0,.int .u64 x.f1.f1,.string x.f1.f2,.slice A5 x.f1.f3.length c5] 38 (0,0)) (.cells #[.int .u8 0,.int .u8 0,.int .u32 0,.slice none 0 0,.slice none 0 0] 26 (0,0)) v5 ((fs.take k).filter (fun y=>decide (y.f0<x.f0))))) (fun _ v13 _=>n1-(intOf v13).toNat)
 case atStart=>exact⟨0,jf _,rfl,⟨by first|exact WF.o|(simpa using WF.o)⟩⟩
 case round =>
  clear WF
  obtain⟨k,hk,rfl,HR0⟩:=hrel
  have WF:=ah HR0.o
  clear HR0
  have e0:=au WF.o.b1 0 (v:=.int .u8 x.f0) rfl
  by_cases hlt:k<n1
  ·have hd:decide ((k:Int)<(n1:Int))=true:=by simp;omega
   have hk9:k+1≤1001:=by omega
   have hkv:k<fs.length:=by have:=B_.o;omega
   obtain⟨ad,A4,c4,hA,h0,h1,h2,h3,h4,h6⟩:=HN.o wr WF.o.eX k hkv
   subst hA
   have HK:=ah h6
   have HT:=ah (lu hkv)
   have Ed:=ah (by have:=List.length_filter_le (fun y=>decide (y.f0<x.f0)) (fs.take k);have:=List.length_filter_le (fun y=>decide (y.f0<x.f0)) fs;have:=List.length_take_le k fs;have:=B_.o;first|omega|(simp only[dY,d_,kW];omega):((fs.take k).filter (fun y=>decide (y.f0<x.f0))).length≤2001)
   generalize fs[k]=y at *
   clear h6
   have e1:=au (aQ WF.o.b1 (.cells #[.int .u8 y.f0,.int .u8 y.f1.f0,.int .u64 y.f1.f1,.string y.f1.f2,.slice A4 y.f1.f3.length c4] 38)) 0 (v:=.int .u8 x.f0) rfl
   by_cases he:y.f0<x.f0
   ·have hq:decide (y.f0<x.f0)=true:=by simpa using he
    have HE:=ah (by rw[HT.o,List.filter_append];simp[he]:(fs.take (k+1)).filter (fun y=>decide (y.f0<x.f0))=((fs.take k).filter (fun y=>decide (y.f0<x.f0)))++[y])
    clear HT he
    go_wp2_with ((with_reducible refine jH (b:=.append) (xs:=#[.tmp 22,.tmp 24]) rfl ?_);at_builtin;go_loud (refine Kd.zD wG (w0:=w) w.heap.size rfl (.tmp 22) (.tmp 24) 23 38 (.agg #[(.int .u8 0),(.int .u8 0),(.int .u64 0),(.string ⟨#[]⟩),(.slice none 0 0)]) 64 rfl underlying23 SS rfl (by decide) (by decide) u5 ((fs.take k).filter (fun y=>decide (y.f0<x.f0))) y [.int .u8 y.f0,.int .u8 y.f1.f0,.int .u64 y.f1.f1,.string y.f1.f2,.slice A4 y.f1.f3.length c4] (fun k=>(ok k∧k<w.heap.size)∨w.heap.size+3≤k) (fun k=>ok k∧k<w.heap.size) rfl (by simp[Act.eval]) (Kd.xq HK.o (fun k _ hlt=>kN _ _ _ hlt)) (fun k hk=>⟨.inl hk,fun e=>by have:=Kd.EX WF.o.nn k e.symm;have:=hk.2;omega⟩) (fun k hk=>.inr (by have:=WF.o.lt;simp at hk;omega)) (Kd.J8 WF.o.nn _) (WF.o.eX.trans ((gG _).mono WF.o.eX.size)) (by have:=WF.o.eX.size;simp;omega) (by have:=Ed.o;omega) ?_);intro v1 w1 hN1 _ hg1 _;have WF1:=ah (WF.o.app (gG _) hN1 hg1);clear hN1 hg1)
    go_roundw
    case rel=>exact⟨k+1,hlt,by go_num,⟨by rw[HE.o];exact WF1.o⟩⟩
    case measure=>simp[intOf];omega
   ·have hq:decide (y.f0<x.f0)=false:=by simpa using he
    have HE:=ah (by rw[HT.o,List.filter_append];simp[he]:(fs.take (k+1)).filter (fun y=>decide (y.f0<x.f0))=(fs.take k).filter (fun y=>decide (y.f0<x.f0)))
    clear HT he
    go_wp2
    go_roundw
    case rel=>exact⟨k+1,hlt,by go_num,⟨by rw[HE.o];exact WF.o.old (gG _)⟩⟩
    case measure=>simp[intOf];omega
  ·have hd:decide ((k:Int)<(n1:Int))=false:=by simp;omega
   have SB:fs.take k=fs:=kT (by have:=B_.o;omega)
   rw[SB]at WF
   obtain⟨wo,rfl⟩:∃wo:World,wo=wr:=⟨_,rfl⟩
   have g0:=au WF.o.b1 0 (v:=.int .u8 x.f0) rfl
   have g1:=au WF.o.b1 1 (v:=.int .u8 x.f1.f0) rfl
   have g2:=au WF.o.b1 2 (v:=.int .u64 x.f1.f1) rfl
   have g3:=au WF.o.b1 3 (v:=.string x.f1.f2) rfl
   have g4:=au WF.o.b1 4 (v:=.slice A5 x.f1.f3.length c5) rfl
   have Ed:=ah (by have:=List.length_filter_le (fun y=>decide (y.f0<x.f0)) fs;have:=B_.o;omega:(fs.filter (fun y=>decide (y.f0<x.f0))).length≤2001)
   clear SB e0
   go_wp2_with ((with_reducible refine jH (b:=.append) (xs:=#[.tmp 27,.tmp 29]) rfl ?_);at_builtin;go_loud (refine Kd.zD wG (w0:=w) w.heap.size rfl (.tmp 27) (.tmp 29) 23 38 (.agg #[(.int .u8 0),(.int .u8 0),(.int .u64 0),(.string ⟨#[]⟩),(.slice none 0 0)]) 64 rfl underlying23 SS rfl (by decide) (by decide) u5 (fs.filter (fun y=>decide (y.f0<x.f0))) x [.int .u8 x.f0,.int .u8 x.f1.f0,.int .u64 x.f1.f1,.string x.f1.f2,.slice A5 x.f1.f3.length c5] (fun k=>(ok k∧k<w.heap.size)∨w.heap.size+3≤k) (fun k=>ok k∧k<w.heap.size) rfl (by simp[Act.eval]) (HX.o _ WF.o.eX) (fun k hk=>⟨.inl hk,fun e=>by have:=Kd.EX WF.o.nn k e.symm;have:=hk.2;omega⟩) (fun k hk=>.inr (by have:=WF.o.lt;omega)) WF.o.nn WF.o.eX (by have:=WF.o.eX.size;omega) (by have:=Ed.o;omega) ?_);intro v1 w1 hN1 _ hg1 _;have WF1:=ah (WF.o.app jc hN1 hg1);have k3:=au WF1.o.b0 3 (v:=.slice A1 n1 c1) rfl;clear hN1 hg1)
   clear g0 g1 g2 g3 g4 Ed WF
   have WF:=WF1
   clear WF1
   go_loopw [5,34] (fun v5 v34 wr=>∃(k:Nat),k≤n1∧v34=.int .i64 (k:Nat)∧aj (Wf ok w wr (.cells #[.int .u8 t,.int .u8 f,.int .u32 s,.slice A1 n1 c1,.slice A2 n2 c2] 26 (0,0)) (.cells #[.int .u8 x.f0,.int .u8 x.f1.f0,.int .u64 x.f1.f1,.string x.f1.f2,.slice A5 x.f1.f3.length c5] 38 (0,0)) (.cells #[.int .u8 0,.int .u8 0,.int .u32 0,.slice none 0 0,.slice none 0 0] 26 (0,0)) v5 ((fs.filter (fun y=>decide (y.f0<x.f0))++[x])++(fs.take k).filter (fun y=>decide (x.f0<y.f0))))) (fun _ v34 _=>n1-(intOf v34).toNat)
   case atStart=>exact⟨0,jf _,rfl,⟨by first|exact WF.o|(simpa using WF.o)⟩⟩
   case round =>
    clear WF
    obtain⟨k,hk,rfl,HR0⟩:=hrel
    have WF:=ah HR0.o
    clear HR0
    have e0:=au WF.o.b1 0 (v:=.int .u8 x.f0) rfl
    by_cases hlt:k<n1
    ·have hd:decide ((k:Int)<(n1:Int))=true:=by simp;omega
     have hk9:k+1≤1001:=by omega
     have hkv:k<fs.length:=by have:=B_.o;omega
     obtain⟨ad,A4,c4,hA,h0,h1,h2,h3,h4,h6⟩:=HN.o wr WF.o.eX k hkv
     subst hA
     have HK:=ah h6
     have HT:=ah (lu hkv)
     have Ed:=ah (by have:=List.length_filter_le (fun y=>decide (x.f0<y.f0)) (fs.take k);have:=List.length_filter_le (fun y=>decide (y.f0<x.f0)) fs;have:=List.length_take_le k fs;have:=B_.o;first|omega|(simp only[dY,d_,kW];omega):((fs.filter (fun y=>decide (y.f0<x.f0))++[x])++(fs.take k).filter (fun y=>decide (x.f0<y.f0))).length≤2001)
     generalize fs[k]=y at *
     clear h6
     have e1:=au (aQ WF.o.b1 (.cells #[.int .u8 y.f0,.int .u8 y.f1.f0,.int .u64 y.f1.f1,.string y.f1.f2,.slice A4 y.f1.f3.length c4] 38)) 0 (v:=.int .u8 x.f0) rfl
     by_cases he:x.f0<y.f0
     ·have hq:decide (x.f0<y.f0)=true:=by simpa using he
      have HE:=ah (by rw[HT.o,List.filter_append];simp[he,ni]:(fs.filter (fun y=>decide (y.f0<x.f0))++[x])++(fs.take (k+1)).filter (fun y=>decide (x.f0<y.f0))=((fs.filter (fun y=>decide (y.f0<x.f0))++[x])++(fs.take k).filter (fun y=>decide (x.f0<y.f0)))++[y])
      clear HT he
      go_wp2_with ((with_reducible refine jH (b:=.append) (xs:=#[.tmp 43,.tmp 45]) rfl ?_);at_builtin;go_loud (refine Kd.zD wG (w0:=w) w.heap.size rfl (.tmp 43) (.tmp 45) 23 38 (.agg #[(.int .u8 0),(.int .u8 0),(.int .u64 0),(.string ⟨#[]⟩),(.slice none 0 0)]) 64 rfl underlying23 SS rfl (by decide) (by decide) u5 ((fs.filter (fun y=>decide (y.f0<x.f0))++[x])++(fs.take k).filter (fun y=>decide (x.f0<y.f0))) y [.int .u8 y.f0,.int .u8 y.f1.f0,.int .u64 y.f1.f1,.string y.f1.f2,.slice A4 y.f1.f3.length c4] (fun k=>(ok k∧k<w.heap.size)∨w.heap.size+3≤k) (fun k=>ok k∧k<w.heap.size) rfl (by simp[Act.eval]) (Kd.xq HK.o (fun k _ hlt=>kN _ _ _ hlt)) (fun k hk=>⟨.inl hk,fun e=>by have:=Kd.EX WF.o.nn k e.symm;have:=hk.2;omega⟩) (fun k hk=>.inr (by have:=WF.o.lt;simp at hk;omega)) (Kd.J8 WF.o.nn _) (WF.o.eX.trans ((gG _).mono WF.o.eX.size)) (by have:=WF.o.eX.size;simp;omega) (by have:=Ed.o;omega) ?_);intro v1 w1 hN1 _ hg1 _;have WF1:=ah (WF.o.app (gG _) hN1 hg1);clear hN1 hg1)
      go_roundw
      case rel=>exact⟨k+1,hlt,by go_num,⟨by rw[HE.o];exact WF1.o⟩⟩
      case measure=>simp[intOf];omega
     ·have hq:decide (x.f0<y.f0)=false:=by simpa using he
      have HE:=ah (by rw[HT.o,List.filter_append];simp[he,ni]:(fs.filter (fun y=>decide (y.f0<x.f0))++[x])++(fs.take (k+1)).filter (fun y=>decide (x.f0<y.f0))=(fs.filter (fun y=>decide (y.f0<x.f0))++[x])++(fs.take k).filter (fun y=>decide (x.f0<y.f0)))
      clear HT he
      go_wp2
      go_roundw
      case rel=>exact⟨k+1,hlt,by go_num,⟨by rw[HE.o];exact WF.o.old (gG _)⟩⟩
      case measure=>simp[intOf];omega
    ·have hd:decide ((k:Int)<(n1:Int))=false:=by simp;omega
     have SB:fs.take k=fs:=kT (by have:=B_.o;omega)
     rw[SB]at WF
     obtain⟨A',c',rfl,hlc,hC⟩:=Kd.Uy WF.o.nn
     have HF:=ah (Kd.N_F WF.o.nn)
     have B0:=ah WF.o.b0
     have B2:=ah WF.o.b2
     have HB:=ah WF.o.eX
     obtain⟨m,hm⟩:∃m,((fs.filter (fun y=>decide (y.f0<x.f0))++[x])++fs.filter (fun y=>decide (x.f0<y.f0))).length=m:=⟨_,rfl⟩
     have HM:=ah (show(o_ x fs).length=m from hm)
     rw[hm]at hlc ⊢
     clear WF hC
     have HF:=ah (by have h:=HF.o;rw[hm]at h;exact h)
     clear hm
     have r0:=au B0.o 0 (v:=.int .u8 t) rfl
     have r1:=au B0.o 1 (v:=.int .u8 f) rfl
     have r2:=au B0.o 2 (v:=.int .u32 s) rfl
     have r3:=au B0.o 3 (v:=.slice A1 n1 c1) rfl
     have r4:=au B0.o 4 (v:=.slice A2 n2 c2) rfl
     have q0:=aI B0.o 3
     have z0:=au B2.o 0 (v:=.int .u8 0) rfl
     have z1:=au B2.o 1 (v:=.int .u8 0) rfl
     have z2:=au B2.o 2 (v:=.int .u32 0) rfl
     have z3:=au B2.o 3 (v:=.slice none 0 0) rfl
     have z4:=au B2.o 4 (v:=.slice none 0 0) rfl
     have p0:=aI B2.o 0
     have p1:=aI B2.o 1
     have p2:=aI B2.o 2
     have p3:=aI B2.o 3
     have p4:=aI B2.o 4
     go_wp2
     have HB2:=ah ((((((HB.o.setCell (p:=⟨w.heap.size,3,none⟩) bW (.slice A' m c')).setCell (p:=⟨w.heap.size+1+1,0,none⟩) (by simp;omega) (.int .u8 t)).setCell (p:=⟨w.heap.size+1+1,1,none⟩) (by simp;omega) (.int .u8 f)).setCell (p:=⟨w.heap.size+1+1,2,none⟩) (by simp;omega) (.int .u32 s)).setCell (p:=⟨w.heap.size+1+1,3,none⟩) (by simp;omega) (.slice A' m c')).setCell (p:=⟨w.heap.size+1+1,4,none⟩) (by simp;omega) (.slice A2 n2 c2))
     have kq:=Joins.block_setCell (Joins.block_setCell (Joins.block_setCell (Joins.block_setCell (Joins.block_setCell ((ku wr ⟨w.heap.size,3,none⟩ (.slice A' m c') (w.heap.size+1+1) (by simp;omega)).trans B2.o) (i:=0) (.int .u8 t)) (i:=1) (.int .u8 f)) (i:=2) (.int .u32 s)) (i:=3) (.slice A' m c')) (i:=4) (.slice A2 n2 c2)
     have HF2:=ah (Kd.qA (Kd.qA (Kd.qA (Kd.qA (Kd.qA (Kd.qA HF.o (p:=⟨w.heap.size,3,none⟩) (fun k hk=>by rcases hk with hk|hk<;>simp<;>omega) (.slice A' m c')) (p:=⟨w.heap.size+1+1,0,none⟩) (fun k hk=>by rcases hk with hk|hk<;>simp<;>omega) (.int .u8 t)) (p:=⟨w.heap.size+1+1,1,none⟩) (fun k hk=>by rcases hk with hk|hk<;>simp<;>omega) (.int .u8 f)) (p:=⟨w.heap.size+1+1,2,none⟩) (fun k hk=>by rcases hk with hk|hk<;>simp<;>omega) (.int .u32 s)) (p:=⟨w.heap.size+1+1,3,none⟩) (fun k hk=>by rcases hk with hk|hk<;>simp<;>omega) (.slice A' m c')) (p:=⟨w.heap.size+1+1,4,none⟩) (fun k hk=>by rcases hk with hk|hk<;>simp<;>omega) (.slice A2 n2 c2))
     generalize ((((((wr.setCell ⟨w.heap.size,3,none⟩ (.slice A' m c')).setCell ⟨w.heap.size+1+1,0,none⟩ (.int .u8 t)).setCell ⟨w.heap.size+1+1,1,none⟩ (.int .u8 f)).setCell ⟨w.heap.size+1+1,2,none⟩ (.int .u32 s)).setCell ⟨w.heap.size+1+1,3,none⟩ (.slice A' m c')).setCell ⟨w.heap.size+1+1,4,none⟩ (.slice A2 n2 c2))=W at kq HB2 HF2 ⊢
     have y0:=au kq 0 (v:=.int .u8 t) rfl
     have y1:=au kq 1 (v:=.int .u8 f) rfl
     have y2:=au kq 2 (v:=.int .u32 s) rfl
     have y3:=au kq 3 (v:=.slice A' m c') rfl
     have y4:=au kq 4 (v:=.slice A2 n2 c2) rfl
     refine iW (v:=.agg #[.int .u8 t,.int .u8 f,.int .u32 s,.slice A' m c',.slice A2 n2 c2]) (by simp[results,results15,go_sem,y0,y1,y2,y3,y4]) rfl ⟨A',c',by rw[HM.o],by rw[HM.o];exact hlc,by rw[HM.o];exact HF2.o,HB2.o⟩
theorem Zw (x:jB) (l:List jB):(o_ x l).length≤l.length+1:=by
 have h:∀l:List jB,(l.filter (fun y=>decide (y.f0<x.f0))).length+(l.filter (fun y=>decide (x.f0<y.f0))).length≤l.length:=by
  intro l
  induction l with
  |nil=>simp
  |cons y l ih =>
   simp only[List.filter_cons]
   by_cases h1:y.f0<x.f0
   ·have h2:¬x.f0<y.f0:=by omega
    simp[h1,h2];omega
   ·by_cases h2:x.f0<y.f0
    ·simp[h1,h2];omega
    ·simp[h1,h2];omega
 have:=h l
 simp only[o_,dY,d_,kW]
 omega
def dF (fs:List jB):List jB:=fs.foldl (fun acc x=>o_ x acc) []
theorem vN (l:List jB) (x:jB):dF (l++[x])=o_ x (dF l):=by simp[dF]
theorem sQ (l:List jB):(dF l).length≤l.length:=by
 have:∀(l acc:List jB),(l.foldl (fun acc x=>o_ x acc) acc).length≤acc.length+l.length:=by
  intro l
  induction l with
  |nil=>intro acc;simp
  |cons x l ih=>intro acc;have:=ih (o_ x acc);have:=Zw x acc;simp only[List.foldl_cons,d_];omega
 have:=this l []
 simpa[dF]using this
structure Sd (ok:Nat→Prop) (w wr:World) (t f s:Int) (A':Option Addr) (m c':Nat) (v4:Value) (l:List jB):Prop where
 b2:wr.heap[w.heap.size+1]?=some (.cells #[.int .u8 0,.int .u8 0,.int .u32 0,.slice none 0 0,.slice none 0 0] 26 (0,0))
 b3:wr.heap[w.heap.size+1+1]?=some (.cells #[.int .u8 t,.int .u8 f,.int .u32 s,.slice A' m c',v4] 26 (0,0))
 ff:Kd.F wG wr (fun k=>(ok k∧k<w.heap.size)∨w.heap.size+3≤k) A' m l
 mm:l.length=m
 le:m≤c'
 eX:Below w.heap.size w wr
theorem Sd.old {ok:Nat→Prop} {w wr W:World} {t f s:Int} {A':Option Addr} {m c':Nat} {v4:Value} {l:List jB} (h:Sd ok w wr t f s A' m c' v4 l) (hb:Below wr.heap.size wr W):Sd ok w W t f s A' m c' v4 l :=
 ⟨(hb.block _ (lt_of_block h.b2)).trans h.b2,(hb.block _ (lt_of_block h.b3)).trans h.b3,Kd.xu h.ff hb,h.mm,h.le,h.eX.trans (hb.mono h.eX.size)⟩
theorem Sd.set {ok:Nat→Prop} {w wr:World} {t f s:Int} {A' A6:Option Addr} {m c' m6 c6:Nat} {v4:Value} {l l6:List jB} (h:Sd ok w wr t f s A' m c' v4 l) (hf:Kd.F wG wr (fun k=>(ok k∧k<w.heap.size)∨w.heap.size+3≤k) A6 m6 l6) (hm:l6.length=m6) (hle:m6≤c6) :
  Sd ok w (((((wr.setCell ⟨w.heap.size+1+1,0,none⟩ (.int .u8 t)).setCell ⟨w.heap.size+1+1,1,none⟩ (.int .u8 f)).setCell ⟨w.heap.size+1+1,2,none⟩ (.int .u32 s)).setCell ⟨w.heap.size+1+1,3,none⟩ (.slice A6 m6 c6)).setCell ⟨w.heap.size+1+1,4,none⟩ v4) t f s A6 m6 c6 v4 l6:=by
 have hne:∀k:Nat,(ok k∧k<w.heap.size)∨w.heap.size+3≤k→k≠w.heap.size+1+1:=fun k hk=>by
  rcases hk with hk|hk
  ·have:=hk.2;omega
  ·omega
 refine⟨?_,Joins.block_setCell (Joins.block_setCell (Joins.block_setCell (Joins.block_setCell (Joins.block_setCell h.b3 (i:=0) (.int .u8 t)) (i:=1) (.int .u8 f)) (i:=2) (.int .u32 s)) (i:=3) (.slice A6 m6 c6)) (i:=4) v4,?_,hm,hle,?_⟩
 ·exact(ku _ _ _ _ (by simp)).trans ((ku _ _ _ _ (by simp)).trans ((ku _ _ _ _ (by simp)).trans ((ku _ _ _ _ (by simp)).trans ((ku _ _ _ _ (by simp)).trans h.b2))))
 ·exact Kd.qA (Kd.qA (Kd.qA (Kd.qA (Kd.qA hf (p:=⟨w.heap.size+1+1,0,none⟩) hne _) (p:=⟨w.heap.size+1+1,1,none⟩) hne _) (p:=⟨w.heap.size+1+1,2,none⟩) hne _) (p:=⟨w.heap.size+1+1,3,none⟩) hne _) (p:=⟨w.heap.size+1+1,4,none⟩) hne _
 ·exact((((h.eX.setCell (p:=⟨w.heap.size+1+1,0,none⟩) (by simp;omega) _).setCell (p:=⟨w.heap.size+1+1,1,none⟩) (by simp;omega) _).setCell (p:=⟨w.heap.size+1+1,2,none⟩) (by simp;omega) _).setCell (p:=⟨w.heap.size+1+1,3,none⟩) (by simp;omega) _).setCell (p:=⟨w.heap.size+1+1,4,none⟩) (by simp;omega) _
theorem JE {ok:Nat→Prop} (t f s:Int) (fs:List jB) (A1 A2:Option Addr) (c1 n2 c2:Nat) (w:World) (h1:Kd.F wG w ok A1 fs.length fs) (hl:fs.length≤900) :
  Calls prog 6 #[.agg #[.int .u8 t,.int .u8 f,.int .u32 s,.slice A1 fs.length c1,.slice A2 n2 c2]] w fun e w' =>
   ∃A' c',e=.returned (.agg #[.int .u8 t,.int .u8 f,.int .u32 s,.slice A' (dF fs).length c',.slice A2 n2 c2])∧(dF fs).length≤c'∧Kd.F wG w' (fun k=>(ok k∧k<w.heap.size)∨w.heap.size+3≤k) A' (dF fs).length (dF fs)∧Below w.heap.size w w':=by
 have HN:=ah (show ∀(W:World) (hb:Below w.heap.size w W) (i:Nat) (hi:i<fs.length),_ from fun W hb i hi=>aal h1 hb i hi)
 obtain⟨n1,hn1⟩:∃n1,fs.length=n1:=⟨_,rfl⟩
 have B_:=ah hn1
 rw[hn1]at hl ⊢
 clear h1 hn1
 go_enter func6,ntmps6
 go_wp2
 have SD:=ah (⟨aQ (aV (w.alloc _) _ _ (by simp)) _,aV (w.alloc _ |>.alloc _) _ _ (by simp),Kd.akr _ _ _,rfl,bW,(((jM w).alloc bW _).alloc (by simp) _).alloc (by simp;omega) _⟩:Sd ok w (((w.alloc (.cells #[.int .u8 t,.int .u8 f,.int .u32 s,.slice A1 n1 c1,.slice A2 n2 c2] 26)).alloc (.cells #[.int .u8 0,.int .u8 0,.int .u32 0,.slice none 0 0,.slice none 0 0] 26)).alloc (.cells #[.int .u8 t,.int .u8 f,.int .u32 s,.slice none 0 0,.slice A2 n2 c2] 26)) t f s none 0 0 (.slice A2 n2 c2) (dF []))
 go_loopw [11] (fun v11 wr=>∃(k:Nat) (A':Option Addr) (m c':Nat),k≤n1∧v11=.int .i64 (k:Nat)∧aj (Sd ok w wr t f s A' m c' (.slice A2 n2 c2) (dF (fs.take k)))) (fun v11 _=>n1-(intOf v11).toNat)
 case atStart=>exact⟨0,_,_,_,jf _,rfl,⟨SD.o⟩⟩
 case round =>
  clear SD
  obtain⟨k,A',m,c',hk,rfl,HR0⟩:=hrel
  have SD:=ah HR0.o
  clear HR0
  have r0:=au SD.o.b3 0 (v:=.int .u8 t) rfl
  have r1:=au SD.o.b3 1 (v:=.int .u8 f) rfl
  have r2:=au SD.o.b3 2 (v:=.int .u32 s) rfl
  have r3:=au SD.o.b3 3 (v:=.slice A' m c') rfl
  have r4:=au SD.o.b3 4 (v:=.slice A2 n2 c2) rfl
  by_cases hlt:k<n1
  ·have hd:decide ((k:Int)<(n1:Int))=true:=by simp;omega
   have hk9:k+1≤1001:=by omega
   have hkv:k<fs.length:=by have:=B_.o;omega
   obtain⟨ad,A4,c4,hA,h0,h1,h2,h3,h4,h6⟩:=HN.o wr SD.o.eX k hkv
   subst hA
   obtain⟨A7,c7,e7,h7,hF7⟩:=Yy h6
   have e8:A7=A4∧c7=c4:=by
    have:=congrArg (fun l=>l[4]?) e7
    simp at this
    exact⟨this.1.symm,this.2.symm⟩
   obtain⟨rfl,rfl⟩:=e8
   have HT:=ah (by rw[lu hkv,vN]:dF (fs.take (k+1))=o_ fs[k] (dF (fs.take k)))
   have hml:=SD.o.mm
   have hm9:(dF (fs.take k)).length≤1000:=by have:=sQ (fs.take k);have:=List.length_take_le k fs;omega
   have WF:=ah (fun (W:World) (hb:Below wr.heap.size wr W)=>Nr (ok:=fun k=>(ok k∧k<w.heap.size)∨w.heap.size+3≤k) t f s (dF (fs.take k)) A' A2 c' n2 c2 fs[k] A7 c7 W (by rw[hml];exact Kd.xu SD.o.ff hb) hm9 (Kd.xu (Kd.ZM hF7 (fun k hk=>.inl hk)) hb) h7)
   rw[hml]at WF
   generalize fs[k]=y at *
   generalize dF (fs.take k)=l at *
   clear h6 hF7 e7 hml hm9
   have k0:=au (aQ SD.o.b3 (.cells #[.int .u8 y.f0,.int .u8 y.f1.f0,.int .u64 y.f1.f1,.string y.f1.f2,.slice A7 y.f1.f3.length c7] 38)) 0 (v:=.int .u8 t) rfl
   have k1:=au (aQ SD.o.b3 (.cells #[.int .u8 y.f0,.int .u8 y.f1.f0,.int .u64 y.f1.f1,.string y.f1.f2,.slice A7 y.f1.f3.length c7] 38)) 1 (v:=.int .u8 f) rfl
   have k2:=au (aQ SD.o.b3 (.cells #[.int .u8 y.f0,.int .u8 y.f1.f0,.int .u64 y.f1.f1,.string y.f1.f2,.slice A7 y.f1.f3.length c7] 38)) 2 (v:=.int .u32 s) rfl
   have k3:=au (aQ SD.o.b3 (.cells #[.int .u8 y.f0,.int .u8 y.f1.f0,.int .u64 y.f1.f1,.string y.f1.f2,.slice A7 y.f1.f3.length c7] 38)) 3 (v:=.slice A' m c') rfl
   have k4:=au (aQ SD.o.b3 (.cells #[.int .u8 y.f0,.int .u8 y.f1.f0,.int .u64 y.f1.f1,.string y.f1.f2,.slice A7 y.f1.f3.length c7] 38)) 4 (v:=.slice A2 n2 c2) rfl
   have HW:=ah (gG (.cells #[.int .u8 y.f0,.int .u8 y.f1.f0,.int .u64 y.f1.f1,.string y.f1.f2,.slice A7 y.f1.f3.length c7] 38):Below wr.heap.size wr (wr.alloc (.cells #[.int .u8 y.f0,.int .u8 y.f1.f0,.int .u64 y.f1.f1,.string y.f1.f2,.slice A7 y.f1.f3.length c7] 38)))
   go_wp2_with (go_at_call 15;refine(WF.o _ HW.o).mono ?_;rintro e w1 ⟨A6,c6,rfl,hl6,hF6,hb1⟩;obtain⟨m6,hm6⟩:∃m6,(o_ y l).length=m6:=⟨_,rfl⟩;rw[hm6]at hl6 hF6 ⊢;have SD1:=ah (SD.o.old (HW.o.trans (hb1.mono HW.o.size)));have F6:=ah (Kd.ZM hF6 (fun k hk=>hk.elim (fun h=>h.1) (fun h=>.inr (by have:=SD.o.eX.size;have:=lt_of_block SD.o.b3;simp at h;omega))):Kd.F wG w1 (fun k=>(ok k∧k<w.heap.size)∨w.heap.size+3≤k) A6 m6 (o_ y l));have SD2:=ah (SD1.o.set F6.o hm6 hl6);have p0:=au SD1.o.b3 0 (v:=.int .u8 t) rfl;have p1:=au SD1.o.b3 1 (v:=.int .u8 f) rfl;have p2:=au SD1.o.b3 2 (v:=.int .u32 s) rfl;have p3:=au SD1.o.b3 3 (v:=.slice A' m c') rfl;have p4:=au SD1.o.b3 4 (v:=.slice A2 n2 c2) rfl;have q0:=aI SD1.o.b3 0;have q1:=aI SD1.o.b3 1;have q2:=aI SD1.o.b3 2;have q3:=aI SD1.o.b3 3;have q4:=aI SD1.o.b3 4;clear hF6 hb1 hm6 hl6)
   go_roundw
   case rel=>exact⟨k+1,A6,m6,c6,hlt,by go_num,⟨by rw[HT.o];exact SD2.o⟩⟩
   case measure=>simp[intOf];omega
  ·have hd:decide ((k:Int)<(n1:Int))=false:=by simp;omega
   have SB:fs.take k=fs:=kT (by have:=B_.o;omega)
   rw[SB]at SD
   clear SB
   have z0:=au SD.o.b2 0 (v:=.int .u8 0) rfl
   have z1:=au SD.o.b2 1 (v:=.int .u8 0) rfl
   have z2:=au SD.o.b2 2 (v:=.int .u32 0) rfl
   have z3:=au SD.o.b2 3 (v:=.slice none 0 0) rfl
   have z4:=au SD.o.b2 4 (v:=.slice none 0 0) rfl
   have q0:=aI SD.o.b2 0
   have q1:=aI SD.o.b2 1
   have q2:=aI SD.o.b2 2
   have q3:=aI SD.o.b2 3
   have q4:=aI SD.o.b2 4
   go_wp2
   have hne:∀k:Nat,(ok k∧k<w.heap.size)∨w.heap.size+3≤k→k≠w.heap.size+1:=fun k hk=>by
    rcases hk with hk|hk
    ·have:=hk.2;omega
    ·omega
   have kq:=Joins.block_setCell (Joins.block_setCell (Joins.block_setCell (Joins.block_setCell (Joins.block_setCell SD.o.b2 (i:=0) (.int .u8 t)) (i:=1) (.int .u8 f)) (i:=2) (.int .u32 s)) (i:=3) (.slice A' m c')) (i:=4) (.slice A2 n2 c2)
   have HF2:=ah (Kd.qA (Kd.qA (Kd.qA (Kd.qA (Kd.qA SD.o.ff (p:=⟨w.heap.size+1,0,none⟩) hne (.int .u8 t)) (p:=⟨w.heap.size+1,1,none⟩) hne (.int .u8 f)) (p:=⟨w.heap.size+1,2,none⟩) hne (.int .u32 s)) (p:=⟨w.heap.size+1,3,none⟩) hne (.slice A' m c')) (p:=⟨w.heap.size+1,4,none⟩) hne (.slice A2 n2 c2))
   have HB2:=ah (((((SD.o.eX.setCell (p:=⟨w.heap.size+1,0,none⟩) (by simp) (.int .u8 t)).setCell (p:=⟨w.heap.size+1,1,none⟩) (by simp) (.int .u8 f)).setCell (p:=⟨w.heap.size+1,2,none⟩) (by simp) (.int .u32 s)).setCell (p:=⟨w.heap.size+1,3,none⟩) (by simp) (.slice A' m c')).setCell (p:=⟨w.heap.size+1,4,none⟩) (by simp) (.slice A2 n2 c2))
   generalize (((((wr.setCell ⟨w.heap.size+1,0,none⟩ (.int .u8 t)).setCell ⟨w.heap.size+1,1,none⟩ (.int .u8 f)).setCell ⟨w.heap.size+1,2,none⟩ (.int .u32 s)).setCell ⟨w.heap.size+1,3,none⟩ (.slice A' m c')).setCell ⟨w.heap.size+1,4,none⟩ (.slice A2 n2 c2))=W at kq HB2 HF2 ⊢
   have y0:=au kq 0 (v:=.int .u8 t) rfl
   have y1:=au kq 1 (v:=.int .u8 f) rfl
   have y2:=au kq 2 (v:=.int .u32 s) rfl
   have y3:=au kq 3 (v:=.slice A' m c') rfl
   have y4:=au kq 4 (v:=.slice A2 n2 c2) rfl
   refine iW (v:=.agg #[.int .u8 t,.int .u8 f,.int .u32 s,.slice A' m c',.slice A2 n2 c2]) (by simp[results,results6,go_sem,y0,y1,y2,y3,y4]) rfl ⟨A',c',by rw[SD.o.mm],by rw[SD.o.mm];exact SD.o.le,by rw[SD.o.mm];exact HF2.o,HB2.o⟩
def sN (c:Int):Int:=if c=1 then 111 else if c=2∨c=3∨c=4∨c=6∨c=7 then 115 else if c=5∨c=9 then 117 else if c=8 then 103 else 0
theorem KJ (c:Int) (w:World):uQ 26 #[.int .u8 c] w (.int .u8 (sN c)):=by
 have h:c=1∨c=2∨c=3∨c=4∨c=6∨c=7∨c=5∨c=9∨c=8∨(c≠1∧c≠2∧c≠3∧c≠4∧c≠5∧c≠6∧c≠7∧c≠8∧c≠9):=by omega
 rcases h with rfl|rfl|rfl|rfl|rfl|rfl|rfl|rfl|rfl|⟨h1,h2,h3,h4,h5,h6,h7,h8,h9⟩
 all_goals first
  |(go_enter func26,ntmps26
    go_wp2
    go_ret
    exact⟨rfl,rfl⟩)
  |(have e1:(c==1)=false:=by simp[h1]
    have e2:(c==2)=false:=by simp[h2]
    have e3:(c==3)=false:=by simp[h3]
    have e4:(c==4)=false:=by simp[h4]
    have e5:(c==5)=false:=by simp[h5]
    have e6:(c==6)=false:=by simp[h6]
    have e7:(c==7)=false:=by simp[h7]
    have e8:(c==8)=false:=by simp[h8]
    have e9:(c==9)=false:=by simp[h9]
    have HK:=ah (by simp[sN,h1,h2,h3,h4,h5,h6,h7,h8,h9]:sN c=0)
    clear h1 h2 h3 h4 h5 h6 h7 h8 h9
    go_enter func26,ntmps26
    go_wp2
    go_ret
    exact⟨by rw[HK.o];rfl,rfl⟩)
def nT (l:List UInt8):Nat:=(l.filter (fun c=>decide (c=46))).length
theorem c46 (c:UInt8):(((c.toNat:Nat):Int)==46)=decide (c=46):=by
 by_cases h:c=46
 ·subst h;rfl
 ·have:c.toNat≠46:=fun e=>h (UInt8.toNat_inj.1 e)
  rw[decide_eq_false h,kS];omega
theorem Jy (x:List UInt8) (hl:x.length≤1000000) (w:World):uQ 63 #[.string (bs x)] w (.int .i64 (nT x)):=by
 have hsz:(bs x).size=x.length:=aH x
 obtain⟨n,hn⟩:∃n,x.length=n:=⟨_,rfl⟩
 have HN:=ah hn
 rw[hn]at hl hsz
 clear hn
 go_enter func63,ntmps63
 go_wp2
 go_loopw [3,4] (fun v3 v4 wr=>∃k:Nat,k≤n∧v4=.int .i64 k∧v3=.int .i64 (nT (x.take k))∧w=wr) (fun _ v4 _=>n-(intOf v4).toNat)
 case atStart=>exact⟨0,jf _,rfl,rfl,rfl⟩
 case round =>
  obtain⟨k,hk,rfl,rfl,rfl⟩:=hrel
  by_cases hlt:k<n
  ·have hd:decide ((k:Int)<(n:Int))=true:=by simp;omega
   have hk9:k+1≤1000001:=by omega
   have hkx:k<x.length:=by have:=HN.o;omega
   have hi:=fun W=>ixn x k hkx W
   have hc:=c46 x[k]
   have hdl:nT (x.take k)≤k:=by
    unfold nT
    exact Nat.le_trans (List.length_filter_le _ _) (List.length_take_le _ _)
   have HT:=ah (by unfold nT;rw[lu hkx,List.filter_append,dY]:nT (x.take (k+1))=nT (x.take k)+([x[k]].filter (fun c=>decide (c=46))).length)
   generalize nT (x.take k)=D at *
   generalize x[k]=c at *
   by_cases he:c=46
   ·rw[decide_eq_true he]at hc
    have HE:=ah (by rw[HT.o];simp[he]:nT (x.take (k+1))=D+1)
    clear HT he
    go_wp2
    go_roundw
    case rel=>exact⟨k+1,hlt,by go_num,by rw[HE.o];go_num,by first|rfl|trivial⟩
    case measure=>simp[intOf];omega
   ·rw[decide_eq_false he]at hc
    have HE:=ah (by rw[HT.o];simp[he]:nT (x.take (k+1))=D)
    clear HT he
    go_wp2
    go_roundw
    case rel=>exact⟨k+1,hlt,by go_num,by rw[HE.o],by first|rfl|trivial⟩
    case measure=>simp[intOf];omega
  ·have hke:x.take k=x:=kT (by have:=HN.o;omega)
   have hd:decide ((k:Int)<(n:Int))=false:=by simp;omega
   rw[hke]
   go_wp2
   go_ret
   exact⟨rfl,rfl⟩
def QL (ty:Nat) (w:World) (e:Ending) (w':World):Prop :=
 ∃g n c cs,e=.returned (.slice (some ⟨g,0,none⟩) n c)∧(iC ty).length=n∧w'.heap[g]?=some (.cells cs 5 (0,0))∧(∀i (h:i<(iC ty).length),cs[i]?=some (.int .u8 ((iC ty)[i]:Nat)))∧Below w.heap.size w w'
theorem Y3 (ty:Nat) (h1:1≤ty) (h4:ty≤4) (w:World):Calls prog 28 #[.int .u8 (ty:Nat)] w (QL ty w):=by
 have fin:∀(l:List Nat) (cs:Array Value),iC ty=l→l.length=cs.size→(∀i (h:i<l.length),cs[i]?=some (.int .u8 (l[i]:Nat)))→QL ty w (.returned (.slice (some ⟨w.heap.size,0,none⟩) cs.size cs.size)) (w.alloc (.cells cs 5)):=by
  intro l cs h hl hc
  unfold QL
  rw[h]
  exact⟨_,_,_,cs,rfl,hl,aV _ _ _ rfl,hc,gG _⟩
 rcases (by omega:ty=1∨ty=2∨ty=3∨ty=4)with rfl|rfl|rfl|rfl
 ·have F:=ah (fin [1,3] #[.int .u8 1,.int .u8 3] rfl rfl (fun i hi=>by match i,hi with|0,_=>rfl|1,_=>rfl))
  clear fin h1 h4
  go_enter func28,ntmps28
  go_wp2
  go_ret
  exact F.o
 ·have F:=ah (fin [5] #[.int .u8 5] rfl rfl (fun i hi=>by match i,hi with|0,_=>rfl))
  clear fin h1 h4
  go_enter func28,ntmps28
  go_wp2
  go_ret
  exact F.o
 ·have F:=ah (fin [4,5] #[.int .u8 4,.int .u8 5] rfl rfl (fun i hi=>by match i,hi with|0,_=>rfl|1,_=>rfl))
  clear fin h1 h4
  go_enter func28,ntmps28
  go_wp2
  go_ret
  exact F.o
 ·have F:=ah (fin [1,2,3] #[.int .u8 1,.int .u8 2,.int .u8 3] rfl rfl (fun i hi=>by match i,hi with|0,_=>rfl|1,_=>rfl|2,_=>rfl))
  clear fin h1 h4
  go_enter func28,ntmps28
  go_wp2
  go_ret
  exact F.o
theorem aek (a c:UInt8):(((a.toNat:Nat):Int)==((c.toNat:Nat):Int))=decide (a=c):=by
 by_cases h:a=c
 ·subst h;simp
 ·have:a.toNat≠c.toNat:=fun e=>h (UInt8.toNat_inj.1 e)
  rw[decide_eq_false h,kS];omega
structure Spl (c:UInt8) (x:List UInt8) (w wr:World) (v:Value) (a k nd:Nat) (d:List (List UInt8)):Prop where
 len:d.length=nd
 le:nd≤a
 eq:cZ c x=d++cZ c (x.drop a)
 no:c∉(x.drop a).take (k-a)
 own:wr.ownsRow w.heap.size 9 1 v nd (sv d)
 eX:Below w.heap.size w wr
theorem Nh (x:List UInt8) (c:UInt8) (hl:x.length≤1000000) (w:World):Calls prog 94 #[.string (bs x),.int .u8 (c.toNat:Nat)] w (CG c x w):=by
 have hsz:(bs x).size=x.length:=aH x
 obtain⟨n,hn⟩:∃n,x.length=n:=⟨_,rfl⟩
 have HN:=ah hn
 rw[hn]at hl hsz
 clear hn
 go_enter func94,ntmps94
 go_wp2
 go_loopw [5,6,7] (fun v5 v6 v7 wr=>∃(a k nd:Nat) (d:List (List UInt8)),a≤k∧k≤n∧v6=.int .i64 a∧v7=.int .i64 k∧aj (Spl c x w wr v5 a k nd d)) (fun _ _ v7 _=>n-(intOf v7).toNat)
 case atStart=>exact⟨0,0,0,[],bW,jf _,rfl,rfl,⟨⟨rfl,bW,rfl,by simp,World.ownsRow_nil _ _ _ _,jc⟩⟩⟩
 case round =>
  obtain⟨a,k,nd,d,hak,hk,rfl,rfl,HR⟩:=hrel
  by_cases hlt:k<n
  ·have hd:decide ((k:Int)<(n:Int))=true:=by simp;omega
   have hk9:k+1≤1000001:=by omega
   have hkx:k<x.length:=by have:=HN.o;omega
   have hi:=fun W=>ixn x k hkx W
   have hc:=aek x[k] c
   have e1:(bs x).extract a k=bs ((x.drop a).take (k-a)):=gY x a k
   have hnd:nd≤1000000:=by have:=HR.o.le;omega
   have HX:=ah (by
    have h1:x.drop a=(x.drop a).take (k-a)++x[k]::x.drop (k+1):=by
     have h2:(x.drop a).drop (k-a)=x[k]::x.drop (k+1):=by
      rw[List.drop_drop,show a+(k-a)=k by omega,List.drop_eq_getElem_cons hkx]
     rw[←h2,List.take_append_drop]
    exact h1:x.drop a=(x.drop a).take (k-a)++x[k]::x.drop (k+1))
   have HT:=ah (by
    have h2:k-a<(x.drop a).length:=by rw[List.length_drop];omega
    rw[show k+1-a=(k-a)+1 by omega,lu h2,List.getElem_drop]
    congr 3
    omega:(x.drop a).take (k+1-a)=(x.drop a).take (k-a)++[x[k]])
   generalize x[k]=y at *
   by_cases he:y=c
   ·rw[decide_eq_true he]at hc
    have HS:=ah (by
     have h1:=HX.o
     rw[he]at h1
     have h6:=yg c ((x.drop a).take (k-a)) (x.drop (k+1)) HR.o.no
     rw[←h1]at h6
     exact h6:cZ c (x.drop a)=(x.drop a).take (k-a)::cZ c (x.drop (k+1)))
    clear HX HT he
    go_wp2_with (at_builtin;refine vS rfl (.tmp 19) (.tmp 24) rfl w.heap.size w _ _ nd _ _ rfl rfl HR.o.own HR.o.eX (by have:=HR.o.eX.size;omega) hnd ?_;intro v1 w2 h1 h2;have OWN:=ah h1;have BN:=ah h2;clear h1 h2)
    go_roundw
    case rel =>
     refine⟨k+1,k+1,nd+1,d++[(x.drop a).take (k-a)],bW,hlt,by go_num,by go_num,⟨⟨by rw[dY,HR.o.len];rfl,by have:=HR.o.le;omega,by rw[HR.o.eq,HS.o];simp,by simp,?_,BN.o⟩⟩⟩
     have:=OWN.o
     rwa [show sv d++[.string (bs ((x.drop a).take (k-a)))]=sv (d++[(x.drop a).take (k-a)]) by simp[sv]]at this
    case measure=>simp[intOf];omega
   ·rw[decide_eq_false he]at hc
    have HNO:=ah (by rw[HT.o];simp only[List.mem_append,List.mem_singleton,not_or];exact⟨HR.o.no,fun e=>he e.symm⟩:c∉(x.drop a).take (k+1-a))
    clear HX HT he
    go_wp2
    go_roundw
    case rel=>exact⟨a,k+1,nd,d,by omega,hlt,rfl,by go_num,⟨⟨HR.o.len,HR.o.le,HR.o.eq,HNO.o,HR.o.own,HR.o.eX⟩⟩⟩
    case measure=>simp[intOf];omega
  ·have hd:decide ((k:Int)<(n:Int))=false:=by simp;omega
   have hkn:k=n:=by omega
   have e2:(bs x).extract a n=bs (x.drop a):=by rw[←hsz];exact kQ x a
   have HNO:=ah (by have h:=HR.o.no;rw[kT (by rw[List.length_drop,HN.o];omega)]at h;exact h:c∉x.drop a)
   have hnd:nd≤1000000:=by have:=HR.o.le;omega
   have han:a≤n:=by omega
   go_wp2_with (at_builtin;refine vS rfl (.tmp 28) (.tmp 32) rfl w.heap.size w _ _ nd _ _ rfl rfl HR.o.own HR.o.eX (by have:=HR.o.eX.size;omega) hnd ?_;intro v1 w2 h1 h2;have OWN:=ah h1;have BN:=ah h2;clear h1 h2)
   go_ret
   have e1:cZ c x=d++[x.drop a]:=by rw[HR.o.eq,yh c _ HNO.o]
   have e3:(d++[x.drop a]).length=nd+1:=by rw[dY,HR.o.len];rfl
   obtain⟨g,cap,cur,r1,r2,r3⟩:=Xc (l:=d++[x.drop a]) (by have:=OWN.o;rwa [show sv d++[.string (bs (x.drop a))]=sv (d++[x.drop a]) by simp[sv]]at this) e3 (by omega)
   unfold CG
   rw[e1]
   exact⟨g,cap,cur,by rw[e3];exact congrArg Ending.returned r1,r2,r3,BN.o⟩
theorem oM (c:UInt8):∀(l:List UInt8) (p:List UInt8),p∈cZ c l→p.length≤l.length
 |[],p,h=>by simp[cZ]at h;subst h;simp
 |a::l,p,h=>by
  unfold cZ at h
  split at h
  ·rcases List.mem_cons.1 h with rfl|h
   ·simp
   ·have:=oM c l p h;simp;omega
  ·split at h
   ·simp at h;subst h;simp
   ·rename_i q qs he
    rcases List.mem_cons.1 h with rfl|h
    ·have:=oM c l q (by rw[he];simp);simp;omega
    ·have:=oM c l p (by rw[he];simp[h]);simp;omega
theorem PU (x:List UInt8) (hl:x.length≤1000000) (w:World):Calls prog 64 #[.string (bs x),.bool false,.bool false] w (uh ((cZ 46 x).all iP) w):=by
 have SP:=ah (Nh x 46 hl w)
 go_enter func64,ntmps64
 go_wp2_with (go_at_call 94;refine SP.o.mono ?_;rintro e w1 ⟨g,cap,cur,rfl,h1,h2,h3⟩;have HG:=ah h1;have HC:=ah h2;have HB:=ah h3;clear h1 h2 h3)
 have hln:(cZ 46 x).length≤1000001:=by rw[rO];have:=List.length_filter_le (fun a=>decide (a=46)) x;omega
 obtain⟨L,hL⟩:∃L,cZ 46 x=L:=⟨_,rfl⟩
 rw[hL]at HC hln ⊢
 have ZU:=ah (fun i (h:i<L.length)=>(by
  have hm:L[i]∈cZ 46 x:=by rw[hL];exact nZ h
  exact oM 46 x _ hm:(L[i]).length≤x.length))
 obtain⟨n,hn⟩:∃n,L.length=n:=⟨_,rfl⟩
 have HN:=ah hn
 have HL:=ah hL
 rw[hn]at hln ⊢
 clear hn hL SP
 go_loopw [13] (fun v13 wr=>∃k:Nat,k≤n∧v13=.int .i64 k∧(∀i (h:i<L.length),i<k→iP L[i]=true)∧w1=wr) (fun v13 _=>n-(intOf v13).toNat)
 case atStart=>exact⟨0,jf _,rfl,fun i h hi=>by omega,rfl⟩
 case round =>
  obtain⟨k,hk,rfl,hp,rfl⟩:=hrel
  have HP:=ah hp
  clear hp
  by_cases hlt:k<n
  ·have hd:decide ((k:Int)<(n:Int))=true:=by simp;omega
   have hk9:k+1≤1000002:=by omega
   have hkl:k<L.length:=by have:=HN.o;omega
   have q0:=au HG.o k (HC.o k hkl)
   have HPP:=ah (ZU.o k hkl)
   have HBAD:=ah (fun (h:iP L[k]=false)=>(by
    rw[List.all_eq_false]
    exact⟨L[k],nZ hkl,by simp[h]⟩:L.all iP=false))
   have HST:=ah (fun (h:iP L[k]=true) i (hi:i<L.length) (hik:i<k+1)=>(by
    by_cases e:i=k
    ·subst e;exact h
    ·exact HP.o i hi (by omega):iP L[i]=true))
   generalize L[k]=p at *
   cases p with
   |nil =>
    have hem:(bs ([]:List UInt8)).toList.isEmpty=true:=by rw[bH];rfl
    have HF:=ah (HBAD.o rfl)
    clear HBAD HST
    go_wp2
    go_ret
    exact⟨by first|(rw[HF.o];done)|(rw[HF.o];rfl)|(rw[HL.o,HF.o];rfl),HB.o⟩
   |cons a q =>
    have hem:(bs (a::q)).toList.isEmpty=false:=by rw[bH];rfl
    have hi0:=fun W=>ixz a q W
    have ha:=a.toNat_lt
    cases hdg:yX a
    ·have HD:=ah hdg
     clear hdg
     have hg1:(decide ((48:Int)≤((a.toNat:Nat):Int))&&decide (((a.toNat:Nat):Int)≤57))=false:=by
      have:=HD.o
      simp only[yX,Bool.and_eq_false_iff,decide_eq_false_iff_not,UInt8.le_iff_toNat_le]at this ⊢
      have e1:(48:UInt8).toNat=48:=rfl
      have e2:(57:UInt8).toNat=57:=rfl
      rw[e1,e2]at this
      omega
     have hsz:(bs (a::q)).size=q.length+1:=by rw[aH];rfl
     have HA:=ah hi0
     have hg3:decide ((48:Int)≤((a.toNat:Nat):Int))=false∨(decide ((48:Int)≤((a.toNat:Nat):Int))=true∧decide (((a.toNat:Nat):Int)≤57)=false):=by
      rcases Bool.and_eq_false_iff.1 hg1 with h|h
      ·exact .inl h
      ·by_cases h2:(48:Int)≤((a.toNat:Nat):Int)
       ·exact .inr ⟨decide_eq_true h2,h⟩
       ·exact .inl (decide_eq_false h2)
     have HPA:=ah (by simp[iP,HD.o]:iP (a::q)=iI (a::q))
     have hql:q.length+1≤1000000:=by have:=HPP.o;simp at this;omega
     clear hg1
     rcases hg3 with g1|⟨g1,g2⟩
     all_goals (
      go_wp2
      obtain⟨P,hP⟩:∃P,a::q=P:=⟨_,rfl⟩
      obtain⟨m,hm⟩:∃m,q.length+1=m:=⟨_,rfl⟩
      have HMM:=ah (by rw[←hP,←hm];rfl:P.length=m)
      rw[hP]at HPA HBAD HST hsz ⊢
      rw[hm]at hsz hql
      clear HA hi0 hem g1 hP hm HD
      go_loopw [9] (fun v9 wr=>∃i:Nat,i≤m∧v9=.int .i64 i∧iI (P.take i)=true∧w1=wr) (fun v9 _=>m-(intOf v9).toNat)
      case atStart=>exact⟨0,jf _,rfl,rfl,rfl⟩
      case round =>
       obtain⟨i,hi,rfl,hw,rfl⟩:=hrel
       have HW:=ah hw
       clear hw
       by_cases hlt2:i<m
       ·have hd2:decide ((i:Int)<(m:Int))=true:=by simp;omega
        have hi9:i+1≤1000001:=by omega
        have hil:i<P.length:=by have:=HMM.o;omega
        have hix:=fun W=>ixn P i hil W
        have HSN:=ah (fun h=>vU P i hil HW.o h:pq P[i]=true→iI (P.take (i+1))=true)
        have qR:=ah (fun h=>HBAD.o (by rw[HPA.o];exact uP P i hil h):pq P[i]=false→L.all iP=false)
        have WS:=ah (fun W=>JR P[i] W)
        generalize P[i]=y at *
        cases hwc:pq y
        ·rw[hwc]at WS
         have HF:=ah (qR.o hwc)
         clear qR HSN hwc HBAD HST
         go_wp2_with (go_at_call 62;refine gU (WS.o _) ?_)
         go_ret
         exact⟨by first|(rw[HF.o];done)|(rw[HF.o];rfl)|(rw[HL.o,HF.o];rfl),HB.o⟩
        ·rw[hwc]at WS
         have HS2:=ah (HSN.o hwc)
         clear qR HSN hwc
         go_wp2_with (go_at_call 62;refine gU (WS.o _) ?_)
         go_roundw
         case rel=>exact⟨i+1,hlt2,by go_num,HS2.o,by first|rfl|trivial⟩
         case measure=>simp[intOf];omega
       ·have hd2:decide ((i:Int)<(m:Int))=false:=by simp;omega
        have HS3:=ah (HST.o (by
         have h:=HW.o
         rw[kT (by rw[HMM.o];omega)]at h
         rw[HPA.o,h]))
        clear HBAD HST
        go_wp2
        go_roundw
        case rel=>exact⟨k+1,hlt,by go_num,HS3.o,by first|rfl|trivial⟩
        case measure=>simp[intOf];omega)
    ·have HF:=ah (HBAD.o (by simp[iP,hdg]))
     have h48:(48:Int)≤((a.toNat:Nat):Int)∧((a.toNat:Nat):Int)≤57:=by
      simp only[yX,Bool.and_eq_true,decide_eq_true_eq,UInt8.le_iff_toNat_le]at hdg
      have e1:(48:UInt8).toNat=48:=rfl
      have e2:(57:UInt8).toNat=57:=rfl
      rw[e1,e2]at hdg
      omega
     have g1:decide ((48:Int)≤((a.toNat:Nat):Int))=true:=decide_eq_true h48.1
     have g2:decide (((a.toNat:Nat):Int)≤57)=true:=decide_eq_true h48.2
     clear HBAD HST hdg h48
     go_wp2
     go_ret
     exact⟨by first|(rw[HF.o];done)|(rw[HF.o];rfl)|(rw[HL.o,HF.o];rfl),HB.o⟩
  ·have hd:decide ((k:Int)<(n:Int))=false:=by simp;omega
   have HF:=ah (by
    rw[List.all_eq_true]
    intro p hp
    obtain⟨i,hi,rfl⟩:=List.getElem_of_mem hp
    exact HP.o i hi (by have:=HN.o;omega):L.all iP=true)
   go_wp2
   go_ret
   exact⟨by first|(rw[HF.o];done)|(rw[HF.o];rfl)|(rw[HL.o,HF.o];rfl),HB.o⟩
theorem RH (x:List UInt8):(cZ 46 x).length=nT x+1:=rO 46 x
theorem Uc (x:List UInt8) (h:nT x=0):cZ 46 x=[x]:=by
 refine yh 46 x (fun hm=>?_)
 have:0<nT x:=List.length_pos_of_mem (List.mem_filter.2 ⟨hm,by simp⟩)
 omega
theorem wX (x:List UInt8) (hl:x.length≤1000000) (w:World):Calls prog 42 #[.string (bs x)] w (uh (g_ x) w):=by
 have hsz:(bs x).size=x.length:=aH x
 have PO:=ah (fun W=>Jy x hl W)
 have NA:=ah (fun W=>PU x hl W)
 have HI:=ah (by unfold g_;rw[RH,Bool.and_assoc]:g_ x=(decide (x.length≤255)&&(decide (2≤nT x+1)&&(cZ 46 x).all iP)))
 generalize (cZ 46 x).all iP=B at NA HI
 obtain⟨n,hn⟩:∃n,x.length=n:=⟨_,rfl⟩
 rw[hn]at hl hsz HI
 clear hn
 by_cases h1:n≤255
 ·have g1:decide ((n:Int)≤255)=true:=by simp;omega
  by_cases h2:0<nT x
  ·have g2:decide ((0:Int)<(nT x:Int))=true:=by simp;omega
   have g3:decide (0<nT x)=true:=decide_eq_true h2
   have HE:=ah (by rw[HI.o];simp[h1];intro;omega:g_ x=B)
   rw[HE.o]
   clear HI HE h1
   generalize nT x=D at *
   clear h2
   go_enter func42,ntmps42
   go_wp2_with (first
    |(go_at_call 63;refine gU (PO.o _) ?_)
    |(go_at_call 64;refine(NA.o _).mono ?_;rintro e w1 ⟨rfl,hb⟩;have HB:=ah hb;clear hb))
   go_ret
   exact⟨rfl,HB.o⟩
  ·have g2:decide ((0:Int)<(nT x:Int))=false:=by simp;omega
   have g3:decide (0<nT x)=false:=decide_eq_false h2
   have HE:=ah (by rw[HI.o];simp[h1];intro;omega:g_ x=false)
   rw[HE.o]
   clear HI HE h1
   generalize nT x=D at *
   clear h2
   go_enter func42,ntmps42
   go_wp2_with (go_at_call 63;refine gU (PO.o _) ?_)
   go_ret
   exact⟨rfl,jc⟩
 ·have g1:decide ((n:Int)≤255)=false:=by simp;omega
  have HE:=ah (by rw[HI.o];simp[h1]:g_ x=false)
  rw[HE.o]
  clear HI HE h1
  go_enter func42,ntmps42
  go_wp2
  go_ret
  exact⟨rfl,jc⟩
theorem Qi (x:List UInt8) (h:0<nT x):iI x=false:=by
 obtain⟨a,ha⟩:=List.exists_mem_of_length_pos (show 0<(x.filter (fun c=>decide (c=46))).length from h)
 obtain⟨h1,h2⟩:=List.mem_filter.1 ha
 have h3:a=46:=by simpa using h2
 subst h3
 unfold iI
 rw[List.all_eq_false]
 exact⟨46,h1,by decide⟩
theorem TP (x:List UInt8) (h:0<nT x):iP x=false:=by
 cases x with
 |nil=>rfl
 |cons a l=>simp[iP,Qi _ h]
theorem Iy (x:List UInt8) (hl:x.length≤1000000) (w:World):Calls prog 43 #[.string (bs x)] w (uh (nO x) w):=by
 have hsz:(bs x).size=x.length:=aH x
 have PO:=ah (fun W=>Jy x hl W)
 have NA:=ah (fun W=>PU x hl W)
 have HI:=ah (show nO x=(decide (x.length≤255)&&iP x)from rfl)
 have HD:=ah (fun h=>TP x h)
 have HO:=ah (fun h=>(by rw[Uc x h];simp:(cZ 46 x).all iP=iP x))
 generalize (cZ 46 x).all iP=B at NA HO
 obtain⟨n,hn⟩:∃n,x.length=n:=⟨_,rfl⟩
 rw[hn]at hl hsz HI
 clear hn
 by_cases h1:n≤255
 ·have g1:decide ((n:Int)≤255)=true:=by simp;omega
  by_cases h2:nT x=0
  ·have HE:=ah (by rw[HI.o,←HO.o h2];simp[h1]:nO x=B)
   have g2:((nT x:Int)==0)=true:=by simp[h2]
   have g3:(nT x==0)=true:=by simp[h2]
   rw[HE.o]
   clear HI HE h1 HD HO h2
   generalize nT x=D at *
   go_enter func43,ntmps43
   go_wp2_with (first
    |(go_at_call 63;refine gU (PO.o _) ?_)
    |(go_at_call 64;refine(NA.o _).mono ?_;rintro e w1 ⟨rfl,hb⟩;have HB:=ah hb;clear hb))
   go_ret
   exact⟨rfl,HB.o⟩
  ·have HE:=ah (by rw[HI.o,HD.o (by omega)];simp:nO x=false)
   have g2:((nT x:Int)==0)=false:=by simp;omega
   have g3:(nT x==0)=false:=by simp;omega
   rw[HE.o]
   clear HI HE h1 HD HO h2
   generalize nT x=D at *
   go_enter func43,ntmps43
   go_wp2_with (go_at_call 63;refine gU (PO.o _) ?_)
   go_ret
   exact⟨rfl,jc⟩
 ·have g1:decide ((n:Int)≤255)=false:=by simp;omega
  have HE:=ah (by rw[HI.o];simp[h1]:nO x=false)
  rw[HE.o]
  clear HI HE h1
  go_enter func43,ntmps43
  go_wp2
  go_ret
  exact⟨rfl,jc⟩
theorem Nc (x:List UInt8) (hl:x.length≤1000000) (w:World):Calls prog 44 #[.string (bs x)] w (uh (g_ x) w):=by
 have NA:=ah (fun W=>wX x hl W)
 generalize g_ x=B at *
 go_enter func44,ntmps44
 go_wp2_with (go_at_call 42;refine(NA.o _).mono ?_;rintro e w1 ⟨rfl,hb⟩;have HB:=ah hb;clear hb)
 go_ret
 exact⟨rfl,HB.o⟩
def Ad (c:Int) (s:bG):Bool:=if c=1 then je s.data.toList else if c=2 then g_ s.data.toList else if c=3 then nO s.data.toList else if c=4 then g_ s.data.toList else true
theorem F8 (c:Int) (x:dS) (A:Option Addr) (n k:Nat) (w:World) (hl:x.f2.size≤1000000) (hv:c=8→∃k,iH.f k x.f2=some true) :
  Calls prog 27 #[.agg #[.int .u8 c,.int .u8 x.f0,.int .u64 x.f1,.string x.f2,.slice A n k]] w (uh (Ad c x.f2) w):=by
 obtain⟨f0,f1,f2,f3⟩:=x
 obtain⟨s,rfl⟩:∃s,f2=bs s:=⟨f2.data.toList,by rw[o8]⟩
 have hs:(bs s).data.toList=s:=m_ s
 simp only[Ad,hs]at *
 rw[aH]at hl
 have hbb:∀(W:World) (B:Bool) (o:Obj) (e:Ending) (w':World),uh B (W.alloc o) e w'→e=.returned (.bool B)∧Below W.heap.size W w':=fun W B o e w' h=>⟨h.1,(gG o).trans (h.2.mono (by simp))⟩
 have HB:=ah hbb
 clear hbb
 by_cases h1:c=1
 ·subst h1
  have PA:=ah (fun W=>yP s hl W)
  clear hv
  simp only[if_pos]
  generalize je s=B at *
  go_enter func27,ntmps27
  go_wp2_with (go_at_call 41;refine(PA.o _).mono ?_;rintro e w1 hb;have H2:=ah (HB.o _ _ _ _ _ hb);obtain⟨rfl,-⟩:=hb)
  go_ret
  exact⟨rfl,H2.o.2⟩
 by_cases h2:c=2
 ·subst h2
  have PA:=ah (fun W=>wX s hl W)
  clear hv
  simp only[if_pos,if_neg (show ¬((2:Int)=1) by decide)]
  generalize g_ s=B at *
  go_enter func27,ntmps27
  go_wp2_with (go_at_call 42;refine(PA.o _).mono ?_;rintro e w1 hb;have H2:=ah (HB.o _ _ _ _ _ hb);obtain⟨rfl,-⟩:=hb)
  go_ret
  exact⟨rfl,H2.o.2⟩
 by_cases h3:c=3
 ·subst h3
  have PA:=ah (fun W=>Iy s hl W)
  clear hv
  simp only[if_pos,if_neg (show ¬((3:Int)=1) by decide),if_neg (show ¬((3:Int)=2) by decide)]
  generalize nO s=B at *
  go_enter func27,ntmps27
  go_wp2_with (go_at_call 43;refine(PA.o _).mono ?_;rintro e w1 hb;have H2:=ah (HB.o _ _ _ _ _ hb);obtain⟨rfl,-⟩:=hb)
  go_ret
  exact⟨rfl,H2.o.2⟩
 by_cases h4:c=4
 ·subst h4
  have PA:=ah (fun W=>Nc s hl W)
  clear hv
  simp only[if_pos,if_neg (show ¬((4:Int)=1) by decide),if_neg (show ¬((4:Int)=2) by decide),if_neg (show ¬((4:Int)=3) by decide)]
  generalize g_ s=B at *
  go_enter func27,ntmps27
  go_wp2_with (go_at_call 44;refine(PA.o _).mono ?_;rintro e w1 hb;have H2:=ah (HB.o _ _ _ _ _ hb);obtain⟨rfl,-⟩:=hb)
  go_ret
  exact⟨rfl,H2.o.2⟩
 rw[if_neg h1,if_neg h2,if_neg h3,if_neg h4]
 have e1:(c==1)=false:=by simp[h1]
 have e2:(c==2)=false:=by simp[h2]
 have e3:(c==3)=false:=by simp[h3]
 have e4:(c==4)=false:=by simp[h4]
 clear h1 h2 h3 h4
 by_cases h8:c=8
 ·obtain⟨kv,hk⟩:=hv h8
  have e8:(c==8)=true:=by simp[h8]
  have VA:=ah (fun W=>iH.calls kv (bs s) true W hk)
  clear hv h8 hk
  go_enter func27,ntmps27
  go_wp2_with (go_at_call 45;refine(VA.o _).mono ?_;rintro e w1 hb;have H2:=ah (HB.o _ _ _ _ _ hb);obtain⟨rfl,-⟩:=hb)
  go_ret
  exact⟨rfl,H2.o.2⟩
 ·have e8:(c==8)=false:=by simp[h8]
  clear hv h8
  go_enter func27,ntmps27
  go_wp2
  go_ret
  exact⟨rfl,gG _⟩
end Go.Proofs.YtllcccekodcdmaaGreatDoor.Ms
