import Derived.Sort.OwnSorted
import Derived.Test.YtllcccekodcdmaaGreatDoorC18
set_option linter.unusedVariables false
set_option linter.unusedSimpArgs false
set_option maxRecDepth 100000
set_option maxHeartbeats 32000000
open Go.Proofs.Tryz
namespace Go.Proofs.YtllcccekodcdmaaGreatDoor.Ms
open Go Go.RowKit Go.Proofs.ak.aT Go.Proofs.ak.cO Go.Proofs.YtllcccekodcdmaaGreatDoor.bK Go.Proofs.YtllcccekodcdmaaGreatDoor.Fl
theorem aa1 (t:T) (l:List A) (hg:(A.list t l).dN.f_) (h:(A.list t l).wQ) (hl:(A.list t l).tl≤10000000) (hne:l≠[]) (ih:∀(i:Nat) (h:i<l.length),og l[i]):og (.list t l):=by
 intro ok v w hv pt
 obtain⟨bp,s,vs,rfl,-,hbk,hr,hls⟩:=id hv
 obtain⟨hlm,OY,htg,hfo⟩:=h
 have hlen:=hls.len
 obtain⟨A0,c,rfl,hc,hcm,hrow⟩:=hr.cell
 have hn1:0<l.length:=List.length_pos_iff.2 hne
 obtain⟨g,rfl,hcell⟩:=hrow (by omega)
 have hLl:((A.eG l).map Prod.fst).length=l.length:=by rw[List.length_map,A.kC]
 have hll:=A.qJ l hfo
 simp only[A.tl]at hl
 obtain⟨L,hL⟩:∃L,(A.eG l).map Prod.fst=L:=⟨_,rfl⟩
 rw[hL]at hLl hll
 have e1:(A.list t l).fmt.1=[91]++jm L++[93]:=by simp only[A.fmt];rw[if_neg (by simpa using hne),hL]
 have e2:(A.list t l).fmt.2=(A.eG l).all Prod.snd:=by simp only[A.fmt];rw[if_neg (by simpa using hne)]
 have eL:∀k (h:k<l.length) (h':k<L.length),L[k]=(l[k]).fmt.1:=fun k h h'=>by subst hL;rw[List.getElem_map,A.ru l k h]
 have eB:∀k (h:k<l.length) (h':k<(A.eG l).length),((A.eG l)[k]).2=(l[k]).fmt.2:=fun k h h'=>by rw[A.ru l k h]
 rw[e1,e2]
 have hsig:(A.list t l).dN.sig=97::t.sig:=rfl
 have hty:(A.list t l).dN.ty=91::t.ty:=rfl
 have hgt:(A.list t l).dN.ty.length≤1000000:=hg.2.2.2
 have VO:=ah (fun W h=>valueOf (A.list t l) hgt _ ok W h:∀W,HA W ok (A.list t l) (.iface 100 (.pointer (some ⟨bp,0,none⟩)))→_)
 rw[hty]at VO
 rw[hsig]
 have HGD:=ah (fun e he=>OY e he▸htg:∀e∈l,e.dN.f_)
 obtain⟨TT,OT⟩:∃TT,t.ty=TT:=⟨_,rfl⟩
 rw[OT]at VO hbk
 obtain⟨R',hR'⟩:∃R',t.sig=R':=⟨_,rfl⟩
 rw[hR']
 obtain⟨n,hn⟩:∃n,vs.length=n:=⟨_,rfl⟩
 rw[hn]at hbk hc
 have hn0:0<n:=by omega
 have hix:∀w,(Instr.index 9 (.string (bs (97::R'))) (.int .i64 0)).run prog w=.ok (.int .u8 97) w:=fun w=>ix0 97 R' w
 have HV:=ah hv
 have PT:=ah pt
 have N8:=ah hcell
 have HLS:=ah hls
 have rU:=ah (lt_of_block hbk)
 have BX:=ah hbk
 clear e1 e2 hsig hty hR' hv hls hcell hr pt hcm hrow hg hgt hL OT hbk OY htg
 have Ed:=ah (by omega:ll L≤10000000)
 have HL:=ah (⟨hLl,eL,eB,ih,HGD.o,hfo,hlen⟩:(L.length=l.length)∧(∀k (h:k<l.length) (h':k<L.length),L[k]=(l[k]).fmt.1)∧(∀k (h:k<l.length) (h':k<(A.eG l).length),((A.eG l)[k]).2=(l[k]).fmt.2)∧(∀(i:Nat) (h:i<l.length),og l[i])∧(∀e∈l,e.dN.f_)∧A.Gl l∧vs.length=l.length)
 have HN:=ah (by omega:l.length=n)
 have hnm:n≤1000000:=by omega
 clear hLl eL eB ih HGD hfo hlen hn hlm hne hll hl
 have hnz:((n:Int)==0)=false:=by simp;omega
 have hcv:∀(W:World),(convert 65 65 (.slice (some ⟨W.heap.size,0,none⟩) 1 1)).run prog (W.alloc (.cells #[.int .u8 91] 5))=.ok (.slice (some ⟨W.heap.size,0,none⟩) 1 1) (W.alloc (.cells #[.int .u8 91] 5 (1,2))):=fun W=>ahW W 91
 go_enter func54,ntmps54
 go_wp2_with (first
  |(go_at_call 52;refine(VO.o _ (HV.o.below (gG _))).mono ?_;rintro e w1 ⟨rfl,hb1⟩;have ⟨hB,kr,hlt⟩:=dP hb1;have HB1:=aj.mk hB;clear hb1 kr hB)
  |(go_at_call 77;refine(lN _ _ 91 _ 16 rfl _).mono ?_;rintro e w2 ⟨rfl,hb2⟩;refine Hid.o ?_))
 refine ah ?_
 have hb2':Below (w1.alloc (.cells #[.iface 100 (.pointer (some ⟨bp,0,none⟩)),.string (bs (91::TT))] 94)).heap.size (w1.alloc (.cells #[.iface 100 (.pointer (some ⟨bp,0,none⟩)),.string (bs (91::TT))] 94)) w2:=hb2
 clear hb2
 obtain⟨hB2,yM,hlt2⟩:=dP hb2'
 have HB2:=ah (HB1.o.trans (hB2.mono HB1.o.size))
 have KR:=ah yM
 have c0:=au yM 0 (v:=.iface 100 (.pointer (some ⟨bp,0,none⟩))) rfl
 have c1:=au yM 1 (v:=.string (bs (91::TT))) rfl
 clear hb2' hB2 yM HB1
 go_wp2_with (first
  |(go_at_call 78;(with_reducible refine(xZ bp _ _ n c _ _ ((HB2.o.block _ rU.o).trans BX.o)).mono ?_);rintro e w3 ⟨rfl,hb3⟩;have KR:=ah ((hb3.block _ (lt_of_block KR.o)).trans KR.o);have c0:=au KR.o 0 (v:=.iface 100 (.pointer (some ⟨bp,0,none⟩))) rfl;have c1:=au KR.o 1 (v:=.string (bs (91::TT))) rfl;have HB3:=ah (HB2.o.trans (hb3.mono HB2.o.size));clear hb3)
  |(go_at_call 79;refine(af4 _ 91).mono ?_;rintro e w4 ⟨rfl,bf4⟩;have BF:=ah bf4;clear bf4))
 have H6:w1.heap.size<w3.heap.size:=lt_of_block KR.o
 have BW:=ah (fun x W h=>HB3.o.trans (h.eX.mono HB3.o.size):∀x W,Bx w3.heap.size 91 x w3 W→Below w.heap.size w W)
 have BF0:=ah (show Bx w3.heap.size 91 (91::vC L 0) w3 w4 by
  have h0:=X6 L (fun e=>by have:=HL.o.1;rw[e,HN.o]at this;simp at this;omega)
  rw[h0];exact .inl ⟨rfl,BF.o⟩)
 clear c0 c1 BF hlt hlt2
 go_loopw [7,9] (fun b t wr=>∃k:Nat,k≤n∧t=.int .i64 k∧b=.bool (((A.eG l).take k).all Prod.snd)∧Bx w3.heap.size 91 (91::vC L k) w3 wr) (fun _ t _=>n-(intOf t).toNat)
 case atStart=>exact⟨0,jf _,rfl,rfl,BF0.o⟩
 case round =>
  obtain⟨k,hkn,rfl,rfl,bf⟩:=hrel
  have BF:=ah bf
  clear bf
  have c0:=au (BF.o.keep KR.o H6) 0 (v:=.iface 100 (.pointer (some ⟨bp,0,none⟩))) rfl
  have c1:=au (BF.o.keep KR.o H6) 1 (v:=.string (bs (91::TT))) rfl
  have hrl:=aaE L k
  have aqK:=Ed.o
  by_cases hk:k<n
  ·have hkl:k<l.length:=by rw[HN.o];exact hk
   have Jp:k<L.length:=by rw[HL.o.1];exact hkl
   have SB:k<(A.eG l).length:=by rw[A.kC];exact hkl
   obtain⟨vk,hvk,BU⟩:=HLS.o.get k hkl
   obtain⟨tv,uv,rfl⟩:=BU.iface
   have CK:=ah (N8.o k _ hvk)
   have Qo:=ah BU
   have hgd:(l[k]).dN.f_:=HL.o.2.2.2.2.1 _ (nZ hkl)
   have Ef:=ah (HL.o.2.2.2.1 k hkl)
   have eLk:=HL.o.2.1 k hkl Jp
   have eBk:=HL.o.2.2.1 k hkl SB
   have hall:=all_succ (A.eG l) k SB
   rw[eBk]at hall
   have hge:=Gy L k Jp
   have hFs:(bs (l[k]).fmt.1).size=(L[k]).length:=by rw[aH,eLk]
   have FP:=ah (show 1≤(bs (l[k]).fmt.1).size by rw[aH];exact(l[k]).U9)
   have HFS:=ah (show(bs (l[k]).fmt.1).data.toList=L[k] by rw[m_,eLk])
   have Ef:=ah (fun W h1 h2=>Ef.o ok (.iface tv uv) W h1 h2:∀W,HA W ok l[k] (.iface tv uv)→l7 W→fC 54 #[.agg #[.string (bs (l[k]).dN.sig),.iface tv uv]] W (.tuple #[.string (bs (l[k]).fmt.1),.bool (l[k]).fmt.2]))
   generalize bs (l[k]).fmt.1=F at *
   generalize (l[k]).fmt.2=G at *
   have hX:∃X,((A.eG l).take k).all Prod.snd=X:=⟨_,rfl⟩
   obtain⟨X,hX⟩:=hX
   rw[hX]at hall ⊢
   have yw:=ah hall
   clear hall BU hvk eLk eBk hX
   have hfl:F.data.toList.length=(L[k]).length:=by rw[HFS.o]
   have LA:=ah (show(91::vC L k).length+F.size≤100000000 by rw[hFs,d_];omega)
   have LB:=ah (show((91::vC L k)++F.data.toList).length+(⟨#[44,32]⟩:bG).size≤100000000 by rw[dY,hfl,d_];show _+2≤_;omega)
   clear hfl hFs hge
   have Jo:(k:Int)<n:=by omega
   by_cases hlast:k+1=n
   have ht:((k:Int) != (n:Int)-1)=false:=by simp;omega
   have HQ:=ah (X4 L k Jp (by rw[HL.o.1,HN.o];exact hlast))
   rotate_left
   have ht:((k:Int) != (n:Int)-1)=true:=by simp;omega
   have HQ:=ah (X5 L k Jp (by rw[HL.o.1,HN.o];exact hlast))
   all_goals
    clear hlast
    cases X
    all_goals
     go_wp2_with (first|((first|(go_at_call 78;(with_reducible refine(xZ bp _ _ n c _ _ (((BW.o _ _ BF.o).block _ rU.o).trans BX.o)).mono ?_))|(go_at_call 80;refine(indexOf bp g n c k _ TT tv uv _ (((BW.o _ _ BF.o).block _ rU.o).trans BX.o) hk (((BW.o _ _ BF.o).cell (fA w _ CK.o)).trans CK.o)).mono ?_)|(go_at_call 53;refine(AY tv uv _ _).mono ?_)|(go_at_call 30;refine(mkVar l[k] hgd (.iface tv uv) ok _ (Qo.o.below (BW.o _ _ BF.o))).mono ?_)|(go_at_call 54;refine(Ef.o _ (Qo.o.below (BW.o _ _ BF.o)) (PT.o.below (BW.o _ _ BF.o))).mono ?_));rintro e wn ⟨rfl,hbn⟩;have BF:=ah (BF.o.old hbn);have c0:=au (BF.o.keep KR.o H6) 0 (v:=.iface 100 (.pointer (some ⟨bp,0,none⟩))) rfl;have c1:=au (BF.o.keep KR.o H6) 1 (v:=.string (bs (91::TT))) rfl;clear hbn)|(go_at_call 81;refine(BF.o.ws _ (by first|exact FP.o|(show 1≤2;omega)) (by first|exact LA.o|exact LB.o)).mono ?_;rintro e wn ⟨rfl,bfn⟩;have BF:=ah bfn;have c0:=au (BF.o.keep KR.o H6) 0 (v:=.iface 100 (.pointer (some ⟨bp,0,none⟩))) rfl;have c1:=au (BF.o.keep KR.o H6) 1 (v:=.string (bs (91::TT))) rfl;clear bfn))
     all_goals
      go_roundw
      case rel =>
       refine⟨k+1,by omega,by go_num,by rw[yw.o];simp,?_⟩
       rw[←HQ.o,←HFS.o]
       exact BF.o
      case measure=>simp[intOf];omega
  ·have hke:n=k:=by omega
   subst hke
   have hLk:vC L n=jm L:=by unfold vC;rw[if_pos (by rw[HL.o.1,HN.o])]
   have hbt:((A.eG l).take n).all Prod.snd=(A.eG l).all Prod.snd:=by rw[kT (by rw[A.kC,HN.o];exact bW)]
   rw[hbt]
   have h0L:0<L.length:=by rw[HL.o.1,HN.o];exact hn0
   have hc2:=Yx L h0L (by rw[HL.o.2.1 0 (by rw[HN.o];exact hn0) h0L];exact A.U9 _)
   have HBG:=ah (fun W (h:Bx w3.heap.size 91 (91::vC L n) w3 W)=>h.bg (show 2≤(91::vC L n).length by rw[d_,hLk];omega))
   have HLK:=ah hLk
   have LZ:=ah (show(91::vC L n).length≤100000000 by rw[d_];omega)
   clear hbt hLk hc2
   go_wp2_with (first|(go_at_call 78;(with_reducible refine(xZ bp _ _ n c _ _ (((BW.o _ _ BF.o).block _ rU.o).trans BX.o)).mono ?_);rintro e wn ⟨rfl,hbn⟩;have BF:=ah (BF.o.old hbn);have c0:=au (BF.o.keep KR.o H6) 0 (v:=.iface 100 (.pointer (some ⟨bp,0,none⟩))) rfl;have c1:=au (BF.o.keep KR.o H6) 1 (v:=.string (bs (91::TT))) rfl;clear hbn)|(go_at_call 82;refine((HBG.o _ BF.o).wb 93 LZ.o).mono ?_;rintro e wn ⟨rfl,bfn⟩;have BF:=ah bfn;clear bfn)|(go_at_call 83;refine BF.o.str.mono ?_;rintro e wn ⟨rfl,nn,rfl⟩))
   go_ret2
   refine⟨?_,fJ (BW.o _ _ (.inr BF.o)) _⟩
   rw[HLK.o]
   rfl
theorem ai0:(prog.info? 94).map (fun i=>(i.zero,i.size,i.bytes))=some (some (.agg #[.nilIface,.string ⟨#[]⟩]),2,32):=by kernel_rfl
theorem PZ {ops:Array Oper} {rest:List Oper} {o:Oper} {a:Act} {Q:Exit→Act→World→Prop} (hgd:o.guard=none) (s x:Operand)
  (ho:o.op=.call {callee:=.builtin .append,args:=#[s,x],argTypes:=#[152,152]}) (base:Nat) (W0 W:World) (v:Value) (k:Nat) (xs:List Value) (y z:Value) (hs:a.eval s=v) (hx:a.eval x=.slice (some ⟨W.heap.size,0,none⟩) 1 1)
  (HO:W.ownsRow base 94 2 v k xs) (HB:Below base W0 W) (hbase:base≤W.heap.size) (hy:y.oneCell'=true) (hz:z.oneCell'=true) (hk:k≤1000000)
  (h:∀v1 w1,w1.ownsRow base 94 2 v1 (k+1) (xs++[y,z])→Below base W0 w1→wpList prog ops Q rest (a.put o.dst v1) w1) :
  wpList prog ops Q (o::rest) a (W.alloc (.cells #[y,z] 94)):=by
 obtain⟨i0,hi,hzz⟩:=Option.map_eq_some_iff.1 ai0
 simp only[Prod.mk.injEq]at hzz
 obtain⟨hz0,hz1,hz2⟩:=hzz
 refine wpList_append_own (w:=W.alloc (.cells #[y,z] 94)) hgd s x 152 ho base 94 i0 _ 2 32 underlying152 hi hz0 hz1 hz2 rfl (by decide) v k xs hs (HO.alloc _) ⟨W.heap.size,0,none⟩ 1 1 [y,z] hx rfl
  (by simpa using World.news_of_block (cs:=#[y,z]) (t:=94) (fr:=(0,0)) (heap_alloc_new W (.cells #[y,z] 94))) ?_ (by simp only[maxLen];omega) (by omega) (by simp;omega) ?_
 ·intro u hu
  simp only[List.mem_cons,List.not_mem_nil,or_false]at hu
  rcases hu with rfl|rfl
  ·exact hy
  ·exact hz
 ·intro v' w' h1 h2 _
  exact h v' w' h1 ((HB.alloc hbase _).grown h2 (by simp;omega) (rE HO))
def kv (vs:List Value) (s:Value):List Value:=vs.flatMap fun v=>[v,s]
theorem afO (vs:List Value) (s:Value) (k:Nat) (h:k<vs.length):kv (vs.take k) s++[vs[k],s]=kv (vs.take (k+1)) s:=by
 unfold kv
 rw[lu h,List.flatMap_append]
 rfl
theorem ab3:∀(vs:List Value) (s:Value) (i:Nat) (h:i<vs.length),(kv vs s)[i*2]?=some vs[i]∧(kv vs s)[i*2+1]?=some s
 |a::l,s,0,h=>⟨rfl,rfl⟩
 |a::l,s,i+1,h=>by
  have:=ab3 l s i (by simpa using h)
  rw[show (i+1)*2=i*2+1+1 by omega,show i*2+1+1+1=(i*2+1)+1+1 by omega]
  simpa[kv]using this
theorem ab1 (b g n c:Nat) (vs:List Value) (ks:bG) (ty s2:Value) (sg:bG) (w:World) (hb:w.heap[b]?=some (.cells #[.string ks,ty,.slice (some ⟨g,0,none⟩) n c,s2] 132 (0,0)))
  (hn:vs.length=n) (hn1:0<n) (hm:n≤1000000) (hcell:∀i v,vs[i]?=some v→w.cell? ⟨g,i,none⟩=some v) (hif:∀i (h:i<vs.length),∃t u,vs[i]=.iface t u) :
  Calls prog 84 #[.agg #[.iface 129 (.pointer (some ⟨b,0,none⟩)),.string sg]] w fun e w'=>∃h c' kc,e=.returned (.slice (some ⟨h,0,none⟩) n c')∧w.heap.size≤h∧w'.heap[h]?=some (.cells kc 94 (0,0)) ∧
   (∀i (hi:i<vs.length),kc[i*2]?=some vs[i]∧kc[i*2+1]?=some (.string ks))∧Below w.heap.size w w':=by
 have HB:=ah ((jM w).alloc bW (.cells #[.iface 129 (.pointer (some ⟨b,0,none⟩)),.string sg] 94))
 have KB:=ah (aQ hb (.cells #[.iface 129 (.pointer (some ⟨b,0,none⟩)),.string sg] 94))
 have hlb:=lt_of_block hb
 have HC:=ah (fun i v h=>(HB.o.cell (fA w _ (hcell i v h))).trans (hcell i v h):∀i v,vs[i]?=some v→(w.alloc (.cells #[.iface 129 (.pointer (some ⟨b,0,none⟩)),.string sg] 94)).cell? ⟨g,i,none⟩=some v)
 have HG:=ah (fA w _ (hcell 0 vs[0] (gQ (by omega))))
 have HN:=ah hn
 have ZP:=ah hif
 clear hb hcell hn hif
 have k0:=au KB.o 0 (v:=.string ks) rfl
 have k2:=au KB.o 2 (v:=.slice (some ⟨g,0,none⟩) n c) rfl
 go_enter func84,ntmps84
 go_wp2
 obtain⟨w0,hw0⟩:∃w0,w.alloc (.cells #[.iface 129 (.pointer (some ⟨b,0,none⟩)),.string sg] 94)=w0:=⟨_,rfl⟩
 have hsz:w0.heap.size=w.heap.size+1:=by rw[←hw0];simp
 rw[hw0]at HB KB HC ⊢
 clear k0 k2 hw0
 go_loopw [3,15] (fun r t wr=>∃k:Nat,k≤n∧t=.int .i64 k∧wr.ownsRow (w.heap.size+1) 94 2 r k (kv (vs.take k) (.string ks))∧Below (w.heap.size+1) w0 wr) (fun _ t _=>n-(intOf t).toNat)
 case atStart=>exact⟨0,jf _,rfl,by simpa[kv]using World.ownsRow_nil _ _ _ _,jc⟩
 case round =>
  obtain⟨k,hkn,rfl,own,eX⟩:=hrel
  have OWN:=ah own
  have BN:=ah eX
  clear own eX
  by_cases hk:k<n
  ·have hkv:k<vs.length:=by rw[HN.o];exact hk
   obtain⟨t,u,hv⟩:=ZP.o k hkv
   have hc:=(BN.o.cell (p:=⟨g,k,none⟩) (by have:=HG.o;show g<_;omega)).trans (HC.o k _ (gQ hkv))
   rw[hv]at hc
   have k0:=au ((BN.o.block b (by omega)).trans KB.o) 0 (v:=.string ks) rfl
   have Jo:(k:Int)<n:=by omega
   go_wp2_with (at_builtin;refine PZ rfl (.tmp 19) (.tmp 26) rfl (w.heap.size+1) w0 _ _ k _ _ _ rfl rfl OWN.o BN.o (by have:=BN.o.size;omega) rfl rfl (by omega) ?_;intro v1 w1 h1 h2;have apR:=ah h1;have apw:=ah h2;clear h1 h2)
   go_roundw
   case rel =>
    refine⟨k+1,by omega,by go_num,?_,apw.o⟩
    rw[←afO vs _ k hkv,hv]
    exact apR.o
   case measure=>simp[intOf];omega
  ·have hke:n=k:=by omega
   subst hke
   go_wp2
   go_ret
   have ow:=OWN.o
   rw[kT (by rw[HN.o];exact bW)]at ow
   obtain⟨e1,e2⟩:=ow
   rcases e2 with ⟨_,h0⟩|⟨h,cap,cur,rfl,hB,hh,h1,h2,h3,h4⟩
   ·omega
   ·refine⟨h,cap,cur,rfl,by omega,hh,fun i hi=>?_,HB.o.trans (BN.o.mono (by omega))⟩
    obtain⟨q1,q2⟩:=ab3 vs (.string ks) i hi
    have hi2:=HN.o
    rw[←h4,List.getElem?_take,if_pos (by omega)]at q1
    rw[←h4,List.getElem?_take,if_pos (by omega)]at q2
    exact⟨by simpa using q1,by simpa using q2⟩
def RN (w:World) (b:Nat) (sg ks:bG) (t:TypeId) (u:Value):World :=
 ((w.alloc (.cells #[.iface 129 (.pointer (some ⟨b,0,none⟩)),.string sg] 94)).alloc (.cells #[.iface t u,.string ks] 94)).alloc (.cells #[.nilIface,.string ⟨#[]⟩] 94)
theorem ag5 (b g1 g2 n c1 c2 j:Nat) (vs es:List Value) (ks ty sg:bG) (t t2:TypeId) (u u2:Value) (w:World)
  (hb:w.heap[b]?=some (.cells #[.string ks,.string ty,.slice (some ⟨g1,0,none⟩) n c1,.slice (some ⟨g2,0,none⟩) n c2] 132 (0,0)))
  (hn:vs.length=n) (he:es.length=n) (hj:j<n) (hm:n≤1000000) (hcell:∀i v,vs[i]?=some v→w.cell? ⟨g1,i,none⟩=some v) (hcell2:∀i v,es[i]?=some v→w.cell? ⟨g2,i,none⟩=some v)
  (hif:∀i (h:i<vs.length),∃t u,vs[i]=.iface t u) (hvj:vs[j]?=some (.iface t u)) (hej:es[j]?=some (.iface t2 u2))
  (hne:∀i (h:i<vs.length),i<j→∀w,(binOp .eql 20 vs[i] (.iface t u)).run prog w=.ok (.bool false) w) (heq:∀w,(binOp .eql 20 (.iface t u) (.iface t u)).run prog w=.ok (.bool true) w) :
  fC 86 #[.agg #[.iface 129 (.pointer (some ⟨b,0,none⟩)),.string sg],.agg #[.iface t u,.string ks]] w (.agg #[.iface t2 u2,.string ty]):=by
 have hB0:=((((jM w).alloc bW (.cells #[.iface 129 (.pointer (some ⟨b,0,none⟩)),.string sg] 94))).alloc (by simp) (.cells #[.iface t u,.string ks] 94)).alloc (by simp;omega) (.cells #[.nilIface,.string ⟨#[]⟩] 94)
 have HB0:=ah hB0
 have hlb:=lt_of_block hb
 have KB:=ah ((hB0.block b hlb).trans hb)
 have HG1:=ah (fA w _ (hcell j _ hvj))
 have HG2:=ah (fA w _ (hcell2 j _ hej))
 have HC:=ah (fun i v h=>(hB0.cell (fA w _ (hcell i v h))).trans (hcell i v h):∀i v,vs[i]?=some v→(RN w b sg ks t u).cell? ⟨g1,i,none⟩=some v)
 have C2:=ah ((hB0.cell (fA w _ (hcell2 j _ hej))).trans (hcell2 j _ hej))
 have HN:=ah hn
 have HVJ:=ah hvj
 have ZP:=ah hif
 have Qn:=ah hne
 have K1:=ah (show(RN w b sg ks t u).heap[w.heap.size+1]?=some (.cells #[.iface t u,.string ks] 94 (0,0))from aQ (aV _ _ _ (by simp)) _)
 have K2:=ah (show(RN w b sg ks t u).heap[w.heap.size+1+1]?=some (.cells #[.nilIface,.string ⟨#[]⟩] 94 (0,0))from aV _ _ _ (by simp))
 have k0:=au KB.o 2 (v:=.slice (some ⟨g1,0,none⟩) n c1) rfl
 have hsz:(RN w b sg ks t u).heap.size=w.heap.size+3:=by unfold RN;simp
 clear hb hcell hcell2 hif hvj hej hne hn hB0
 go_enter func86,ntmps86
 go_wp2
 rw[show ((w.alloc (.cells #[.iface 129 (.pointer (some ⟨b,0,none⟩)),.string sg] 94)).alloc (.cells #[.iface t u,.string ks] 94)).alloc (.cells #[.nilIface,.string ⟨#[]⟩] 94)=RN w b sg ks t u from rfl]at *
 clear k0
 generalize RN w b sg ks t u=w0 at *
 go_loopw [15] (fun t wr=>∃k:Nat,k≤j∧t=.int .i64 k∧Below w0.heap.size w0 wr) (fun t _=>n-(intOf t).toNat)
 case atStart=>exact⟨0,jf _,rfl,jc⟩
 case round =>
  obtain⟨k,hkn,rfl,eX⟩:=hrel
  have BN:=ah eX
  clear eX
  have hkv:k<vs.length:=by rw[HN.o];omega
  have k2:=au ((BN.o.block b (by omega)).trans KB.o) 2 (v:=.slice (some ⟨g1,0,none⟩) n c1) rfl
  have k3:=au ((BN.o.block b (by omega)).trans KB.o) 3 (v:=.slice (some ⟨g2,0,none⟩) n c2) rfl
  have k1:=au ((BN.o.block b (by omega)).trans KB.o) 1 (v:=.string ty) rfl
  have kk:=au ((BN.o.block _ (by omega)).trans K1.o) 0 (v:=.iface t u) rfl
  have Jo:(k:Int)<n:=by omega
  by_cases hk:k=j
  ·subst hk
   have hc:=(BN.o.cell (p:=⟨g1,k,none⟩) (by have:=HG1.o;show g1<_;omega)).trans (HC.o k _ HVJ.o)
   have he2:=(BN.o.cell (p:=⟨g2,k,none⟩) (by have:=HG2.o;show g2<_;omega)).trans C2.o
   have kr:=(BN.o.block _ (by omega)).trans K2.o
   have q0:=au kr 0 (v:=.nilIface) rfl
   have q1:=au kr 1 (v:=.string ⟨#[]⟩) rfl
   have f0:=aI kr 0
   have f1:=aI kr 1
   have KR:=ah kr
   clear kr
   go_wp2
   go_region
   all_goals (
    go_wp2
    go_region
    all_goals (
     go_wp2
     refine iW (v:=.agg #[.iface t2 u2,.string ty]) ?_ rfl ⟨rfl,?_⟩
     ·have kq:=Joins.block_setCell (i:=1) (Joins.block_setCell (i:=0) KR.o (.iface t2 u2)) (.string ty)
      have r0:=au kq 0 (v:=.iface t2 u2) rfl
      have r1:=au kq 1 (v:=.string ty) rfl
      simp[results,results86,go_sem,r0,r1]
     ·exact(((HB0.o.trans (BN.o.mono (by omega))).setCell (p:=⟨w.heap.size+1+1,0,none⟩) (show w.heap.size≤w.heap.size+1+1 by omega) _).setCell (p:=⟨w.heap.size+1+1,1,none⟩) (show w.heap.size≤w.heap.size+1+1 by omega) _).drew.drew))
  ·obtain⟨tk,uk,hv⟩:=ZP.o k hkv
   have hne:=Qn.o k hkv (by omega)
   have hc:=(BN.o.cell (p:=⟨g1,k,none⟩) (by have:=HG1.o;show g1<_;omega)).trans (HC.o k _ (gQ hkv))
   rw[hv]at hc hne
   go_wp2
   go_region
   all_goals (
    go_wp2
    go_roundw
    case rel=>exact⟨k+1,by omega,by go_num,fJ BN.o 1⟩
    case measure=>simp[intOf];omega)
section
theorem D5 {B b V:Nat} {bs:List Value} {c:Array Value} {fz:Nat×Nat} {w w':World} (h:Lib.IsBuffer 151 5 B b bs w) (hV:w.heap[V]?=some (.cells c 9 fz)) (hs:∀k,k≠V→k<w.heap.size→w'.heap[k]?=w.heap[k]?):Lib.IsBuffer 151 5 B b bs w':=by
 obtain⟨hB,v,lr,hbk,hown,hne⟩:=h
 have hbV:b≠V:=by rintro rfl;rw[hV]at hbk;simp at hbk
 refine⟨hB,v,lr,(hs b hbV (lt_of_block hbk)).trans hbk,⟨hown.1,?_⟩,hne⟩
 rcases hown.2 with hn|⟨g,cap,cur,hv,h0,hg,rest⟩
 ·exact .inl hn
 ·refine .inr ⟨g,cap,cur,hv,h0,(hs g ?_ (lt_of_block hg)).trans hg,rest⟩
  rintro rfl
  rw[hV]at hg
  simp at hg
def strs (ss:List (List UInt8)):Array Value:=(ss.map Go.Proofs.encStr).toArray
theorem agr (ss:List (List UInt8)) (i:Nat) (h:i<ss.length):(strs ss)[i]?=some (.string (bs ss[i])):=by
 unfold strs
 rw[List.getElem?_toArray,List.getElem?_map,gQ h]
 rfl
def pad (S:List (List UInt8)) (n k:Nat):List (List UInt8):=S.take k++List.replicate (n-k) []
theorem acG (S:List (List UInt8)) (n:Nat):pad S n 0=List.replicate n []:=by simp[pad]
theorem acF (S:List (List UInt8)):pad S S.length S.length=S:=by simp[pad]
theorem af8 (S:List (List UInt8)) (k:Nat) (h:k<S.length):(strs (pad S S.length k)).setIfInBounds k (.string (bs S[k]))=strs (pad S S.length (k+1)):=by
 unfold strs
 rw[List.setIfInBounds_toArray]
 congr 1
 rw[show Value.string (bs S[k])=Go.Proofs.encStr S[k]from rfl,←List.map_set]
 congr 1
 unfold pad
 rw[List.set_append_right _ _ (by rw[List.length_take];omega),List.length_take,Nat.min_eq_left (by omega),Nat.sub_self,show S.length-k=(S.length-(k+1))+1 by omega,List.replicate_succ,List.set_cons_zero,lu h,ni]
 rfl
structure Dx (B V:Nat) (hs:List (Nat×Array Value)) (row:Array Value) (l:List UInt8) (W0 w:World):Prop where
 buf:Lib.IsBuffer 151 5 B B (Lib.byteCells l) w
 row:w.heap[V]?=some (.cells row 9 (0,0))
 keys:∀p∈hs,w.heap[p.1]?=some (.cells p.2 94 (0,0))∧B<p.1
 eX:Below B W0 w
 lV:B<V
section
variable {B V:Nat} {hs:List (Nat×Array Value)} {row:Array Value} {l:List UInt8} {W0 w w':World}
theorem Dx.le (h:Dx B V hs row l W0 w):B≤w.heap.size:=Nat.le_of_lt (lt_of_block (h.buf.2.choose_spec.choose_spec.1))
theorem Dx.old (h:Dx B V hs row l W0 w) (hb:Below w.heap.size w w'):Dx B V hs row l W0 w' :=
 ⟨h.buf.old hb,(hb.block _ (lt_of_block h.row)).trans h.row,fun p hp=>⟨(hb.block _ (lt_of_block (h.keys p hp).1)).trans (h.keys p hp).1,(h.keys p hp).2⟩,h.eX.trans (hb.mono h.le),h.lV⟩
theorem Dx.kept {l':List UInt8} (h:Dx B V hs row l W0 w) (h1:Lib.IsBuffer 151 5 B B (Lib.byteCells l') w') (h2:Below B w w') (h3:Lib.OthersKept 5 (some B) w w'):Dx B V hs row l' W0 w' :=
 ⟨h1,h3 _ _ h.row (by have:=h.lV;simp;omega) (by simp),fun p hp=>⟨h3 _ _ (h.keys p hp).1 (by have:=(h.keys p hp).2;simp;omega) (by simp),(h.keys p hp).2⟩,h.eX.trans h2,h.lV⟩
theorem Dx.ws (h:Dx B V hs row l W0 w) (s:bG) (hl:l.length+s.size≤100000000) :
  Calls prog 81 #[.pointer (some ⟨B,0,none⟩),.string s] w fun e w'=>e=.returned (.tuple #[.int .i64 s.size,.nilIface])∧Dx B V hs row (l++s.data.toList) W0 w' :=
 (Tryz.Buffer_WriteString_k B B _ s w h.buf h.le (Lib.byteCells_one _) (by rw[Lib.byteCells_length];omega)).mono (by
   rintro e w' ⟨rfl,h1,h2,h3⟩
   exact⟨rfl,h.kept (by rw[Lib.byteCells_append];exact h1) h2 h3⟩)
theorem Dx.wb (h:Dx B V hs row l W0 w) (c:UInt8) (hl:l.length≤100000000) :
  Calls prog 82 #[.pointer (some ⟨B,0,none⟩),.int .u8 (c.toNat:Nat)] w fun e w'=>e=.returned .nilIface∧Dx B V hs row (l++[c]) W0 w' :=
 (Tryz.Buffer_WriteByte_k B B _ (c.toNat:Nat) w h.buf h.le (Lib.byteCells_one _) (by rw[Lib.byteCells_length];omega)).mono (by
   rintro e w' ⟨rfl,h1,h2,h3⟩
   exact⟨rfl,h.kept (by rw[Lib.byteCells_append];exact h1) h2 h3⟩)
theorem Dx.rs (h:Dx B V hs row l W0 w):Calls prog 85 #[.pointer (some ⟨B,0,none⟩)] w fun e w'=>e=.returned (.tuple #[])∧Dx B V hs row [] W0 w' :=
 (Tryz.Buffer_Reset_k B B _ w h.buf).mono (by
   rintro e w' ⟨rfl,h1,h2,h3⟩
   exact⟨rfl,h.kept h1 h2 h3⟩)
theorem Dx.str (h:Dx B V hs row l W0 w):Calls prog 83 #[.pointer (some ⟨B,0,none⟩)] w fun e w'=>e=.returned (.string (bs l))∧Dx B V hs row l W0 w' :=
 (Tryz.Buffer_String B B l w h.buf).mono (by
   rintro e w' ⟨rfl,n,rfl⟩
   exact⟨rfl,h.old (fJ jc n)⟩)
theorem Dx.alloc (h:Dx B V hs row l W0 w) (o:Obj):Dx B V hs row l W0 (w.alloc o):=h.old (gG _)
theorem Dx.add (h:Dx B V hs row l W0 w) (c:Array Value):Dx B V ((w.heap.size,c)::hs) row l W0 (w.alloc (.cells c 94)):=by
 have h2:=h.alloc (.cells c 94)
 refine⟨h2.buf,h2.row,fun p hp=>?_,h2.eX,h2.lV⟩
 rcases List.mem_cons.1 hp with rfl|hp
 ·exact⟨heap_alloc_new _ _,lt_of_block (h.buf.2.choose_spec.choose_spec.1)⟩
 ·exact h2.keys p hp
theorem Dx.tail {p:Nat×Array Value} (h:Dx B V (p::hs) row l W0 w):Dx B V hs row l W0 w:=⟨h.buf,h.row,fun q hq=>h.keys q (List.mem_cons_of_mem _ hq),h.eX,h.lV⟩
theorem Dx.vk (h:Dx B V hs row l W0 w) (p:Nat×Array Value) (hp:p∈hs):p.1≠V:=by
 intro e
 have:=(h.keys p hp).1
 rw[e,h.row]at this
 simp at this
theorem Dx.set (h:Dx B V hs row l W0 w) (i:Nat) (v:Value):Dx B V hs (row.setIfInBounds i v) l W0 (w.setCell ⟨V,i,none⟩ v) :=
 ⟨D5 h.buf h.row (fun k hk _=>ku _ _ _ _ hk),Joins.block_setCell h.row _,fun p hp=>⟨by rw[ku _ _ _ _ (h.vk p hp)];exact(h.keys p hp).1,(h.keys p hp).2⟩,h.eX.setCell (p:=⟨V,i,none⟩) (Nat.le_of_lt h.lV) _,h.lV⟩
theorem Dx.sort {ss:List (List UInt8)} (h:Dx B V hs (strs ss) l W0 w) (n cap:Nat) (hn:ss.length=n) (hl:n≤1000000) :
  Calls prog 87 #[.slice (some ⟨V,0,none⟩) n cap] w fun e w'=>e=.returned (.tuple #[])∧Dx B V hs (strs (qo ss)) l W0 w':=by
 subst hn
 exact(sort_Strings V 0 cap ss w (holds_of_block h.row (by show List.take ss.length (List.map encStr ss)=_;exact kT (by simp))) (lt_of_block h.row) (by omega)).mono (by
  rintro e w' ⟨rfl,n,os,rfl⟩
  have hg:=grownBy_sorted (w:=w) (g:=V) (n:=n) (os:=os) (qo ss).toArray
  have hsl:(qo ss).length=ss.length:=by simp[qo]
  refine⟨rfl,D5 h.buf h.row (fun k hk hlt=>hg.block k hlt (by simp;exact hk)),?_,fun p hp=>⟨(hg.block _ (lt_of_block (h.keys p hp).1) (by simp;exact h.vk p hp)).trans (h.keys p hp).1,(h.keys p hp).2⟩,h.eX.grown hg h.le (fun k hk=>by cases hk;exact Nat.le_of_lt h.lV),h.lV⟩
  have h1:=heap_sorted (n:=n) (os:=os) (qo ss).toArray h.row
  have h2:=take_putCells (strs ss) (qo ss) (by simp[strs,hsl])
  rw[kT (by simp[Sort.putCells,strs,hsl])]at h2
  have h3:Sort.putCells Go.Proofs.encStr 0 (qo ss).toArray (strs ss)=strs (qo ss):=by
   rw[←Array.toArray_toList (xs:=Sort.putCells _ _ _ _),h2];rfl
  rw[h3]at h1
  exact h1)
end
theorem abS:(prog.info? 9).map (fun i=>(i.zero,i.size,i.bytes))=some (some (.string ⟨#[]⟩),1,16):=by kernel_rfl
theorem af0 (n:Nat) (hn:n≤1000000) (w:World):(Instr.makeSlice 119 (.int .i64 n) (.int .i64 n)).run prog w=.ok (.slice (some ⟨w.heap.size,0,none⟩) n n) (w.alloc (.cells (strs (List.replicate n [])) 9)):=by
 obtain⟨i0,hi,hzz⟩:=Option.map_eq_some_iff.1 abS
 simp only[Prod.mk.injEq]at hzz
 obtain⟨hz0,hz1,hz2⟩:=hzz
 have h:=run_makeSlice (P:=prog) (w:=w) 119 9 i0 _ underlying119 hi hz0 .i64 .i64 n n (by omega) (Int.le_refl _) (by rw[hz1];simp;omega) (by rw[hz2];omega) (by omega)
 rw[h]
 simp only[Int.toNat_natCast,hz1]
 have e:madeCells (Value.string ⟨#[]⟩).cells (n*1)=strs (List.replicate n []):=by
  rw[←Array.toArray_toList (xs:=madeCells _ _),show(Value.string ⟨#[]⟩).cells=#[.string ⟨#[]⟩]from rfl,toList_madeCells_one,Nat.mul_one]
  simp[strs]
 rw[e]
end
theorem Pm (x:Sc) (hx:x.isKey):(A.sc x).dN.f_:=by
 cases x<;>first|exact hx.elim|exact⟨by simp[A.dN,T.wf,Sc.code,dM],by simp[A.dN,T.fits],by simp[A.dN,T.sig],by simp[A.dN,T.ty]⟩
theorem Gu:∀(l:List (List UInt8)) (a:List UInt8),l≠[]→jm (l++[a])=jm l++[44,32]++a
 |[],a,h=>absurd rfl h
 |[b],a,_=>rfl
 |b::c::l,a,_=>by
  have:=Gu (c::l) a (by simp)
  simp only[lF]at this
  simp only[jm,lF,this,ni]
theorem O_ (l:List (List UInt8)) (h:0<l.length):jm (l.take 0)++l[0]=jm (l.take 1):=by
 cases l with
 |nil=>simp at h
 |cons a l=>rfl
theorem S_ (l:List (List UInt8)) (k:Nat) (h:k<l.length) (h0:k≠0):jm (l.take k)++[44,32]++l[k]=jm (l.take (k+1)):=by
 rw[lu h,Gu]
 intro e
 have:=congrArg List.length e
 rw[List.length_take,kW]at this
 omega
theorem Tc (l:List (List UInt8)) (k:Nat):(jm (l.take k)).length≤ll l:=by
 refine Nat.le_trans (qN _) ?_
 induction l generalizing k with
 |nil=>simp[ll]
 |cons a l ih =>
  cases k with
  |zero=>simp[ll]
  |succ k=>simp only[List.take_succ_cons,ll];have:=ih k;omega
theorem XB:∀(ks es:List A) (k:Nat) (h:k<ks.length) (h2:k<es.length) (h':k<(List.zipWith tH (A.eG ks) (A.eG es)).length),(List.zipWith tH (A.eG ks) (A.eG es))[k]=ks[k].fmt.1++[58,32]++es[k].fmt.1
 |a::ks,b::es,0,h,h2,h'=>rfl
 |a::ks,b::es,k+1,h,h2,h'=>by
  simp only[A.eG,List.zipWith_cons_cons,List.getElem_cons_succ]
  exact XB ks es k (by simpa using h) (by simpa using h2) _
theorem ajp (S:List (List UInt8)) (k:Nat) (h:k<S.length):(strs (pad S S.length k))[k]?=some (.string ⟨#[]⟩):=by
 unfold strs pad
 rw[List.getElem?_toArray,List.getElem?_map,List.getElem?_append_right (by rw[List.length_take];omega),List.length_take,Nat.min_eq_left (by omega),Nat.sub_self,List.getElem?_replicate,if_pos (by omega)]
 rfl
theorem adJ {ks es:List A} {S:List (List UInt8)} {n k B V H:Nat} {kc:Array Value} {W0 wn:World} {hs0:Nat×Array Value} {l t s:List UInt8} {X:Bool} (hk:k<n)
  (hall:(((A.eG ks).take (k+1)).all Prod.snd&&((A.eG es).take (k+1)).all Prod.snd)=X) (hps:(strs (pad S n k)).setIfInBounds k (.string (bs s))=strs (pad S n (k+1))) (hct:bs t=bs s)
  (dx:Dx B V [hs0,(H,kc)] (strs (pad S n k)) l W0 wn) :
  (∃(k_1:Nat) (l:List UInt8),k_1≤n∧Value.int .i64 ((k:Int)+1)=.int .i64 (k_1:Nat)∧Value.bool X=.bool (((A.eG ks).take k_1).all Prod.snd&&((A.eG es).take k_1).all Prod.snd)∧Dx B V [(H,kc)] (strs (pad S n k_1)) l W0 (wn.setCell ⟨V,k,none⟩ (.string (bs t)))) ∧
    n-(intOf (.int .i64 ((k:Int)+1))).toNat<n-(intOf (.int .i64 (k:Int))).toNat:=by
 refine⟨⟨k+1,l,hk,by push_cast;rfl,by rw[hall],?_⟩,by simp[intOf];omega⟩
 rw[←hps,hct]
 exact(dx.set k _).tail
theorem JV {L:List (List UInt8)} {n k B V:Nat} {hs:List (Nat×Array Value)} {row:Array Value} {W0 wn:World} {l:List UInt8} (hk:k<n) (h:l=jm (L.take (k+1)))
  (dx:Dx B V hs row (123::l) W0 wn) :
  (∃(k_1:Nat),k_1≤n∧Value.int .i64 ((k:Int)+1)=.int .i64 (k_1:Nat)∧Dx B V hs row (123::jm (L.take k_1)) W0 wn) ∧
    n-(intOf (.int .i64 ((k:Int)+1))).toNat<n-(intOf (.int .i64 (k:Int))).toNat:=by
 refine⟨⟨k+1,hk,by push_cast;rfl,?_⟩,by simp[intOf];omega⟩
 rw[←h]
 exact dx
theorem aa0 (kd:UInt8) (t:T) (ks es:List A) (hg:(A.dict kd t ks es).dN.f_) (h:(A.dict kd t ks es).wQ) (hl:(A.dict kd t ks es).tl≤10000000) (hne:ks≠[]) (ihk:∀(i:Nat) (h:i<ks.length),og ks[i]) (ihe:∀(i:Nat) (h:i<es.length),og es[i]):og (.dict kd t ks es):=by
 intro ok v w hv pt
 obtain⟨bp,s1,s2,vs1,vs2,rfl,-,hbk,hr1,Gq,hr2,OX⟩:=id hv
 obtain⟨hle,hlm,⟨xs,hxs,hnd,hxk⟩,OY,htg,hko,hfk,hfe⟩:=h
 have hlen1:=Gq.len
 have hlen2:=OX.len
 obtain⟨A1,p1,rfl,hc1,hcm1,hrow1⟩:=hr1.cell
 obtain⟨A2,p2,rfl,hc2,hcm2,hrow2⟩:=hr2.cell
 have hn1:0<ks.length:=List.length_pos_iff.2 hne
 obtain⟨g1,rfl,hcell1⟩:=hrow1 (by omega)
 obtain⟨g2,rfl,hcell2⟩:=hrow2 (by omega)
 have hlk:=A.qJ ks hfk
 have hlv:=A.qJ es hfe
 have hlz:=Tn (A.eG ks) (A.eG es)
 simp only[A.tl]at hl
 have hzl:(List.zipWith tH (A.eG ks) (A.eG es)).length=ks.length:=by rw[List.length_zipWith,A.kC,A.kC];omega
 have hzg:=XB ks es
 have e1:(A.dict kd t ks es).fmt.1=[123]++jm (qo (List.zipWith tH (A.eG ks) (A.eG es)))++[125]:=by simp only[A.fmt];rw[if_neg (by simpa using hne)]
 have e2:(A.dict kd t ks es).fmt.2=((A.eG ks).all Prod.snd&&(A.eG es).all Prod.snd):=by simp only[A.fmt];rw[if_neg (by simpa using hne)]
 rw[e1,e2]
 obtain⟨S,hS⟩:∃S,List.zipWith tH (A.eG ks) (A.eG es)=S:=⟨_,rfl⟩
 rw[hS]at hzl hlz ⊢
 have hzg:∀k (h:k<ks.length) (h2:k<es.length) (h':k<S.length),S[k]=ks[k].fmt.1++[58,32]++es[k].fmt.1:=by subst hS;exact hzg
 have hsp:ll (qo S)=ll S:=WY (List.mergeSort_perm _ _)
 have hsl:(qo S).length=S.length:=by simp[qo]
 have hsig:(A.dict kd t ks es).dN.sig=97::123::kd::(t.sig++[125]):=rfl
 have hty:(A.dict kd t ks es).dN.ty=123::kd::t.ty:=rfl
 have hgt:(A.dict kd t ks es).dN.ty.length≤1000000:=hg.2.2.2
 have VO:=ah (fun W h=>valueOf (A.dict kd t ks es) hgt _ ok W h:∀W,HA W ok (A.dict kd t ks es) (.iface 129 (.pointer (some ⟨bp,0,none⟩)))→_)
 rw[hty]at VO
 rw[hsig]
 have hix:∀w,(Instr.index 9 (.string (bs (97::123::kd::(t.sig++[125])))) (.int .i64 0)).run prog w=.ok (.int .u8 97) w:=fun w=>ix0 97 _ w
 have hvx:∀i (h:i<xs.length) (h':i<vs1.length),vs1[i]=(xs[i]).val:=fun i h h'=>by
  obtain⟨v,hv1,hv2⟩:=Gq.get i (by rw[hxs];simpa using h)
  rw[gQ h']at hv1
  cases hv1
  have:ks[i]'(by rw[hxs];simpa using h)=A.sc xs[i]:=by subst hxs;simp
  rw[this]at hv2
  exact hv2
 have hxl:xs.length=ks.length:=by rw[hxs];simp
 have ZP:=ah (fun i h=>by rw[hvx i (by omega) h];exact qQ _:∀i (h:i<vs1.length),∃t u,vs1[i]=.iface t u)
 have ahB:=ah (fun i j h h' hij w=>by rw[hvx i (by omega) h,hvx j (by omega) h'];exact Xe _ _ (hxk _ (nZ _)).1 ((hxk _ (nZ _)).2.trans (hxk _ (nZ _)).2.symm) (fun e=>List.pairwise_iff_getElem.1 hnd i j (by omega) (by omega) hij e) w:∀i j (h:i<vs1.length) (h':j<vs1.length),i<j→∀w,(binOp .eql 20 vs1[i] vs1[j]).run prog w=.ok (.bool false) w)
 have ahx:=ah (fun j h' w=>by rw[hvx j (by omega) h'];exact MX _ (hxk _ (nZ _)).1 w:∀j (h':j<vs1.length),∀w,(binOp .eql 20 vs1[j] vs1[j]).run prog w=.ok (.bool true) w)
 have HGK:=ah (fun e he=>by subst hxs;obtain⟨x,hx,rfl⟩:=List.mem_map.1 he;exact Pm x (hxk x hx).1:∀e∈ks,e.dN.f_)
 have HGE:=ah (fun e he=>OY e he▸htg:∀e∈es,e.dN.f_)
 obtain⟨KS,hKS⟩:∃KS,bs [kd]=KS:=⟨_,rfl⟩
 obtain⟨TY,hTY⟩:∃TY,bs t.ty=TY:=⟨_,rfl⟩
 rw[hKS,hTY]at hbk
 obtain⟨TT,OT⟩:∃TT,kd::t.ty=TT:=⟨_,rfl⟩
 rw[OT]at VO
 obtain⟨R',hR'⟩:∃R',123::kd::(t.sig++[125])=R':=⟨_,rfl⟩
 rw[hR']at hix ⊢
 obtain⟨n,hn⟩:∃n,vs1.length=n:=⟨_,rfl⟩
 have hn2:vs2.length=n:=by omega
 rw[hn,hn2]at hbk
 have hn0:0<n:=by omega
 have HV:=ah hv
 have PT:=ah pt
 have HC1:=ah hcell1
 have HC2:=ah hcell2
 have ahz:=ah Gq
 have ahA:=ah OX
 have rU:=ah (lt_of_block hbk)
 have BX:=ah hbk
 have HN:=ah (⟨hn,hn2⟩:vs1.length=n∧vs2.length=n)
 have HL:=ah (⟨by omega,by omega,by omega⟩:ks.length=n∧es.length=n∧S.length=n)
 have Ed:=ah (by omega:ll S≤10000000)
 obtain⟨L,hL⟩:∃L,qo S=L:=⟨_,rfl⟩
 rw[hL]at hsp hsl ⊢
 have HSP:=ah (⟨hsp,hsl,hL⟩:ll L=ll S∧L.length=S.length∧qo S=L)
 have HZG:=ah hzg
 have HIK:=ah ihk
 have HIE:=ah ihe
 have hnm:n≤1000000:=by omega
 have hmk:=af0 n hnm
 clear hL e1 e2 hsig hty hR' OT hTY hKS hv Gq OX hr1 hr2 hrow1 hrow2 hcell1 hcell2 pt hg hgt hbk OY htg hnd hxk hvx hxl hxs hzg hzl hlz hsp hsl hlk hlv hl hS ihk ihe hfk hfe hko hlen1 hlen2 hn hn2 hn1 hne hcm1 hcm2 hle hlm hc1 hc2
 have hnz:((n:Int)==0)=false:=by simp;omega
 go_enter func54,ntmps54
 go_wp2_with (first
  |(go_at_call 52;refine(VO.o _ (HV.o.below (gG _))).mono ?_;rintro e w1 ⟨rfl,hb1⟩;have ⟨hB,kr,hlt⟩:=dP hb1;have HB1:=aj.mk hB;clear hb1 kr hB)
  |(go_at_call 77;refine(lN _ _ 123 _ 14 rfl _).mono ?_;rintro e w2 ⟨rfl,hb2⟩;refine Hid.o ?_))
 refine ah ?_
 have hb2':Below (w1.alloc (.cells #[.iface 129 (.pointer (some ⟨bp,0,none⟩)),.string (bs (123::TT))] 94)).heap.size (w1.alloc (.cells #[.iface 129 (.pointer (some ⟨bp,0,none⟩)),.string (bs (123::TT))] 94)) w2:=hb2
 clear hb2
 obtain⟨hB2,yM,hlt2⟩:=dP hb2'
 have HB2:=ah (HB1.o.trans (hB2.mono HB1.o.size))
 have KR:=ah yM
 have c0:=au yM 0 (v:=.iface 129 (.pointer (some ⟨bp,0,none⟩))) rfl
 have c1:=au yM 1 (v:=.string (bs (123::TT))) rfl
 clear hb2' hB2 yM HB1
 go_wp2_with (go_at_call 78;(with_reducible refine(MH bp _ _ _ _ n p1 _ _ ((HB2.o.block _ rU.o).trans BX.o)).mono ?_);rintro e w3 ⟨rfl,hb3⟩;refine Hid.o ?_)
 refine ah ?_
 have HB3:=ah (HB2.o.trans (hb3.mono HB2.o.size))
 have KR:=ah ((hb3.block _ (lt_of_block KR.o)).trans KR.o)
 have H6:w1.heap.size<w3.heap.size:=lt_of_block KR.o
 clear hb3 c0 c1 HB2 hlt hlt2
 have BF:=ah (Lib.fresh_isBuffer 151 5 w3)
 have BL:=ah ((jM w3).alloc bW (.cells #[.slice none 0 0,.int .i64 0,.int .i8 0] 151))
 have BW:=ah (fun W h=>HB3.o.trans (h.mono HB3.o.size):∀W,Below w3.heap.size w3 W→Below w.heap.size w W)
 have c0:=au ((BL.o.block _ H6).trans KR.o) 0 (v:=.iface 129 (.pointer (some ⟨bp,0,none⟩))) rfl
 have c1:=au ((BL.o.block _ H6).trans KR.o) 1 (v:=.string (bs (123::TT))) rfl
 go_wp2_with (go_at_call 78;(with_reducible refine(MH bp _ _ _ _ n p1 _ _ (((BW.o _ BL.o).block _ rU.o).trans BX.o)).mono ?_);rintro e w4 ⟨rfl,hb4⟩;refine Hid.o ?_)
 refine ah ?_
 have hs4:w3.heap.size<w4.heap.size:=by have:=hb4.size;simp at this;omega
 have BF:=ah (BF.o.old hb4)
 have BL:=ah (BL.o.trans (hb4.mono (by simp)))
 clear hb4 c0 c1
 have BL2:=ah (BL.o.alloc (Nat.le_of_lt hs4) (.cells (strs (List.replicate n [])) 9))
 have c0:=au ((BL2.o.block _ H6).trans KR.o) 0 (v:=.iface 129 (.pointer (some ⟨bp,0,none⟩))) rfl
 have c1:=au ((BL2.o.block _ H6).trans KR.o) 1 (v:=.string (bs (123::TT))) rfl
 go_wp2_with (go_at_call 84;(with_reducible refine(ab1 bp g1 n p1 vs1 KS _ _ _ _ (((BW.o _ BL2.o).block _ rU.o).trans BX.o) HN.o.1 hn0 hnm (fun i v h=>((BW.o _ BL2.o).cell (fA w _ (HC1.o i v h))).trans (HC1.o i v h)) ZP.o).mono ?_);rintro e w5 ⟨H,p5,kc,rfl,hH,hkc,hkg,hb5⟩;refine Hid.o ?_)
 refine ah ?_
 have dx:Dx w3.heap.size w4.heap.size [(H,kc)] (strs (pad S n 0)) [] w3 w5:=by
  have hp:w3.heap.size<H:=by simp at hH;omega
  refine⟨(BF.o.old (gG _)).old hb5,?_,fun p hp'=>?_,BL2.o.trans (hb5.mono (by simp;omega)),hs4⟩
  ·rw[acG]
   exact(hb5.block _ (by simp)).trans (aV _ _ _ rfl)
  ·simp only[List.mem_singleton]at hp'
   subst hp'
   exact⟨hkc,hp⟩
 have HKG:=ah hkg
 have DX:=ah dx
 clear dx hH hkc hb5 BL BL2 BF c0 c1 hkg
 generalize w4.heap.size=V at *
 go_wp2
 go_loopw [12,157] (fun b t wr=>∃(k:Nat) (l:List UInt8),k≤n∧t=.int .i64 k∧b=.bool (((A.eG ks).take k).all Prod.snd&&((A.eG es).take k).all Prod.snd)∧Dx w3.heap.size V [(H,kc)] (strs (pad S n k)) l w3 wr) (fun _ t _=>n-(intOf t).toNat)
 case atStart=>exact⟨0,[],jf _,rfl,rfl,DX.o⟩
 case round =>
  obtain⟨k,l,hkn,rfl,rfl,dx⟩:=hrel
  clear DX
  by_cases hk:k<n
  ·have hk1:k<ks.length:=by rw[HL.o.1];exact hk
   have hk2:k<es.length:=by rw[HL.o.2.1];exact hk
   have hkS:k<S.length:=by rw[HL.o.2.2];exact hk
   have hkv:k<vs1.length:=by rw[HN.o.1];exact hk
   have SB:k<(A.eG ks).length:=by rw[A.kC];exact hk1
   have hke:k<(A.eG es).length:=by rw[A.kC];exact hk2
   obtain⟨vk,hvk,BU⟩:=ahz.o.get k hk1
   obtain⟨tk,uk,rfl⟩:=BU.iface
   obtain⟨ve,hve,HAe⟩:=ahA.o.get k hk2
   obtain⟨tv,uv,rfl⟩:=HAe.iface
   have Lj:vs1[k]=.iface tk uk:=by rw[gQ hkv]at hvk;exact dU hvk
   have Qn:=ah (fun i h hi=>Lj▸ahB.o i k h hkv hi:∀i (h:i<vs1.length),i<k→∀w,(binOp .eql 20 vs1[i] (.iface tk uk)).run prog w=.ok (.bool false) w)
   have HEQ:=ah (Lj▸ahx.o k hkv:∀w,(binOp .eql 20 (.iface tk uk) (.iface tk uk)).run prog w=.ok (.bool true) w)
   have ahD:=ah hvk
   have ahC:=ah hve
   have Qo:=ah BU
   have HVE:=ah HAe
   have hgk:(ks[k]).dN.f_:=HGK.o _ (nZ hk1)
   have hge:(es[k]).dN.f_:=HGE.o _ (nZ hk2)
   obtain⟨hq0,hq1⟩:=HKG.o k hkv
   rw[Lj]at hq0
   have h0:=au (dx.keys _ (.head _)).1 (k*2) hq0
   have h1:=au (dx.keys _ (.head _)).1 (k*2+1) hq1
   have DX:=ah (dx.add #[.iface tk uk,.string KS])
   have HPK:=ah (by have:=ajp S k hkS;rwa [HL.o.2.2]at this:(strs (pad S n k))[k]?=some (.string ⟨#[]⟩))
   have QD:=ah (by have:=af8 S k hkS;rwa [HL.o.2.2]at this:(strs (pad S n k)).setIfInBounds k (.string (bs S[k]))=strs (pad S n (k+1)))
   have c0:=au ((dx.eX.block _ H6).trans KR.o) 0 (v:=.iface 129 (.pointer (some ⟨bp,0,none⟩))) rfl
   have c1:=au ((dx.eX.block _ H6).trans KR.o) 1 (v:=.string (bs (123::TT))) rfl
   clear dx hvk hve BU HAe Lj hq0 hq1
   have hall:(((A.eG ks).take (k+1)).all Prod.snd&&((A.eG es).take (k+1)).all Prod.snd)=(((((A.eG ks).take k).all Prod.snd&&((A.eG es).take k).all Prod.snd)&&(ks[k]).fmt.2)&&(es[k]).fmt.2):=by
    rw[all_succ _ k SB,all_succ _ k hke,A.ru ks k hk1,A.ru es k hk2]
    cases ((A.eG ks).take k).all Prod.snd<;>cases ((A.eG es).take k).all Prod.snd<;>cases (ks[k]).fmt.2<;>rfl
   have Ef:=ah (fun W h1 h2=>HIK.o k hk1 ok (.iface tk uk) W h1 h2:∀W,HA W ok ks[k] (.iface tk uk)→l7 W→fC 54 #[.agg #[.string (bs (ks[k]).dN.sig),.iface tk uk]] W (.tuple #[.string (bs (ks[k]).fmt.1),.bool (ks[k]).fmt.2]))
   have IHE:=ah (fun W h1 h2=>HIE.o k hk2 ok (.iface tv uv) W h1 h2:∀W,HA W ok es[k] (.iface tv uv)→l7 W→fC 54 #[.agg #[.string (bs (es[k]).dN.sig),.iface tv uv]] W (.tuple #[.string (bs (es[k]).fmt.1),.bool (es[k]).fmt.2]))
   have hct:bs ((bs (ks[k]).fmt.1).data.toList++58::32::(bs (es[k]).fmt.1).data.toList)=bs S[k]:=by
    rw[HZG.o k hk1 hk2 hkS,m_,m_]
    simp only[ni,lF,List.nil_append]
   have hsz1:(bs (ks[k]).fmt.1).size+2+(bs (es[k]).fmt.1).size≤10000000:=by
    have h1:=Gy S k hkS
    have h2:=Ed.o
    rw[HZG.o k hk1 hk2 hkS]at h1
    simp only[dY,d_,kW]at h1
    rw[aH,aH]
    omega
   generalize bs (ks[k]).fmt.1=FK at *
   generalize bs (es[k]).fmt.1=FE at *
   generalize (ks[k]).fmt.2=GK at *
   generalize (es[k]).fmt.2=GE at *
   obtain⟨X,hX⟩:∃X,(((A.eG ks).take k).all Prod.snd&&((A.eG es).take k).all Prod.snd)=X:=⟨_,rfl⟩
   rw[hX]at hall ⊢
   have yw:=ah hall
   have HCT:=ah hct
   have LA:=ah (show([]:List UInt8).length+FK.size≤100000000 by simp;omega)
   have LB:=ah (show([]++FK.data.toList).length+(⟨#[58,32]⟩:bG).size≤100000000 by rw[dY,←Lib.size_eq];show 0+_+2≤_;omega)
   have LC:=ah (show(([]++FK.data.toList)++(⟨#[58,32]⟩:bG).data.toList).length+FE.size≤100000000 by rw[dY,dY,←Lib.size_eq,←Lib.size_eq];show 0+_+2+_≤_;omega)
   clear hall hct hX hsz1
   have Jo:(k:Int)<n:=by omega
   cases X
   rotate_left
   cases GK
   all_goals
    go_wp2_with (first|((first|(go_at_call 53;refine(AY _ _ _ _).mono ?_)|(go_at_call 30;(with_reducible show Calls prog 30 #[Value.iface tk uk] _ _);refine(mkVar ks[k] hgk (.iface tk uk) ok _ (Qo.o.below (BW.o _ DX.o.eX))).mono ?_)|(go_at_call 30;(with_reducible show Calls prog 30 #[Value.iface tv uv] _ _);refine(mkVar es[k] hge (.iface tv uv) ok _ (HVE.o.below (BW.o _ DX.o.eX))).mono ?_)|(go_at_call 54;(with_reducible show Calls prog 54 #[Value.agg #[_,Value.iface tk uk]] _ _);refine(Ef.o _ (Qo.o.below (BW.o _ DX.o.eX)) (PT.o.below (BW.o _ DX.o.eX))).mono ?_)|(go_at_call 54;(with_reducible show Calls prog 54 #[Value.agg #[_,Value.iface tv uv]] _ _);refine(IHE.o _ (HVE.o.below (BW.o _ DX.o.eX)) (PT.o.below (BW.o _ DX.o.eX))).mono ?_)|(go_at_call 86;refine(ag5 bp g1 g2 n p1 p2 k vs1 vs2 KS TY _ tk tv uk uv _ (((BW.o _ DX.o.eX).block _ rU.o).trans BX.o) HN.o.1 HN.o.2 hk hnm (fun i v h=>((BW.o _ DX.o.eX).cell (fA w _ (HC1.o i v h))).trans (HC1.o i v h)) (fun i v h=>((BW.o _ DX.o.eX).cell (fA w _ (HC2.o i v h))).trans (HC2.o i v h)) ZP.o ahD.o ahC.o Qn.o HEQ.o).mono ?_));rintro e wn ⟨rfl,hbn⟩;have Jb:=DX.o.old hbn;have DX:=ah Jb;have c0:=au ((DX.o.eX.block _ H6).trans KR.o) 0 (v:=.iface 129 (.pointer (some ⟨bp,0,none⟩))) rfl;have c1:=au ((DX.o.eX.block _ H6).trans KR.o) 1 (v:=.string (bs (123::TT))) rfl;have q0:=au (DX.o.keys _ (.head _)).1 0 (v:=.iface tk uk) rfl;have q1:=au (DX.o.keys _ (.head _)).1 1 (v:=.string KS) rfl;have r0:=au DX.o.row k HPK.o;have r1:=aI DX.o.row k;clear hbn Jb)|((first|(go_at_call 85;refine DX.o.rs.mono ?_)|(go_at_call 81;refine(DX.o.ws _ (by first|exact LA.o|exact LB.o|exact LC.o)).mono ?_)|(go_at_call 83;refine DX.o.str.mono ?_));rintro e wn ⟨rfl,Jb⟩;have DX:=ah Jb;have c0:=au ((DX.o.eX.block _ H6).trans KR.o) 0 (v:=.iface 129 (.pointer (some ⟨bp,0,none⟩))) rfl;have c1:=au ((DX.o.eX.block _ H6).trans KR.o) 1 (v:=.string (bs (123::TT))) rfl;have q0:=au (DX.o.keys _ (.head _)).1 0 (v:=.iface tk uk) rfl;have q1:=au (DX.o.keys _ (.head _)).1 1 (v:=.string KS) rfl;have r0:=au DX.o.row k HPK.o;have r1:=aI DX.o.row k;clear Jb))
    exact adJ hk (by rw[yw.o];simp) QD.o HCT.o DX.o
  ·have hke:n=k:=by omega
   subst hke
   have hbt:(((A.eG ks).take n).all Prod.snd&&((A.eG es).take n).all Prod.snd)=((A.eG ks).all Prod.snd&&(A.eG es).all Prod.snd):=by
    rw[kT (by rw[A.kC,HL.o.1];exact bW),kT (by rw[A.kC,HL.o.2.1];exact bW)]
   rw[hbt]
   clear hbt
   have hpf:pad S n n=S:=by have:=acF S;rwa [HL.o.2.2]at this
   rw[hpf]at dx
   have DX:=ah dx
   clear dx hpf
   have LZ:=ah (show([]:List UInt8).length≤100000000 by simp)
   have HSN:=ah HL.o.2.2
   have hlt0:decide ((n:Int)<(n:Int))=false:=by simp
   go_wp2_with (first|((first|(go_at_call 85;refine DX.o.rs.mono ?_)|(go_at_call 82;refine(DX.o.wb 123 LZ.o).mono ?_));rintro e wn ⟨rfl,Jb⟩;have DX:=ah Jb;clear Jb)|(go_at_call 87;refine(DX.o.sort n n HSN.o hnm).mono ?_;rintro e wn ⟨rfl,Jb⟩;have DX:=ah (HSP.o.2.2▸Jb:Dx w3.heap.size V [(H,kc)] (strs L) _ w3 wn);clear Jb))
   have HLn:=ah (by rw[HSP.o.2.1,HL.o.2.2]:L.length=n)
   have HLl:=ah (by have:=HSP.o.1;have:=Ed.o;omega:ll L≤10000000)
   go_loopw [203] (fun t wr=>∃k:Nat,k≤n∧t=.int .i64 k∧Dx w3.heap.size V [(H,kc)] (strs L) (123::jm (L.take k)) w3 wr) (fun t _=>n-(intOf t).toNat)
   case atStart=>exact⟨0,jf _,rfl,DX.o⟩
   case round =>
    obtain⟨k,hkn,rfl,dx⟩:=hrel
    have DX:=ah dx
    clear dx
    by_cases hk:k<n
    ·have Jp:k<L.length:=by rw[HLn.o];exact hk
     have r0:=au DX.o.row k (agr L k Jp)
     have hjl:=Tc L k
     have hge:=Gy L k Jp
     have hll:=HLl.o
     have HF:=ah (m_ L[k])
     have hFs:(bs L[k]).size=L[k].length:=aH _
     generalize bs L[k]=F at *
     have LA:=ah (show(123::jm (L.take k)).length+(⟨#[44,32]⟩:bG).size≤100000000 by rw[d_];show _+2≤_;omega)
     have Jo:(k:Int)<n:=by omega
     by_cases h0:k=0
     ·have hg0:decide ((0:Int)<(k:Int))=false:=by simp;omega
      have hg1:¬0<k:=by omega
      have LB:=ah (show(123::jm (L.take k)).length+F.size≤100000000 by rw[d_];omega)
      have H0:=ah h0
      clear hjl hge hll hFs h0
      go_wp2_with (go_at_call 81;refine(DX.o.ws _ (by first|exact LA.o|exact LB.o)).mono ?_;rintro e wn ⟨rfl,Jb⟩;have DX:=ah Jb;clear Jb)
      exact JV hk (by have:=H0.o;subst this;rw[HF.o];exact O_ L Jp) DX.o
     ·have hg0:decide ((0:Int)<(k:Int))=true:=by simp;omega
      have hg1:0<k:=by omega
      have LB:=ah (show((123::jm (L.take k))++(⟨#[44,32]⟩:bG).data.toList).length+F.size≤100000000 by rw[dY,d_];show _+1+2+_≤_;omega)
      have H0:=ah h0
      clear hjl hge hll hFs h0
      go_wp2_with (go_at_call 81;refine(DX.o.ws _ (by first|exact LA.o|exact LB.o)).mono ?_;rintro e wn ⟨rfl,Jb⟩;have DX:=ah Jb;clear Jb)
      exact JV hk (by rw[HF.o];exact S_ L k Jp H0.o) DX.o
    ·have hke:n=k:=by omega
     subst hke
     have Jo:decide ((n:Int)<(n:Int))=false:=by simp
     have hLt:L.take n=L:=kT (by rw[HLn.o];exact bW)
     rw[hLt]at DX
     have hjl:=qN L
     have hll:=HLl.o
     have LZ:=ah (show(123::jm L).length≤100000000 by rw[d_];omega)
     clear hLt hjl hll
     go_wp2_with ((first|(go_at_call 82;refine(DX.o.wb 125 LZ.o).mono ?_)|(go_at_call 83;refine DX.o.str.mono ?_));rintro e wn ⟨rfl,Jb⟩;have DX:=ah Jb;clear Jb)
     go_ret2
     exact⟨rfl,BW.o _ DX.o.eX⟩
theorem Yi (t:T) (hg:(A.list t []).dN.f_):og (A.list t []):=by
 intro ok v w hv pt
 obtain⟨bp,s,vs,rfl,-,hbk,hr,hls⟩:=id hv
 cases (show vs=[]from hls)
 obtain⟨A0,c,rfl,-,-,-⟩:=hr.cell
 simp only[kW]at hbk
 have e1:(A.list t []).fmt=([91,93],false):=rfl
 rw[e1]
 have hsig:(A.list t []).dN.sig=97::t.sig:=rfl
 have hty:(A.list t []).dN.ty=91::t.ty:=rfl
 have hgt:(A.list t []).dN.ty.length≤1000000:=hg.2.2.2
 have VO:=ah (fun W h=>valueOf (A.list t []) hgt _ ok W h:∀W,HA W ok (A.list t []) (.iface 100 (.pointer (some ⟨bp,0,none⟩)))→_)
 rw[hty]at VO
 rw[hsig]
 have HV:=ah hv
 have rU:=ah (lt_of_block hbk)
 have BX:=ah hbk
 obtain⟨TT,OT⟩:∃TT,t.ty=TT:=⟨_,rfl⟩
 rw[OT]at VO
 obtain⟨R',hR'⟩:∃R',t.sig=R':=⟨_,rfl⟩
 rw[hR']
 have hix:∀w,(Instr.index 9 (.string (bs (97::R'))) (.int .i64 0)).run prog w=.ok (.int .u8 97) w:=fun w=>ix0 97 R' w
 clear e1 hsig hty hR' OT hv hbk hg hgt pt
 go_enter func54,ntmps54
 go_wp2_with (first
  |(go_at_call 52;refine(VO.o _ (HV.o.below (gG _))).mono ?_;rintro e w1 ⟨rfl,hb1⟩;have ⟨hB,kr,hlt⟩:=dP hb1;have HB1:=aj.mk hB;clear hb1 kr hB)
  |(go_at_call 77;refine(lN _ _ 91 _ 16 rfl _).mono ?_;rintro e w2 ⟨rfl,hb2⟩;refine Hid.o ?_))
 refine ah ?_
 have hb2':Below (w1.alloc (.cells #[.iface 100 (.pointer (some ⟨bp,0,none⟩)),.string (bs (91::TT))] 94)).heap.size (w1.alloc (.cells #[.iface 100 (.pointer (some ⟨bp,0,none⟩)),.string (bs (91::TT))] 94)) w2:=hb2
 clear hb2
 obtain⟨hB2,yM,hlt2⟩:=dP hb2'
 have HB2:=ah (HB1.o.trans (hB2.mono HB1.o.size))
 have c0:=au yM 0 (v:=.iface 100 (.pointer (some ⟨bp,0,none⟩))) rfl
 have c1:=au yM 1 (v:=.string (bs (91::TT))) rfl
 clear hb2' hB2 yM HB1
 go_wp2_with (go_at_call 78;(with_reducible refine(xZ bp _ A0 0 c _ _ ((HB2.o.block _ rU.o).trans BX.o)).mono ?_);rintro e w3 ⟨rfl,hb3⟩;have HB3:=ah (HB2.o.trans (hb3.mono HB2.o.size));clear hb3)
 go_ret2
 exact⟨rfl,HB3.o⟩
theorem Yh (kd:UInt8) (t:T) (hg:(A.dict kd t [] []).dN.f_):og (A.dict kd t [] []):=by
 intro ok v w hv pt
 obtain⟨bp,s1,s2,vs1,vs2,rfl,-,hbk,hr1,Gq,hr2,OX⟩:=id hv
 cases (show vs1=[]from Gq)
 obtain⟨A0,c,rfl,-,-,-⟩:=hr1.cell
 simp only[kW]at hbk
 have e1:(A.dict kd t [] []).fmt=([123,125],false):=rfl
 rw[e1]
 have hsig:(A.dict kd t [] []).dN.sig=97::123::kd::(t.sig++[125]):=rfl
 have hty:(A.dict kd t [] []).dN.ty=123::kd::t.ty:=rfl
 have hgt:(A.dict kd t [] []).dN.ty.length≤1000000:=hg.2.2.2
 have VO:=ah (fun W h=>valueOf (A.dict kd t [] []) hgt _ ok W h:∀W,HA W ok (A.dict kd t [] []) (.iface 129 (.pointer (some ⟨bp,0,none⟩)))→_)
 rw[hty]at VO
 rw[hsig]
 have HV:=ah hv
 have rU:=ah (lt_of_block hbk)
 have BX:=ah hbk
 obtain⟨TT,OT⟩:∃TT,kd::t.ty=TT:=⟨_,rfl⟩
 rw[OT]at VO
 obtain⟨R',hR'⟩:∃R',123::kd::(t.sig++[125])=R':=⟨_,rfl⟩
 rw[hR']
 have hix:∀w,(Instr.index 9 (.string (bs (97::R'))) (.int .i64 0)).run prog w=.ok (.int .u8 97) w:=fun w=>ix0 97 R' w
 clear e1 hsig hty hR' OT hv hbk hg hgt pt
 go_enter func54,ntmps54
 go_wp2_with (first
  |(go_at_call 52;refine(VO.o _ (HV.o.below (gG _))).mono ?_;rintro e w1 ⟨rfl,hb1⟩;have ⟨hB,kr,hlt⟩:=dP hb1;have HB1:=aj.mk hB;clear hb1 kr hB)
  |(go_at_call 77;refine(lN _ _ 123 _ 14 rfl _).mono ?_;rintro e w2 ⟨rfl,hb2⟩;refine Hid.o ?_))
 refine ah ?_
 have hb2':Below (w1.alloc (.cells #[.iface 129 (.pointer (some ⟨bp,0,none⟩)),.string (bs (123::TT))] 94)).heap.size (w1.alloc (.cells #[.iface 129 (.pointer (some ⟨bp,0,none⟩)),.string (bs (123::TT))] 94)) w2:=hb2
 clear hb2
 obtain⟨hB2,yM,hlt2⟩:=dP hb2'
 have HB2:=ah (HB1.o.trans (hB2.mono HB1.o.size))
 have c0:=au yM 0 (v:=.iface 129 (.pointer (some ⟨bp,0,none⟩))) rfl
 have c1:=au yM 1 (v:=.string (bs (123::TT))) rfl
 clear hb2' hB2 yM HB1
 go_wp2_with (go_at_call 78;(with_reducible refine(MH bp _ _ _ A0 0 c _ _ ((HB2.o.block _ rU.o).trans BX.o)).mono ?_);rintro e w3 ⟨rfl,hb3⟩;have HB3:=ah (HB2.o.trans (hb3.mono HB2.o.size));clear hb3)
 go_ret2
 exact⟨rfl,HB3.o⟩
theorem U8 (n:Nat):∀(a:A),a.rk≤n→a.dN.f_→a.wQ→a.tl≤10000000→og a:=by
 induction n with
 |zero=>intro a h;have:=a.wU;omega
 |succ n ih =>
 intro a hn hg hf hl
 match a,hn,hg,hf,hl with
 | .sc x,hn,hg,hf,hl=>exact aa3 x hf
 | .var t a,hn,hg,hf,hl =>
   have h:=id hf
   simp only[A.rk]at hn
   simp only[A.tl]at hl
   exact aeF t a hf (by simpa only[A.tl]using hl) (ih a (by omega) h.2.1 h.2.2 (by omega))
 | .jJ l,hn,hg,hf,hl =>
   have h:=id hf
   have hl':=hl
   simp only[A.rk]at hn
   simp only[A.tl]at hl'
   refine aa2 l hg hf hl (fun e=>?_) (fun i hi=>ih _ ?_ (h.2.1 _ (nZ hi)) (A.oH l h.2.2 i hi) ?_)
   ·subst e;exact hg.1.1 rfl
   ·have:=A.nH l i hi;omega
   ·have:=A.EL l i hi;omega
 | .list t l,hn,hg,hf,hl =>
   have h:=id hf
   have hl':=hl
   simp only[A.rk]at hn
   simp only[A.tl]at hl'
   by_cases e:l=[]
   ·subst e;exact Yi t hg
   refine aa1 t l hg hf hl e (fun i hi=>ih _ ?_ (by rw[h.2.1 _ (nZ hi)];exact h.2.2.1) (A.oH l h.2.2.2 i hi) ?_)
   ·have:=A.nH l i hi;omega
   ·have:=A.EL l i hi;omega
 | .dict k t ks es,hn,hg,hf,hl =>
   obtain⟨h1,h2,⟨xs,hxs,hnd,hkey⟩,h4,h5,h6,h7,h8⟩:=id hf
   have hl':=hl
   simp only[A.rk]at hn
   simp only[A.tl]at hl'
   by_cases e:ks=[]
   ·subst e
    have e2:es=[]:=List.length_eq_zero_iff.1 (by simpa using h1.symm)
    subst e2
    exact Yh k t hg
   refine aa0 k t ks es hg hf hl e (fun i hi=>?_) (fun i hi=>ih _ ?_ (by rw[h4 _ (nZ hi)];exact h5) (A.oH es h8 i hi) ?_)
   ·have hr:=A.oH ks h7 i hi
    subst hxs
    rw[List.getElem_map]at hr ⊢
    exact aa3 _ hr
   ·have:=A.nH es i hi;omega
   ·have:=A.EL es i hi;omega
end Go.Proofs.YtllcccekodcdmaaGreatDoor.Ms
