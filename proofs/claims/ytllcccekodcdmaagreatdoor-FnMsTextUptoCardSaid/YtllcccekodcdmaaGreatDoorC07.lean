import Derived.Test.YtllcccekodcdmaaGreatDoorC06
set_option linter.unusedVariables false
set_option linter.unusedSimpArgs false
set_option maxRecDepth 100000
set_option maxHeartbeats 32000000
open Go.Proofs.Tryz
namespace Go.Proofs.YtllcccekodcdmaaGreatDoor.Ms
open Go Go.RowKit Go.Proofs.ak.aT Go.Proofs.ak.cO Go.Proofs.YtllcccekodcdmaaGreatDoor.bK
section
section
variable {P:Program} {ops:Array Oper} {Q:Exit→Act→World→Prop} {md:Region.Mode} {S:World→Prop} {ds:List Nat}
theorem as8 {fuel:Nat} {listed:Array Bool} {a:Act} {w:World} (i:Nat) {oi:Oper} {v:Value} (ho:ops.toList[i]?=some oi)
  (hc:(Region.noSelect ops&&Region.free md ops listed i&&(Region.ready md ops listed).contains i&&Region.xB md ops listed&&Region.Px md ops listed ds i)=true)
  (hQ:∀c a w,Q (.panic c) (a.put oi.dst v) w→Q (.panic c) a w) (hy:YieldsIf P ops S oi v a) (hS:S w)
  (h:aW P md ops Q S ds fuel (listed.setIfInBounds i true) (a.put oi.dst v) w):aW P md ops Q S ds (fuel+1) listed a w:=by
 simp only[Bool.and_eq_true]at hc
 obtain⟨⟨⟨⟨h1,h2⟩,h3⟩,h4⟩,h5⟩:=hc
 exact oO (by rw[←qV];exact ho) h1 h2 h3 h4 h5 hQ hy hS h
theorem as7 {fuel:Nat} {listed:Array Bool} {a:Act} {w:World} (i:Nat) {oi:Oper} {v:Value} (ho:ops.toList[i]?=some oi)
  (hc:(Region.noSelect ops&&Region.free md ops listed i&&(Region.ready md ops listed).contains i)=true)
  (hQ:∀c a w,Q (.panic c) (a.put oi.dst v) w→Q (.panic c) a w) (hy:Yields P ops oi v a)
  (h:aW P md ops Q S ds fuel (listed.setIfInBounds i true) (a.put oi.dst v) w):aW P md ops Q S ds (fuel+1) listed a w:=by
 simp only[Bool.and_eq_true]at hc
 obtain⟨⟨h1,h2⟩,h3⟩:=hc
 have hi:ops[i]?=some oi:=by rw[←qV];exact ho
 exact qg hi (Region.noSelect_spec h1) hQ fuel listed a w (Region.free_spec hi h2) (by simpa using h3) hy h
theorem lone {fuel:Nat} {listed:Array Bool} {a:Act} {w:World} (i:Nat) {o:Oper} (ho:ops.toList[i]?=some o) (hr:Region.ready md ops listed=[i]) (hd:i∉ds)
  (h:∀K':Act→World→Prop,Shut (∀a w,S w→(S w→aW P md ops Q S ds fuel (listed.setIfInBounds i true) a w)→K' a w)→if Region.wanted o (yielded ops a.tmps)=true then Oper.wp P o a w K' Q else K' (a.put o.dst undef) w) :
  aW P md ops Q S ds (fuel+1) listed a w :=
 gy hr (by simp) (dO.cons (by rw[←qV];exact ho) hd h dO.nil)
theorem as6 {fuel:Nat} {listed:Array Bool} {a:Act} {w:World} (i:Nat) {o:Oper} (ho:ops.toList[i]?=some o) (hr:Region.ready md ops listed=[i]) (hd:i∈ds)
  (h:∀K':Act→World→Prop,Shut (∀a w,aW P md ops Q S ds fuel (listed.setIfInBounds i true) a w→K' a w)→if Region.wanted o (yielded ops a.tmps)=true then Oper.wp P o a w K' Q else K' (a.put o.dst undef) w) :
  aW P md ops Q S ds (fuel+1) listed a w :=
 gy hr (by simp) (dO.CV (by rw[←qV];exact ho) hd h dO.nil)
end
theorem yS {w W:World} {A:Option Addr} {xs:List l9} (h:Kd.C ug w A xs.length xs) (hb:Below w.heap.size w W) (i:Nat) (hi:i<xs.length):∃ad A3 c3,A=some ad∧W.cell? (ad.add (i*4))=some (.int .u8 (xs[i]).f0)∧W.cell? ⟨(ad.add (i*4)).block,(ad.add (i*4)).off+1,none⟩=some (.int .u64 (xs[i]).f1)∧W.cell? ⟨(ad.add (i*4)).block,(ad.add (i*4)).off+2,none⟩=some (.string (xs[i]).f2)∧W.cell? ⟨(ad.add (i*4)).block,(ad.add (i*4)).off+3,none⟩=some (.slice A3 (xs[i]).f3.length c3)∧(xs[i]).f3.length≤c3∧ug.C w A3 (xs[i]).f3.length (xs[i]).f3:=by
 have:=ahK h (i:Int) (by omega) (by omega)
 have e:vJ xs (i:Int)=xs[i]:=by simp[vJ,wC,gQ hi]
 rw[e,show((i:Nat):Int).toNat=i from rfl]at this
 obtain⟨ad,A3,c3,e,h0,h1,h2,h3,h4,h5⟩:=this
 exact⟨ad,A3,c3,e,(hb.cell (fA w _ h0)).trans h0,(hb.cell (fA w _ h1)).trans h1,(hb.cell (fA w _ h2)).trans h2,(hb.cell (fA w _ h3)).trans h3,h4,h5⟩
def DK (a:A) (w:World) (e:Ending) (w':World):Prop:=∃u,e=.returned u∧HA w' (fun k=>w.heap.size≤k) a u∧Below w.heap.size w w'
theorem bQ {w W:World} {A:Option Addr} {xs:List l9} (h:Kd.C ug w A xs.length xs) (hb:Below w.heap.size w W):Kd.C ug W A xs.length xs:=Kd.bQ h hb
theorem aaL (a:A) (hg:a.dN.f_) (k:l9) (r:List l9) (f1:Int) (f2:bG) (A:Option Addr) (c:Nat) (w:World) (hc:Kd.C ug w A (k::r).length (k::r)) (hcc:(k::r).length≤c)
  (ih:∀(A3:Option Addr) (c3:Nat) (w':World),Kd.C ug w' A3 k.f3.length k.f3→k.f3.length≤c3→Calls prog 31 #[.agg #[.int .u8 k.f0,.int .u64 k.f1,.string k.f2,.slice A3 k.f3.length c3]] w' (DK a w')) :
  Calls prog 31 #[.agg #[.int .u8 118,.int .u64 f1,.string f2,.slice A (k::r).length c]] w (DK (.var a.dN a) w):=by
 obtain⟨ad,A3,c3,rfl,h0,h1,h2,h3,h4,h5⟩:=yS hc ((jM w).alloc bW (.cells #[.int .u8 118,.int .u64 f1,.string f2,.slice A (k::r).length c] 53)) 0 (by simp)
 rw[Nat.zero_mul,Addr.add_zero']at h0 h1 h2 h3
 have hn:0<(k::r).length:=by simp
 generalize (k::r).length=n at *
 simp only[List.getElem_cons_zero]at h0 h1 h2 h3 h4 h5
 have hn1:(0:Int)<(n:Int):=by omega
 have IH:=ah (fun w' hb=>ih A3 c3 w' hb h4)
 have HC:=aj.mk h5
 have HM:=ah (fun (v:Value) (ok:Nat→Prop) (w1:World) (h:HA w1 ok a v)=>mkVar a hg v ok w1 h)
 clear ih hc h5
 go_enter func31,ntmps31
 go_wp2_with (first|(go_at_call 31;refine(IH.o _ (Kd.bQ HC.o ((jM w).alloc bW _))).mono ?_;rintro e w1 ⟨u,rfl,hu,hb1⟩;have HU:=aj.mk hu;have HB1:=aj.mk (((jM w).alloc bW _).trans (hb1.mono (by simp)));clear hu hb1)|(go_at_call 30;refine(HM.o _ _ _ HU.o).mono ?_;rintro e w2 ⟨rfl,hb2⟩;have HU2:=aj.mk (HA.below HU.o hb2);have HB2:=aj.mk (HB1.o.trans (hb2.mono HB1.o.size));clear hb2))
 go_ret
 exact⟨_,rfl,⟨u,rfl,HU2.o.mono (fun k hk=>by simp at hk;omega)⟩,HB2.o⟩
theorem Mk.ne {iR:Nat→Prop} {w:World} {l:List A} {s:Value} (h:Mk iR w l s) {g:Nat} {cs:Array Value} {t:TypeId} (hg:w.heap[g]?=some (.cells cs t (0,0))) (ht:20≠t):some g≠s.ownBlock:=by
 obtain⟨vs,hr,_⟩:=h
 exact acE hr.2 hg ht
theorem P7 {w wr w1:World} {R b:Nat} {s u:Value} {l0:List A} {a:A} {X o:Obj} (KR:wr.heap[R]?=some o) (HM:Mk (fun k=>b≤k) wr l0 s) (HB:Below w.heap.size w wr) (hbw:b≤wr.heap.size)
  (hu:HA w1 (fun k=>(wr.alloc X).drew.heap.size≤k) a u) (hb:Below (wr.alloc X).drew.heap.size (wr.alloc X).drew w1) :
  w1.heap[R]?=some o∧w1.heap[wr.heap.size]?=some X∧Mk (fun k=>b≤k) w1 l0 s∧HA w1 (fun k=>b≤k∧some k≠s.ownBlock) a u∧Below w.heap.size w w1∧wr.heap.size<w1.heap.size∧∃t v,u=.iface t v:=by
 have hl:=lt_of_block KR
 have hs:=hb.size
 have hB:wr.heap.size+1≤w1.heap.size:=by simpa using hs
 refine⟨(hb.block R (by simp;omega)).trans (aQ KR _),(hb.block _ (by simp)).trans (aV wr X _ rfl),(HM.alloc X).drew.below hb,hu.mono (fun k hk=>?_),(HB.alloc HB.size _).drew.trans (hb.mono (by have:=HB.size;simp;omega)),by omega,hu.iface⟩
 have hk':wr.heap.size+1≤k:=by simpa using hk
 exact⟨by omega,fun e=>by have:=HM.lt k e.symm;omega⟩
theorem JB {w1 w2:World} {R T:Nat} {s:Value} {iR:Nat→Prop} {l0:List A} {cs ds:Array Value} {t t':TypeId} (KR:w1.heap[R]?=some (.cells cs t (0,0))) (KT:w1.heap[T]?=some (.cells ds t' (0,0))) (HM:Mk iR w1 l0 s) (ht:20≠t) (ht':20≠t') (hg:w1.grownBy w2 s.ownBlock) :
  w2.heap[R]?=some (.cells cs t (0,0))∧w2.heap[T]?=some (.cells ds t' (0,0)) :=
 ⟨(hg.block R (lt_of_block KR) (HM.ne KR ht)).trans KR,(hg.block T (lt_of_block KT) (HM.ne KT ht')).trans KT⟩
theorem aaK (l:List A) (vs:List l9) (hlen:vs.length=l.length) (hl:l.length≤1000000) (f1:Int) (f2:bG) (A:Option Addr) (c:Nat) (w:World) (hc:Kd.C ug w A vs.length vs) (hcc:vs.length≤c)
  (ih:∀(i:Nat) (h:i<l.length) (h':i<vs.length) (A3:Option Addr) (c3:Nat) (w':World),Kd.C ug w' A3 (vs[i]).f3.length (vs[i]).f3→(vs[i]).f3.length≤c3→Calls prog 31 #[.agg #[.int .u8 (vs[i]).f0,.int .u64 (vs[i]).f1,.string (vs[i]).f2,.slice A3 (vs[i]).f3.length c3]] w' (DK l[i] w')) :
  Calls prog 31 #[.agg #[.int .u8 40,.int .u64 f1,.string f2,.slice A vs.length c]] w (DK (.jJ l) w):=by
 have HC:=aj.mk hc
 have IH:=ah ih
 have HN:=ah (show ∀(W:World) (hb:Below w.heap.size w W) (i:Nat) (hi:i<vs.length),_ from fun W hb i hi=>yS hc hb i hi)
 clear hc ih
 have HLEN:=aj.mk hlen
 obtain⟨n,hn⟩:∃n,vs.length=n:=⟨_,rfl⟩
 have Ep:=aj.mk hn
 rw[hn]at hcc ⊢
 clear hn hlen
 have HB:=aj.mk (((jM w).alloc bW (.cells #[.int .u8 40,.int .u64 f1,.string f2,.slice A n c] 53)).alloc (by simp) (.cells #[.slice none 0 0] 91))
 have KR:=aj.mk (aV (w.alloc (.cells #[.int .u8 40,.int .u64 f1,.string f2,.slice A n c] 53)) (.cells #[.slice none 0 0] 91) (w.heap.size+1) (by simp))
 go_enter func31,ntmps31
 go_wp2
 go_loopw [104] (fun aj6 wr=>∃(k:Nat) (s:Value),k≤n∧aj6=.int .i64 (k:Nat)∧aj (wr.heap[w.heap.size+1]?=some (.cells #[s] 91 (0,0)))∧aj (Mk (fun k=>w.heap.size+2≤k) wr (l.take k) s)∧aj (Below w.heap.size w wr)) (fun aj6 _=>n-(intOf aj6).toNat)
 case atStart=>exact⟨0,.slice none 0 0,jf _,rfl,KR,⟨Mk.nil _ _⟩,HB⟩
 case round =>
  clear HB KR
  obtain⟨k,s,hk,rfl,KR,HM,HB⟩:=hrel
  by_cases hlt:k<n
  ·have hd:decide ((k:Int)<(n:Int))=true:=by simp;omega
   have hk9:k+1≤1000001:=by have:=HLEN.o;have:=Ep.o;omega
   have hkv:k<vs.length:=by have:=Ep.o;omega
   have hkl:k<l.length:=by have:=HLEN.o;omega
   obtain⟨ad,A3,c3,hA,h0,h1,h2,h3,h4,h5⟩:=HN.o wr HB.o k hkv
   subst hA
   have HIH:=ah (IH.o k hkl hkv)
   have HT:=ah (show l.take (k+1)=l.take k++[l[k]]from lu hkl)
   generalize vs[k]=x at h0 h1 h2 h3 h4 h5 HIH
   generalize l[k]=a at HIH HT
   have Qm:=aj.mk h5
   clear h5
   have c0:=au (aQ KR.o (.cells #[.int .u8 x.f0,.int .u64 x.f1,.string x.f2,.slice A3 x.f3.length c3] 53)) 0 (v:=s) rfl
   have hbw:w.heap.size+2≤wr.heap.size:=by have:=lt_of_block KR.o;omega
   go_wp2
   refine lgo [7] ((fun w'=>w'.cell? ⟨w.heap.size+1,0,none⟩=some s∧w'.cell? ⟨wr.heap.size,0,none⟩=some (.int .u8 x.f0)∧w'.cell? ⟨wr.heap.size,1,none⟩=some (.int .u64 x.f1)∧w'.cell? ⟨wr.heap.size,2,none⟩=some (.string x.f2)∧w'.cell? ⟨wr.heap.size,3,none⟩=some (.slice A3 x.f3.length c3))) fun hHeld=>?_
   refine jS 0 ?_
   refine jS 1 ?_
   refine jS 2 ?_
   refine ln 3 fun K hK=>?_
   go_simp
   refine(HIH.o _ _ _ (Kd.bQ Qm.o (HB.o.alloc HB.o.size _).drew) h4).mono ?_;rintro e w1 ⟨u0,rfl,hu,hb1⟩;have ⟨kr,kt,hm1,hu1,hB1,hlt1,t,u,hiu⟩:=P7 KR.o HM.o HB.o hbw hu hb1;subst hiu;have d0:=au kr 0 (v:=s) rfl;have d1:=au kt 0 (v:=.int .u8 x.f0) rfl;have d2:=au kt 1 (v:=.int .u64 x.f1) rfl;have d3:=au kt 2 (v:=.string x.f2) rfl;have d4:=au kt 3 (v:=.slice A3 x.f3.length c3) rfl;have QG:=aj.mk kr;have KT1:=aj.mk kt;have HM1:=aj.mk hm1;have ZV:=aj.mk hu1;have HB1:=aj.mk hB1;clear hu hb1 kr kt hm1 hu1 hB1
   (try go_wp2_with fail)
   refine ji hK ?_;clear hK K hHeld;intro hHeld
   refine ln 4 fun K hK=>?_
   go_simp
   refine ji hK ?_;clear hK K hHeld;intro hHeld
   refine ln 5 fun K hK=>?_
   refine Mk.wJ (iR:=fun k=>w.heap.size+2≤k) (w0:=w) w.heap.size rfl (.tmp 109) (.tmp 112) rfl s (l.take k) a (.iface t u) rfl rfl (fun k hk=>by omega) (fun k hk=>by omega) HM1.o ZV.o HB1.o HB1.o.size (by rw[List.length_take];omega) ?_;intro v2 w2 hm2 hB2 hg2 _;have ⟨A2,c2,hv2,_⟩:=hm2.len;generalize (List.take k l++[a]).length=m2 at hv2;subst hv2;have ⟨kr,kt⟩:=JB QG.o KT1.o HM1.o (by decide) (by decide) hg2;have e0:=au kr 0 (v:=s) rfl;have e1:=au kt 0 (v:=.int .u8 x.f0) rfl;have e2:=au kt 1 (v:=.int .u64 x.f1) rfl;have e3:=au kt 2 (v:=.string x.f2) rfl;have e4:=au kt 3 (v:=.slice A3 x.f3.length c3) rfl;have e5:=aI kr 0;have KR2:=aj.mk kr;have ZR:=aj.mk hm2;have HB2:=aj.mk hB2;clear kr kt hm2 hB2 hg2
   refine ji hK ?_;clear hK K hHeld;intro hHeld
   refine EJ 6 ?_
   refine PG 7 fun K hK=>?_
   go_simp
   refine Qe hK ?_
   clear hK K
   refine uJ ?_
   go_wp2
   go_roundw
   case rel=>exact⟨k+1,.slice A2 m2 c2,hlt,by go_num,⟨qH KR2.o 0 _ rfl⟩,⟨by rw[HT.o];exact ZR.o.set _ _ (by simp)⟩,⟨HB2.o.setCell (by simp) _⟩⟩
   case measure=>simp[intOf];omega
  ·have hd:decide ((k:Int)<(n:Int))=false:=by simp;omega
   have c0:=au KR.o 0 (v:=s) rfl
   have hke:l.take k=l:=kT (by have:=HLEN.o;have:=Ep.o;omega)
   have JZ:=aj.mk hke
   clear hke
   go_wp2
   go_ret
   have hM:=HM.o
   rw[JZ.o]at hM
   obtain⟨us,hr,hls⟩:=hM
   exact⟨_,rfl,⟨s,us,rfl,hr.mono (fun k hk=>by omega),hls.mono (fun k hk=>by omega)⟩,HB.o⟩
end
theorem dP {w wd:World} {X:Obj} (hbd:Below (w.alloc X).heap.size (w.alloc X) wd):Below w.heap.size w wd∧wd.heap[w.heap.size]?=some X∧w.heap.size<wd.heap.size:=by
 have hs:=hbd.size
 have hs':w.heap.size+1≤wd.heap.size:=by simpa using hs
 exact⟨((jM w).alloc bW X).trans (hbd.mono (by simp)),(hbd.block w.heap.size (by simp)).trans (aV w X _ rfl),hs'⟩
theorem X8 (t:T) (hw:t.wf) (hf:t.fits 0 0 0) (hs:t.sig.length≤1000000) (l:List A) (vs:List l9) (hlen:vs.length=l.length) (hl:l.length≤1000000) (f1:Int) (A:Option Addr) (c:Nat) (w:World) (hc:Kd.C ug w A vs.length vs) (hcc:vs.length≤c)
  (ih:∀(i:Nat) (h:i<l.length) (h':i<vs.length) (A3:Option Addr) (c3:Nat) (w':World),Kd.C ug w' A3 (vs[i]).f3.length (vs[i]).f3→(vs[i]).f3.length≤c3→Calls prog 31 #[.agg #[.int .u8 (vs[i]).f0,.int .u64 (vs[i]).f1,.string (vs[i]).f2,.slice A3 (vs[i]).f3.length c3]] w' (DK l[i] w')) :
  Calls prog 31 #[.agg #[.int .u8 97,.int .u64 f1,.string (bs t.sig),.slice A vs.length c]] w (DK (.list t l) w):=by
 obtain⟨d,r,hd,hd1,hd2⟩:=T.G5 t hw
 have h1:(bs t.sig).toList.isEmpty=false:=by rw[jl,hd];rfl
 have h1b:((bs t.sig).toList==[])=false:=by rw[bH,hd];rfl
 have h0:0<(bs t.sig).size:=by rw[aH,hd];simp
 have h3:(((((bs t.sig)[(0:Nat)]'h0).toNat:Nat):Int)==123)=false:=by rw[byte_at _ 0 d h0 (by rw[hd];rfl)];exact tJ hd1
 clear hd
 have HC:=aj.mk hc
 have IH:=ah ih
 have HN:=ah (show ∀(W:World) (hb:Below w.heap.size w W) (i:Nat) (hi:i<vs.length),_ from fun W hb i hi=>yS hc hb i hi)
 have HDT:=ah (fun w'=>aaM _ t bW hw hf hs w')
 clear hc ih
 have HLEN:=aj.mk hlen
 obtain⟨n,hn⟩:∃n,vs.length=n:=⟨_,rfl⟩
 have Ep:=aj.mk hn
 rw[hn]at hcc ⊢
 clear hn hlen
 go_enter func31,ntmps31
 go_wp2_with (go_at_call 50;refine(HDT.o _).mono ?_;rintro e wd ⟨rfl,hbd⟩;have ⟨hB,kbd,aiO⟩:=dP hbd;have HBD:=aj.mk hB;have x3:=au kbd 3 (v:=.slice A n c) rfl;clear hbd kbd hB)
 have HB:=aj.mk (HBD.o.alloc HBD.o.size (.cells #[.string (bs t.ty),.slice none 0 0] 102))
 have KR:=aj.mk (aV wd (.cells #[.string (bs t.ty),.slice none 0 0] 102) _ rfl)
 generalize hL:wd.heap.size=L at *
 go_loopw [166] (fun aj8 wr=>∃(k:Nat) (s:Value),k≤n∧aj8=.int .i64 (k:Nat)∧aj (wr.heap[L]?=some (.cells #[.string (bs t.ty),s] 102 (0,0)))∧aj (Mk (fun k=>L+1≤k) wr (l.take k) s)∧aj (Below w.heap.size w wr)) (fun aj8 _=>n-(intOf aj8).toNat)
 case atStart=>exact⟨0,.slice none 0 0,jf _,rfl,KR,⟨Mk.nil _ _⟩,HB⟩
 case round =>
  clear HB KR
  obtain⟨k,s,hk,rfl,KR,HM,HB⟩:=hrel
  by_cases hlt:k<n
  ·have hd:decide ((k:Int)<(n:Int))=true:=by simp;omega
   have hk9:k+1≤1000001:=by have:=HLEN.o;have:=Ep.o;omega
   have hkv:k<vs.length:=by have:=Ep.o;omega
   have hkl:k<l.length:=by have:=HLEN.o;omega
   obtain⟨ad,A3,c3,hA,h0,h1,h2,h3,h4,h5⟩:=HN.o wr HB.o k hkv
   subst hA
   have HIH:=ah (IH.o k hkl hkv)
   have HT:=ah (show l.take (k+1)=l.take k++[l[k]]from lu hkl)
   generalize vs[k]=x at h0 h1 h2 h3 h4 h5 HIH
   generalize l[k]=a at HIH HT
   have Qm:=aj.mk h5
   clear h5
   have c0:=au (aQ KR.o (.cells #[.int .u8 x.f0,.int .u64 x.f1,.string x.f2,.slice A3 x.f3.length c3] 53)) 1 (v:=s) rfl
   have hbw:L+1≤wr.heap.size:=by have:=lt_of_block KR.o;omega
   go_wp2
   refine lgo [11] ((fun w'=>w'.cell? ⟨L,1,none⟩=some s∧w'.cell? ⟨wr.heap.size,0,none⟩=some (.int .u8 x.f0)∧w'.cell? ⟨wr.heap.size,1,none⟩=some (.int .u64 x.f1)∧w'.cell? ⟨wr.heap.size,2,none⟩=some (.string x.f2)∧w'.cell? ⟨wr.heap.size,3,none⟩=some (.slice A3 x.f3.length c3))) fun hHeld=>?_
   refine jS 0 ?_
   refine jS 1 ?_
   refine jS 2 ?_
   refine jS 3 ?_
   refine jS 4 ?_
   refine jS 5 ?_
   refine ln 6 fun K hK=>?_
   go_simp
   refine(HIH.o _ _ _ (Kd.bQ Qm.o (HB.o.alloc HB.o.size _).drew) h4).mono ?_;rintro e w1 ⟨u0,rfl,hu,hb1⟩;have ⟨kr,kt,hm1,hu1,hB1,hlt1,t',u,hiu⟩:=P7 KR.o HM.o HB.o hbw hu hb1;subst hiu;have d0:=au kr 1 (v:=s) rfl;have d1:=au kt 0 (v:=.int .u8 x.f0) rfl;have d2:=au kt 1 (v:=.int .u64 x.f1) rfl;have d3:=au kt 2 (v:=.string x.f2) rfl;have d4:=au kt 3 (v:=.slice A3 x.f3.length c3) rfl;have QG:=aj.mk kr;have KT1:=aj.mk kt;have HM1:=aj.mk hm1;have ZV:=aj.mk hu1;have HB1:=aj.mk hB1;clear hu hb1 kr kt hm1 hu1 hB1
   (try go_wp2_with fail)
   refine ji hK ?_;clear hK K hHeld;intro hHeld
   refine ln 7 fun K hK=>?_
   go_simp
   refine ji hK ?_;clear hK K hHeld;intro hHeld
   refine ln 8 fun K hK=>?_
   refine Mk.wJ (iR:=fun k=>L+1≤k) (w0:=w) w.heap.size rfl (.tmp 174) (.tmp 177) rfl s (l.take k) a (.iface t' u) rfl rfl (fun k hk=>by omega) (fun k hk=>by omega) HM1.o ZV.o HB1.o HB1.o.size (by rw[List.length_take];omega) ?_;intro v2 w2 hm2 hB2 hg2 _;have ⟨A2,c2,hv2,_⟩:=hm2.len;generalize (List.take k l++[a]).length=m2 at hv2;subst hv2;have ⟨kr,kt⟩:=JB QG.o KT1.o HM1.o (by decide) (by decide) hg2;have e0:=au kr 1 (v:=s) rfl;have e1:=au kt 0 (v:=.int .u8 x.f0) rfl;have e2:=au kt 1 (v:=.int .u64 x.f1) rfl;have e3:=au kt 2 (v:=.string x.f2) rfl;have e4:=au kt 3 (v:=.slice A3 x.f3.length c3) rfl;have e5:=aI kr 1;have KR2:=aj.mk kr;have ZR:=aj.mk hm2;have HB2:=aj.mk hB2;clear kr kt hm2 hB2 hg2
   refine ji hK ?_;clear hK K hHeld;intro hHeld
   refine EJ 9 ?_
   refine EJ 10 ?_
   refine PG 11 fun K hK=>?_
   go_simp
   refine Qe hK ?_
   clear hK K
   refine uJ ?_
   go_wp2
   go_roundw
   case rel=>exact⟨k+1,.slice A2 m2 c2,hlt,by go_num,⟨qH KR2.o 1 _ rfl⟩,⟨by rw[HT.o];exact ZR.o.set _ _ (by simp)⟩,⟨HB2.o.setCell (by simp;omega) _⟩⟩
   case measure=>simp[intOf];omega
  ·have hd:decide ((k:Int)<(n:Int))=false:=by simp;omega
   have c0:=au KR.o 1 (v:=s) rfl
   have hke:l.take k=l:=kT (by have:=HLEN.o;have:=Ep.o;omega)
   have JZ:=aj.mk hke
   clear hke
   go_wp2
   go_ret
   have hM:=HM.o
   rw[JZ.o]at hM
   obtain⟨us,hr,hls⟩:=hM
   exact⟨_,rfl,⟨L,s,us,rfl,by omega,KR.o,hr.mono (fun k hk=>by omega),hls.mono (fun k hk=>by omega)⟩,HB.o⟩
theorem makeMap (k:UInt8) (t:T) (w:World) :
  Calls prog 49 #[.string (bs (123::k::t.ty))] w fun e w'=>∃b,e=.returned (.agg #[.iface 129 (.pointer (some ⟨b,0,none⟩)),.string (bs (123::k::t.ty))])∧w.heap.size≤b ∧
   w'.heap[b]?=some (.cells #[.string (bs [k]),.string (bs t.ty),.slice none 0 0,.slice none 0 0] 132 (0,0))∧Below w.heap.size w w':=by
 have HB:=aj.mk ((jM w).alloc bW (.cells #[.nilIface,.string ⟨#[]⟩] 94))
 go_enter func49,ntmps49
 go_wp2_with ((first|(go_at_call 68;refine(dQ _ _ 14 rfl _).mono ?_)|(go_at_call 69;refine(Bd _ _ _).mono ?_)|(go_at_call 70;refine(Jc _ _ _).mono ?_));rintro e w' ⟨rfl,rfl⟩)
 refine iW (v:=.agg #[.iface 129 (.pointer (some ⟨w.heap.size+1,0,none⟩)),.string (bs (123::k::t.ty))]) (by simp[results,results49,go_sem]) rfl ⟨w.heap.size+1,rfl,by omega,aV _ _ _ (by simp),?_⟩
 exact((jM w).alloc bW _).alloc (by simp) _
theorem valueOf (a:A) (hl:a.dN.ty.length≤1000000) (v:Value) (ok:Nat→Prop) (w:World) (hv:HA w ok a v) :
  fC 52 #[v] w (.agg #[v,.string (bs a.dN.ty)]):=by
 obtain⟨t,u,hvu⟩:=hv.iface
 subst hvu
 have HV:=aj.mk hv
 have HT:=ah (fun (w1:World) (h:HA w1 ok a (.iface t u))=>He a.rk a bW _ w1 ok h hl)
 go_enter func52,ntmps52
 go_wp2_with (go_at_call 67;refine(HT.o _ (HA.below HV.o ((jM w).alloc bW _))).mono ?_;rintro e w1 ⟨rfl,hb1⟩;have ⟨hB,kr,hlt⟩:=dP hb1;have k4:=au kr 0 (v:=.nilIface) rfl;have k5:=aI kr 0;have k6:=au kr 1 (v:=.string ⟨#[]⟩) rfl;have k7:=aI kr 1;have HB1:=aj.mk hB;clear hb1 kr hB)
 refine iW (v:=.agg #[.iface t u,.string (bs a.dN.ty)]) (by simp[results,results52,go_sem,k4,k5,k6,k7]) rfl ⟨rfl,?_⟩
 exact(HB1.o.setCell bW _).setCell bW _
theorem AY (t:TypeId) (u:Value) (s:bG) (w:World) :
  fC 53 #[.agg #[.iface t u,.string s]] w (.iface t u):=by
 go_enter func53,ntmps53
 go_wp2
 go_ret
 exact⟨rfl,gG _⟩
theorem eq_int (tp:TypeId) (k k':IntKind) (hp:prog.underlying tp=some (.int k')) (hi:(prog.info? tp).map (·.comparable)=some true) (a b:Int) (w:World) :
  (binOp .eql 20 (.iface tp (.int k a)) (.iface tp (.int k b))).run prog w=.ok (.bool (a==b)) w:=by
 obtain⟨i,hi1,hi2⟩:=Option.map_eq_some_iff.1 hi
 have h:∀d:Nat,(Op.equalIn (d+2) 20 (.iface tp (.int k a)) (.iface tp (.int k b))).run prog w=.ok (a==b) w:=fun d=>by
  simp[Op.equalIn,run_underlying underlying20,run_underlying hp,typeInfo,hi1,hi2]
 simp only[binOp]
 simp[Op.equal,Op.maxDepth,h 9998]
theorem KE (tp:TypeId) (hp:prog.underlying tp=some .string) (hi:(prog.info? tp).map (·.comparable)=some true) (a b:bG) (w:World) :
  (binOp .eql 20 (.iface tp (.string a)) (.iface tp (.string b))).run prog w=.ok (.bool (a==b)) w:=by
 obtain⟨i,hi1,hi2⟩:=Option.map_eq_some_iff.1 hi
 have h:∀d:Nat,(Op.equalIn (d+2) 20 (.iface tp (.string a)) (.iface tp (.string b))).run prog w=.ok (a==b) w:=fun d=>by
  simp[Op.equalIn,run_underlying underlying20,run_underlying hp,typeInfo,hi1,hi2]
 simp only[binOp]
 simp[Op.equal,Op.maxDepth,h 9998]
theorem agX {a b:bG} (h:a≠b):(a==b)=false:=by
 cases a with|mk x=>cases b with|mk y =>
 show(x==y)=false
 rw[kS]
 rintro rfl
 exact h rfl
theorem int_ne {a b:Int} (h:a≠b):(a==b)=false:=by rw[kS];exact h
theorem Xe (x y:Sc) (hx:x.isKey) (hc:x.code=y.code) (hne:x≠y) (w:World):(binOp .eql 20 x.val y.val).run prog w=.ok (.bool false) w:=by
 cases x<;>cases y<;>first|exact hx.elim|(exfalso;simp[Sc.code]at hc;done)|skip
 ·rename_i a b;rw[←int_ne (a:=a) (b:=b) (fun e=>hne (by rw[e]))];exact eq_int 5 .u8 _ underlying5 (by kernel_rfl) a b w
 ·rename_i a b;rw[←int_ne (a:=a) (b:=b) (fun e=>hne (by rw[e]))];exact eq_int 83 .i16 _ underlying83 (by kernel_rfl) a b w
 ·rename_i a b;rw[←int_ne (a:=a) (b:=b) (fun e=>hne (by rw[e]))];exact eq_int 84 .u16 _ underlying84 (by kernel_rfl) a b w
 ·rename_i a b;rw[←int_ne (a:=a) (b:=b) (fun e=>hne (by rw[e]))];exact eq_int 21 .i32 _ underlying21 (by kernel_rfl) a b w
 ·rename_i a b;rw[←int_ne (a:=a) (b:=b) (fun e=>hne (by rw[e]))];exact eq_int 22 .u32 _ underlying22 (by kernel_rfl) a b w
 ·rename_i a b;rw[←int_ne (a:=a) (b:=b) (fun e=>hne (by rw[e]))];exact eq_int 2 .i64 _ underlying2 (by kernel_rfl) a b w
 ·rename_i a b;rw[←int_ne (a:=a) (b:=b) (fun e=>hne (by rw[e]))];exact eq_int 30 .u64 _ underlying30 (by kernel_rfl) a b w
 ·rename_i a b;rw[←int_ne (a:=a) (b:=b) (fun e=>hne (by rw[e]))];exact eq_int 88 .u32 _ underlying88 (by kernel_rfl) a b w
 ·rename_i a b;rw[←agX (a:=a) (b:=b) (fun e=>hne (by rw[e]))];exact KE 9 underlying9 (by kernel_rfl) a b w
 ·rename_i a b;rw[←agX (a:=a) (b:=b) (fun e=>hne (by rw[e]))];exact KE 87 underlying87 (by kernel_rfl) a b w
theorem agW (a:bG):(a==a)=true:=by
 cases a with|mk x =>
 show(x==x)=true
 exact beq_self_eq_true x
theorem MX (x:Sc) (hx:x.isKey) (w:World):(binOp .eql 20 x.val x.val).run prog w=.ok (.bool true) w:=by
 cases x<;>first|exact hx.elim|skip
 ·rename_i a;rw[←beq_self_eq_true a];exact eq_int 5 .u8 _ underlying5 (by kernel_rfl) a a w
 ·rename_i a;rw[←beq_self_eq_true a];exact eq_int 83 .i16 _ underlying83 (by kernel_rfl) a a w
 ·rename_i a;rw[←beq_self_eq_true a];exact eq_int 84 .u16 _ underlying84 (by kernel_rfl) a a w
 ·rename_i a;rw[←beq_self_eq_true a];exact eq_int 21 .i32 _ underlying21 (by kernel_rfl) a a w
 ·rename_i a;rw[←beq_self_eq_true a];exact eq_int 22 .u32 _ underlying22 (by kernel_rfl) a a w
 ·rename_i a;rw[←beq_self_eq_true a];exact eq_int 2 .i64 _ underlying2 (by kernel_rfl) a a w
 ·rename_i a;rw[←beq_self_eq_true a];exact eq_int 30 .u64 _ underlying30 (by kernel_rfl) a a w
 ·rename_i a;rw[←beq_self_eq_true a];exact eq_int 88 .u32 _ underlying88 (by kernel_rfl) a a w
 ·rename_i a;rw[←agW a];exact KE 9 underlying9 (by kernel_rfl) a a w
 ·rename_i a;rw[←agW a];exact KE 87 underlying87 (by kernel_rfl) a a w
section
section
variable {ops:Array Oper} {o:Oper} {a:Act} {Q:Exit→Act→World→Prop} {K:Act→World→Prop}
theorem Mk.yR {iR:Nat→Prop} {W:World} (base:Nat) (hgd:o.guard=none) (s x:Operand)
  (ho:o.op=.call {callee:=.builtin .append,args:=#[s,x],argTypes:=#[89,89]}) (v:Value) (l:List A) (b:A) (u:Value) (B:Nat) (hs:a.eval s=v) (hx:a.eval x=.slice (some ⟨B,0,none⟩) 1 1)
  (hB:W.heap[B]?=some (.cells #[u] 20 (0,0)))
  (hb1:∀k,iR k→base≤k) (hfresh:∀k,W.heap.size≤k→iR k)
  (HM:Mk iR W l v) (HU:HA W (fun k=>iR k∧some k≠v.ownBlock) b u) (hbase:base≤W.heap.size) (hl:l.length+1≤1000000)
  (h:∀v1 w1,Mk iR w1 (l++[b]) v1→W.grownBy w1 v.ownBlock→(∀w0 B',B'≤base→Below B' w0 W→Below B' w0 w1)→(v1.ownBlock=v.ownBlock∨∃b,v1.ownBlock=some b∧W.heap.size≤b)→K (a.put o.dst v1) w1) :
  if Region.wanted o (yielded ops a.tmps)=true then Oper.wp prog o a W K Q else K (a.put o.dst undef) W:=by
 obtain⟨vs,hr,hls⟩:=HM
 have hlen:=hls.len
 have hown:W.ownsRow base 20 1 v vs.length vs:=by
  refine⟨hr.2.1,?_⟩
  rcases hr.2.2 with hn|⟨g,cap,cur,hv,h0,hg,rest⟩
  ·exact .inl hn
  ·exact .inr ⟨g,cap,cur,hv,hb1 g (hr.1 g (by rw[hv];rfl)),hg,rest⟩
 obtain⟨i0,hi,hzz⟩:=Option.map_eq_some_iff.1 abQ
 simp only[Prod.mk.injEq]at hzz
 obtain⟨hz0,hz1,hz2⟩:=hzz
 refine step_append_lies (w:=W) (E:=K (a.put o.dst undef) W) hgd s x 89 ho base 20 i0 .nilIface 1 16 underlying89 hi hz0 hz1 hz2 rfl (by decide) v vs.length vs hs hown ⟨B,0,none⟩ 1 1 [u] hx rfl
  (World.news_of_block (cs:=#[u]) hB) (fun t ht=>by cases List.mem_singleton.1 ht;exact HU.one) (by decide) (by simp[maxLen];omega) (by omega) hbase W.heap.size rfl ?_
 intro g cap w1 ho1 hg hat hlt
 have hat':(Value.slice (some ⟨g,0,none⟩) (vs.length+1) cap).ownBlock=v.ownBlock∨∃b,(Value.slice (some ⟨g,0,none⟩) (vs.length+1) cap).ownBlock=some b∧W.heap.size≤b:=by
  rcases hat with e|e
  ·exact .inl (by rw[e];rfl)
  ·exact .inr ⟨g,rfl,by omega⟩
 generalize hv1:Value.slice (some ⟨g,0,none⟩) (vs.length+1) cap=v1 at ho1 hat'
 refine h v1 w1 ⟨vs++[u],⟨?_,?_⟩,?_⟩ hg ?_ hat'
 ·intro k hk
  rcases hat' with e|⟨b',e,hb'⟩
  ·exact hr.1 k (by rw[←e];exact hk)
  ·rw[e]at hk;cases hk;exact hfresh _ hb'
 ·have:(vs++[u]).length=vs.length+1:=by simp
  rw[this]
  refine⟨ho1.1,?_⟩
  rcases ho1.2 with hn|⟨g',cap',cur,hv,h0,rest⟩
  ·exact .inl hn
  ·exact .inr ⟨g',cap',cur,hv,jf _,rest⟩
 ·have hnew:∀k,k<W.heap.size→some k≠v.ownBlock→some k≠v1.ownBlock:=fun k hk hne=>by
   rcases hat' with e|⟨b',e,hb'⟩
   ·rw[e];exact hne
   ·rw[e];intro he;cases he;omega
  have hkeep:∀k,(iR k∧some k≠v.ownBlock)→k<W.heap.size→w1.heap[k]?=W.heap[k]?:=fun k hk hlt=>hg.block k hlt hk.2
  have h1:nX W (fun k=>(iR k∧some k≠v.ownBlock)∧(iR k∧some k≠v1.ownBlock)) l vs:=hls.bound.mono (fun k hk=>⟨hk.1,hk.1.1,hnew k hk.2 hk.1.2⟩)
  have h2:HA W (fun k=>(iR k∧some k≠v.ownBlock)∧(iR k∧some k≠v1.ownBlock)) b u:=HU.bound.mono (fun k hk=>⟨hk.1,hk.1.1,hnew k hk.2 hk.1.2⟩)
  exact nX.snoc ((h1.step (fun k hk hlt=>hkeep k hk.1 hlt)).mono (fun k hk=>hk.2)) ((h2.step (fun k hk hlt=>hkeep k hk.1 hlt)).mono (fun k hk=>hk.2))
 ·intro w0 B' hB' HB
  exact HB.grown hg (by omega) (fun k hk=>Nat.le_trans hB' (hb1 k (hr.1 k hk)))
end
section
variable {P:Program} {ops:Array Oper} {Q:Exit→Act→World→Prop} {md:Region.Mode} {S:World→Prop} {ds:List Nat}
theorem MF {fuel:Nat} {listed:Array Bool} {a:Act} {w:World} (i j:Nat) {o o':Oper} (ho:ops.toList[i]?=some o) (ho':ops.toList[j]?=some o') (hr:Region.ready md ops listed=[i,j]) (hd:i∉ds) (hd':j∉ds)
  (h:∀K':Act→World→Prop,Shut (∀a w,S w→(S w→aW P md ops Q S ds fuel (listed.setIfInBounds i true) a w)→K' a w)→if Region.wanted o (yielded ops a.tmps)=true then Oper.wp P o a w K' Q else K' (a.put o.dst undef) w)
  (h':∀K':Act→World→Prop,Shut (∀a w,S w→(S w→aW P md ops Q S ds fuel (listed.setIfInBounds j true) a w)→K' a w)→if Region.wanted o' (yielded ops a.tmps)=true then Oper.wp P o' a w K' Q else K' (a.put o'.dst undef) w) :
  aW P md ops Q S ds (fuel+1) listed a w :=
 gy hr (by simp) (dO.cons (by rw[←qV];exact ho) hd h (dO.cons (by rw[←qV];exact ho') hd' h' dO.nil))
end
theorem qQ (x:Sc):∃t u,x.val=.iface t u:=by cases x<;>exact⟨_,_,rfl⟩
def Dk (D:Nat) (w:World) (ks es:List A) (K E:bG) (s1 s2:Value):Prop :=
 w.heap[D]?=some (.cells #[.string K,.string E,s1,s2] 132 (0,0))∧Mk (fun k=>D+1≤k∧some k≠s2.ownBlock) w ks s1∧Mk (fun k=>D+1≤k∧some k≠s1.ownBlock) w es s2
theorem Mk.at {iR:Nat→Prop} {w:World} {l:List A} {A:Option Addr} {n c:Nat} (h:Mk iR w l (.slice A n c)) (i:Nat) (hi:i<l.length):∃g v,A=some ⟨g,0,none⟩∧w.cell? ⟨g,i,none⟩=some v∧HA w iR l[i] v:=by
 obtain⟨vs,hr,hl⟩:=h
 obtain⟨v,hv,ha⟩:=hl.get i hi
 obtain⟨A',c',e,_,_,hc⟩:=hr.cell
 injection e with e1 e2 e3
 obtain⟨g,hg,hcell⟩:=hc (by have:=hl.len;omega)
 exact⟨g,v,by rw[e1,hg],hcell i v hv,ha.mono (fun k hk=>hk.1)⟩
structure St (D:Nat) (w:World) (ks es:List A) (K E:bG) (s1 s2 v1 v2:Value) (b1 b2:Obj) (W:World):Prop where
 kE:W.heap[D]?=some (.cells #[.string K,.string E,s1,s2] 132 (0,0))
 m1:Mk (fun k=>D+1≤k∧some k≠v2.ownBlock) W ks v1
 m2:Mk (fun k=>D+1≤k∧some k≠v1.ownBlock) W es v2
 x1:W.heap[w.heap.size+1]?=some b1
 x2:W.heap[w.heap.size+2]?=some b2
 below:∀w0 B,B≤D→Below B w0 w→Below B w0 W
 frame:∀k,k<w.heap.size→some k≠s1.ownBlock→some k≠s2.ownBlock→W.heap[k]?=w.heap[k]?
 lt:w.heap.size+3≤W.heap.size
theorem St.alloc {D:Nat} {w:World} {ks es:List A} {K E:bG} {s1 s2 v1 v2:Value} {b1 b2:Obj} {W:World} (h:St D w ks es K E s1 s2 v1 v2 b1 b2 W) (hD:D<w.heap.size) (o:Obj):St D w ks es K E s1 s2 v1 v2 b1 b2 (W.alloc o) where
 kE:=aQ h.kE o
 m1:=h.m1.alloc o
 m2:=h.m2.alloc o
 x1:=aQ h.x1 o
 x2:=aQ h.x2 o
 below:=fun w0 B hB hb=>(h.below w0 B hB hb).alloc (by have:=h.lt;omega) o
 frame:=fun k hk h1 h2=>by rw[kN _ _ _ (by have:=h.lt;omega)];exact h.frame k hk h1 h2
 lt:=by have:=h.lt;simp;omega
theorem St.drew {D:Nat} {w:World} {ks es:List A} {K E:bG} {s1 s2 v1 v2:Value} {b1 b2:Obj} {W:World} (h:St D w ks es K E s1 s2 v1 v2 b1 b2 W):St D w ks es K E s1 s2 v1 v2 b1 b2 W.drew where
 kE:=h.kE
 m1:=h.m1.drew
 m2:=h.m2.drew
 x1:=h.x1
 x2:=h.x2
 below:=fun w0 B hB hb=>(h.below w0 B hB hb).drew
 frame:=h.frame
 lt:=h.lt
theorem St.key {D:Nat} {w:World} {ks es:List A} {x e:A} {K E:bG} {s1 s2 v1:Value} {c1 c2:Array Value} {W w1:World} {iv:Value} (h:St D w ks es K E s1 s2 s1 s2 (.cells c1 94 (0,0)) (.cells c2 94 (0,0)) W) (hD:D<w.heap.size)
  (hu:HA W (fun k=>D+1≤k∧some k≠s1.ownBlock∧some k≠s2.ownBlock) e iv)
  (hm:Mk (fun k=>D+1≤k∧some k≠s2.ownBlock) w1 (ks++[x]) v1) (hg:W.grownBy w1 s1.ownBlock) (hb:∀w0 B',B'≤D+1→Below B' w0 W→Below B' w0 w1)
  (hat:v1.ownBlock=s1.ownBlock∨∃b,v1.ownBlock=some b∧W.heap.size≤b) :
  St D w (ks++[x]) es K E s1 s2 v1 s2 (.cells c1 94 (0,0)) (.cells c2 94 (0,0)) w1∧HA w1 (fun k=>(D+1≤k∧some k≠v1.ownBlock)∧some k≠s2.ownBlock) e iv:=by
 have hnew:∀k,k<W.heap.size→some k≠s1.ownBlock→some k≠v1.ownBlock:=fun k hk hne=>by
  rcases hat with e|⟨b',e,hb'⟩
  ·rw[e];exact hne
  ·rw[e];intro he;cases he;omega
 refine⟨⟨(hg.block D (by have:=h.lt;omega) (h.m1.ne h.kE (by decide))).trans h.kE,hm,?_,(hg.block _ (by have:=h.lt;omega) (h.m1.ne h.x1 (by decide))).trans h.x1,(hg.block _ (by have:=h.lt;omega) (h.m1.ne h.x2 (by decide))).trans h.x2,
  fun w0 B hB hb0=>hb w0 B (by omega) (h.below w0 B hB hb0),fun k hk h1 h2=>(hg.block k (by have:=h.lt;omega) h1).trans (h.frame k hk h1 h2),Nat.le_trans h.lt hg.size⟩,?_⟩
 ·exact((h.m2.mono (okq:=fun k=>(D+1≤k∧some k≠s1.ownBlock)∧some k≠v1.ownBlock) (fun k hk hlt=>⟨hk,hnew k hlt hk.2⟩)).grown (okq:=fun _=>True) hg (fun k hk _=>hk.1.2)).mono (fun k hk _=>⟨hk.1.1,hk.2⟩)
 ·have h2:HA W (fun k=>(D+1≤k∧some k≠s1.ownBlock∧some k≠s2.ownBlock)∧some k≠v1.ownBlock) e iv:=hu.bound.mono (fun k hk=>⟨hk.1,hnew k hk.2 hk.1.2.1⟩)
  exact(h2.step (fun k hk hlt=>hg.block k hlt hk.1.2.1)).mono (fun k hk=>⟨⟨hk.1.1,hk.2⟩,hk.1.2.2⟩)
theorem St.value {D:Nat} {w:World} {ks es:List A} {e:A} {K E:bG} {s1 s2 v1 v2:Value} {c1 c2:Array Value} {W w1:World} (h:St D w ks es K E s1 s2 v1 s2 (.cells c1 94 (0,0)) (.cells c2 94 (0,0)) W) (hD:D<w.heap.size)
  (hm:Mk (fun k=>D+1≤k∧some k≠v1.ownBlock) w1 (es++[e]) v2) (hg:W.grownBy w1 s2.ownBlock) (hb:∀w0 B',B'≤D+1→Below B' w0 W→Below B' w0 w1)
  (hat:v2.ownBlock=s2.ownBlock∨∃b,v2.ownBlock=some b∧W.heap.size≤b) :
  St D w ks (es++[e]) K E s1 s2 v1 v2 (.cells c1 94 (0,0)) (.cells c2 94 (0,0)) w1:=by
 have hnew:∀k,k<W.heap.size→some k≠s2.ownBlock→some k≠v2.ownBlock:=fun k hk hne=>by
  rcases hat with e|⟨b',e,hb'⟩
  ·rw[e];exact hne
  ·rw[e];intro he;cases he;omega
 refine⟨(hg.block D (by have:=h.lt;omega) (h.m2.ne h.kE (by decide))).trans h.kE,?_,hm,(hg.block _ (by have:=h.lt;omega) (h.m2.ne h.x1 (by decide))).trans h.x1,(hg.block _ (by have:=h.lt;omega) (h.m2.ne h.x2 (by decide))).trans h.x2,
  fun w0 B hB hb0=>hb w0 B (by omega) (h.below w0 B hB hb0),fun k hk h1 h2=>(hg.block k (by have:=h.lt;omega) h2).trans (h.frame k hk h1 h2),Nat.le_trans h.lt hg.size⟩
 exact((h.m1.mono (okq:=fun k=>(D+1≤k∧some k≠s2.ownBlock)∧some k≠v2.ownBlock) (fun k hk hlt=>⟨hk,hnew k hlt hk.2⟩)).grown (okq:=fun _=>True) hg (fun k hk _=>hk.1.2)).mono (fun k hk _=>⟨hk.1.1,hk.2⟩)
section
variable {ops:Array Oper} {o:Oper} {a:Act} {Q:Exit→Act→World→Prop} {Kc:Act→World→Prop}
theorem Gx {D:Nat} {w W:World} {ks es:List A} {x:Sc} {e:A} {K E:bG} {s1 s2:Value} {c1 c2:Array Value} {iv kv:Value} (hgd:o.guard=none) (s p:Operand)
  (ho:o.op=.call {callee:=.builtin .append,args:=#[s,p],argTypes:=#[89,89]}) (st:St D w ks es K E s1 s2 s1 s2 (.cells c1 94 (0,0)) (.cells c2 94 (0,0)) W) (hD:D<w.heap.size)
  (hu:HA W (fun k=>D+1≤k∧some k≠s1.ownBlock∧some k≠s2.ownBlock) e iv) (B:Nat) (hB:W.heap[B]?=some (.cells #[kv] 20 (0,0))) (hkv:x.val=kv) (hl:ks.length+1≤1000000) (hs:a.eval s=s1) (hp:a.eval p=.slice (some ⟨B,0,none⟩) 1 1)
  (h:∀v1 w1,St D w (ks++[.sc x]) es K E s1 s2 v1 s2 (.cells c1 94 (0,0)) (.cells c2 94 (0,0)) w1→HA w1 (fun k=>(D+1≤k∧some k≠v1.ownBlock)∧some k≠s2.ownBlock) e iv→(∀k,k<W.heap.size→some k≠s1.ownBlock→w1.heap[k]?=W.heap[k]?)→Kc (a.put o.dst v1) w1) :
  if Region.wanted o (yielded ops a.tmps)=true then Oper.wp prog o a W Kc Q else Kc (a.put o.dst undef) W:=by
 refine Mk.yR (iR:=fun k=>D+1≤k∧some k≠s2.ownBlock) (D+1) hgd s p ho s1 ks (.sc x) kv B hs hp hB (fun k hk=>hk.1) (fun k hk=>⟨by have:=st.lt;omega,fun e=>by have:=st.m2.lt k e.symm;omega⟩) st.m1 hkv.symm (by have:=st.lt;omega) hl ?_
 intro v1 w1 hm hg hb hat
 obtain⟨h1,h2⟩:=St.key st hD hu hm hg hb hat
 exact h v1 w1 h1 h2 (fun k hk hne=>hg.block k hk hne)
theorem zn {D:Nat} {w W:World} {ks es:List A} {e:A} {K E:bG} {s1 s2 v1:Value} {c1 c2:Array Value} {iv:Value} (hgd:o.guard=none) (s p:Operand)
  (ho:o.op=.call {callee:=.builtin .append,args:=#[s,p],argTypes:=#[89,89]}) (st:St D w ks es K E s1 s2 v1 s2 (.cells c1 94 (0,0)) (.cells c2 94 (0,0)) W) (hD:D<w.heap.size)
  (hu:HA W (fun k=>(D+1≤k∧some k≠v1.ownBlock)∧some k≠s2.ownBlock) e iv) (B:Nat) (hB:W.heap[B]?=some (.cells #[iv] 20 (0,0))) (hl:es.length+1≤1000000) (hs:a.eval s=s2) (hp:a.eval p=.slice (some ⟨B,0,none⟩) 1 1)
  (h:∀v2 w1,St D w ks (es++[e]) K E s1 s2 v1 v2 (.cells c1 94 (0,0)) (.cells c2 94 (0,0)) w1→Kc (a.put o.dst v2) w1) :
  if Region.wanted o (yielded ops a.tmps)=true then Oper.wp prog o a W Kc Q else Kc (a.put o.dst undef) W:=by
 refine Mk.yR (iR:=fun k=>D+1≤k∧some k≠v1.ownBlock) (D+1) hgd s p ho s2 es e iv B hs hp hB (fun k hk=>hk.1) (fun k hk=>⟨by have:=st.lt;omega,fun e=>by have:=st.m1.lt k e.symm;omega⟩) st.m2 hu (by have:=st.lt;omega) hl ?_
 intro v2 w1 hm hg hb hat
 exact h v2 w1 (St.value st hD hm hg hb hat)
end
theorem setIndex (xs:List Sc) (x:Sc) (es:List A) (e:A) (hx:x.isKey) (hxs:∀y∈xs,y.code=x.code∧y≠x) (hlen:xs.length=es.length) (hl:xs.length≤999999) (D:Nat) (K E:bG) (s1 s2:Value) (t2:TypeId) (u2:Value) (sa sb sc:bG) (w:World)
  (hD:Dk D w (xs.map A.sc) es K E s1 s2) (hu:HA w (fun k=>D+1≤k∧some k≠s1.ownBlock∧some k≠s2.ownBlock) e (.iface t2 u2)) :
  Calls prog 51 #[.agg #[.iface 129 (.pointer (some ⟨D,0,none⟩)),.string sa],.agg #[x.val,.string sb],.agg #[.iface t2 u2,.string sc]] w fun en w'=>en=.returned (.tuple #[]) ∧
   ∃s1' s2',Dk D w' ((xs++[x]).map A.sc) (es++[e]) K E s1' s2'∧(∀w0 B,B≤D→Below B w0 w→Below B w0 w') ∧
    ∀k,k<w.heap.size→k≠D→some k≠s1.ownBlock→some k≠s2.ownBlock→w'.heap[k]?=w.heap[k]?:=by
 obtain⟨hd,hk1,hk2⟩:=hD
 obtain⟨A1,c1,rfl,hc1⟩:=hk1.len
 obtain⟨A2,c2,rfl,hc2⟩:=hk2.len
 obtain⟨tk,uk,hxv⟩:=qQ x
 have Qn:=ah (fun (y:Sc) (hy:y∈xs) (w:World)=>hxv▸Xe y x (by
  obtain⟨h1,_⟩:=hxs y hy
  cases y<;>cases x<;>simp[Sc.code,Sc.isKey]at h1 hx ⊢) (hxs y hy).1 (hxs y hy).2 w)
 rw[hxv]
 have HXV:=aj.mk hxv
 have HD:=aj.mk hd
 have pX:=aj.mk hk1
 have uT:=aj.mk hk2
 have HU:=aj.mk hu
 have hDl:=lt_of_block hd
 have aqh:D<w.heap.size+1:=by omega
 have aqi:D<w.heap.size+1+1:=by omega
 have d2:=au hd 2 (v:=.slice A1 (xs.map A.sc).length c1) rfl
 have d3:=au hd 3 (v:=.slice A2 es.length c2) rfl
 have HLN:=aj.mk hlen
 clear hd hk1 hk2 hu hxv hx hxs hlen
 rw[List.length_map]at *
 go_enter func51,ntmps51
 go_wp2
 generalize hW0:((w.alloc (.cells #[.iface 129 (.pointer (some ⟨D,0,none⟩)),.string sa] 94)).alloc (.cells #[.iface tk uk,.string sb] 94)).alloc (.cells #[.iface t2 u2,.string sc] 94)=W0
 have HW0:=aj.mk hW0
 have b1:W0.cell? ⟨w.heap.size+1,0,none⟩=some (.iface tk uk):=by subst hW0;exact au (aQ (aV _ _ _ (by simp)) _) 0 rfl
 have b2:W0.cell? ⟨w.heap.size+1+1,0,none⟩=some (.iface t2 u2):=by subst hW0;exact au (aV _ _ _ (by simp)) 0 rfl
 have qR:=aj.mk (show Below w.heap.size w W0 from hW0▸(((jM w).alloc bW _).alloc (by simp) _).alloc (by simp;omega) _)
 have hz0:W0.heap.size=w.heap.size+3:=by subst hW0;simp
 have HZ0:=aj.mk hz0
 have HB:=aj.mk (jM W0)
 clear hW0 hz0
 go_loopw [16] (fun v16 wr=>∃k:Nat,k≤xs.length∧v16=.int .i64 (k:Nat)∧aj (Below W0.heap.size W0 wr)) (fun v16 _=>xs.length-(intOf v16).toNat)
 case atStart=>exact⟨0,jf _,rfl,HB⟩
 case round =>
  clear HB
  obtain⟨k,hk,rfl,HB⟩:=hrel
  have e2:=(HB.o.cell (p:=⟨D,2,none⟩) (by have:=HZ0.o;dsimp only;omega)).trans ((qR.o.cell (p:=⟨D,2,none⟩) hDl).trans d2)
  have e3:=(HB.o.cell (p:=⟨D,3,none⟩) (by have:=HZ0.o;dsimp only;omega)).trans ((qR.o.cell (p:=⟨D,3,none⟩) hDl).trans d3)
  have e4:=(HB.o.cell (p:=⟨w.heap.size+1,0,none⟩) (by have:=HZ0.o;dsimp only;omega)).trans b1
  have e5:=(HB.o.cell (p:=⟨w.heap.size+1+1,0,none⟩) (by have:=HZ0.o;dsimp only;omega)).trans b2
  by_cases hlt:k<xs.length
  ·have hd:decide ((k:Int)<(xs.length:Int))=true:=by simp;omega
   obtain⟨g,v,hA,hcv,hav⟩:=pX.o.at k (by simpa using hlt)
   subst hA
   have hv:v=(xs[k]).val:=by simpa[HA]using hav
   obtain⟨ti,ui,hiv⟩:=qQ xs[k]
   have hne:∀w,(binOp .eql 20 (.iface ti ui) (.iface tk uk)).run prog w=.ok (.bool false) w:=fun w=>hiv▸Qn.o xs[k] (nZ hlt) w
   rw[hv,hiv]at hcv
   have e6:=(HB.o.cell (p:=⟨g,k,none⟩) (by have:=HZ0.o;have:=fA w _ hcv;simp at this ⊢;omega)).trans ((qR.o.cell (p:=⟨g,k,none⟩) (fA w _ hcv)).trans hcv)
   clear hav hv hiv
   have hkn:k<xs.length:=hlt
   have hk9:k+1≤1000000:=by omega
   go_wp2
   refine H_ ((fun w'=>w'.cell? ⟨D,2,none⟩=some (.slice (some ⟨g,0,none⟩) xs.length c1)∧w'.cell? ⟨g,k,none⟩=some (.iface ti ui)∧w'.cell? ⟨w.heap.size+1,0,none⟩=some (.iface tk uk))) fun hHeld=>?_
   refine dL 0 ?_
   refine dL 1 ?_
   refine dL 2 ?_
   refine dL 3 ?_
   refine dL 4 ?_
   refine dL 5 ?_
   refine dL 6 ?_
   refine dL 7 ?_
   refine dL 8 ?_
   refine dL 9 ?_
   refine lX ?_
   go_wp2
   go_roundw
   case rel=>exact⟨k+1,hkn,by go_num,⟨HB.o.drew⟩⟩
   case measure=>simp[intOf];omega
  ·have hd:decide ((k:Int)<(xs.length:Int))=false:=by simp;omega
   have XD:=aj.mk hlt
   go_wp2
   have P0:St D w (xs.map A.sc) es K E (.slice A1 xs.length c1) (.slice A2 es.length c2) (.slice A1 xs.length c1) (.slice A2 es.length c2) (.cells #[.iface tk uk,.string sb] 94) (.cells #[.iface t2 u2,.string sc] 94) wr:=by
    have hW:∀k,k<w.heap.size→wr.heap[k]?=w.heap[k]?:=fun k hk=>(HB.o.block k (by have:=HZ0.o;omega)).trans (qR.o.block k hk)
    refine⟨(hW D hDl).trans HD.o,pX.o.step (fun k _ hk=>hW k hk),uT.o.step (fun k _ hk=>hW k hk),(HB.o.block _ (by have:=HZ0.o;omega)).trans ?_,(HB.o.block _ (by have:=HZ0.o;omega)).trans ?_,fun w0 B hB hb0=>?_,fun k hk _ _=>hW k hk,by have:=HB.o.size;have:=HZ0.o;omega⟩
    ·rw[←HW0.o];exact aQ (aV _ _ _ (by simp)) _
    ·rw[←HW0.o];exact aV _ _ _ (by simp)
    ·exact(hb0.trans (qR.o.mono (by omega))).trans (HB.o.mono (by have:=HZ0.o;omega))
   have U0:HA wr (fun k=>D+1≤k∧some k≠(Value.slice A1 xs.length c1).ownBlock∧some k≠(Value.slice A2 es.length c2).ownBlock) e (.iface t2 u2) :=
    HU.o.step (fun k _ hk=>(HB.o.block k (by have:=HZ0.o;omega)).trans (qR.o.block k hk))
   have PP:=aj.mk P0
   have UU:=aj.mk U0
   clear P0 U0
   refine lgo [20,23] ((fun w'=>w'.cell? ⟨D,2,none⟩=some (.slice A1 xs.length c1)∧w'.cell? ⟨D,3,none⟩=some (.slice A2 es.length c2)∧w'.cell? ⟨w.heap.size+1,0,none⟩=some (.iface tk uk)∧w'.cell? ⟨w.heap.size+1+1,0,none⟩=some (.iface t2 u2))) fun hHeld=>?_
   refine jS 0 ?_
   refine EJ 1 ?_
   refine jS 2 ?_
   refine jS 3 ?_
   refine jS 4 ?_
   refine jS 5 ?_
   refine jS 6 ?_
   refine jS 7 ?_
   refine jS 10 ?_
   refine jS 11 ?_
   refine jS 12 ?_
   refine jS 13 ?_
   refine jS 14 ?_
   refine jS 15 ?_
   refine MF 8 16 rfl rfl (by kernel_rfl) (by decide) (by decide) (fun K hK=>?_) (fun K hK=>?_)
   ·go_simp
    refine ji hK ?_;clear hK K hHeld;intro hHeld
    refine MF 9 16 rfl rfl (by kernel_rfl) (by decide) (by decide) (fun K hK=>?_) (fun K hK=>?_)
    ·refine Gx (x:=x) rfl (.tmp 43) (.tmp 46) rfl (PP.o.alloc hDl (.cells #[.iface tk uk] 20)).drew hDl (HA.below UU.o ((jM wr).alloc bW (.cells #[.iface tk uk] 20)).drew) wr.heap.size (aV wr _ _ rfl) HXV.o (by simp;omega) rfl rfl ?_;intro v1 w1 st hu1 hfr;have ⟨A3,c3,hv1,_⟩:=st.m1.len;generalize (List.map A.sc xs++[A.sc x]).length=m3 at hv1;subst hv1;have f2:=au st.kE 2 (v:=.slice A1 xs.length c1) rfl;have f3:=au st.kE 3 (v:=.slice A2 es.length c2) rfl;have f4:=au st.x1 0 (v:=.iface tk uk) rfl;have f5:w1.cell? ⟨w.heap.size+1+1,0,none⟩=some (.iface t2 u2):=au st.x2 0 rfl;have ST1:=aj.mk st;have ZV:=aj.mk hu1;have HF1:=aj.mk hfr;clear st hu1 hfr
     refine ji hK ?_;clear hK K hHeld;intro hHeld
     refine ln 16 fun K hK=>?_
     go_simp
     refine ji hK ?_;clear hK K hHeld;intro hHeld
     refine ln 17 fun K hK=>?_
     refine zn (e:=e) rfl (.tmp 51) (.tmp 54) rfl (ST1.o.alloc hDl (.cells #[.iface t2 u2] 20)) hDl (HA.below ZV.o ((jM w1).alloc bW (.cells #[.iface t2 u2] 20))) w1.heap.size (aV _ _ _ rfl) (by have:=HLN.o;omega) rfl rfl ?_;intro v2 w2 st;have ⟨A4,c4,hv2,_⟩:=st.m2.len;generalize (es++[e]).length=m4 at hv2;subst hv2;have i2:=au st.kE 2 (v:=.slice A1 xs.length c1) rfl;have i3:=au st.kE 3 (v:=.slice A2 es.length c2) rfl;have i4:=au st.x1 0 (v:=.iface tk uk) rfl;have i5:w2.cell? ⟨w.heap.size+1+1,0,none⟩=some (.iface t2 u2):=au st.x2 0 rfl;have i6:=aI st.kE 2;have i7:=aI st.kE 3;have ST2:=aj.mk st;clear st
     refine ji hK ?_;clear hK K hHeld;intro hHeld
     refine EJ 18 ?_
     refine EJ 19 ?_
     refine PG 20 fun K hK=>?_
     go_simp
     refine Qe hK ?_
     clear hK K
     refine EJ 21 ?_
     refine EJ 22 ?_
     refine PG 23 fun K hK=>?_
     go_simp
     refine Qe hK ?_
     clear hK K
     refine uJ ?_
     refine bodyPost_end (v:=.tuple #[]) (by simp[results,results51,go_sem]) rfl ⟨rfl,.slice A3 m3 c3,.slice A4 m4 c4,⟨qH (qH ST2.o.kE 2 _ rfl) 3 _ rfl,by rw[List.map_append];exact(ST2.o.m1.set _ _ (fun h=>Nat.not_succ_le_self _ h.1)).set _ _ (fun h=>Nat.not_succ_le_self _ h.1),(ST2.o.m2.set _ _ (fun h=>Nat.not_succ_le_self _ h.1)).set _ _ (fun h=>Nat.not_succ_le_self _ h.1)⟩,fun w0 B hB hb=>((ST2.o.below w0 B hB hb).setCell hB _).setCell hB _,fun k hk hne h1 h2=>(fQ _ _ _ _ hne).trans ((fQ _ _ _ _ hne).trans (ST2.o.frame k hk h1 h2))⟩
    ·go_simp
     refine ji hK ?_;clear hK K hHeld;intro hHeld
     refine ln 9 fun K hK=>?_
     refine Gx (x:=x) rfl (.tmp 43) (.tmp 46) rfl ((PP.o.alloc hDl (.cells #[.iface tk uk] 20)).alloc hDl (.cells #[.iface t2 u2] 20)).drew hDl (HA.below UU.o (((jM wr).alloc bW (.cells #[.iface tk uk] 20)).alloc (by simp) (.cells #[.iface t2 u2] 20)).drew) wr.heap.size (aQ (aV wr _ _ rfl) _) HXV.o (by simp;omega) rfl rfl ?_;intro v1 w1 st hu1 hfr;have ⟨A3,c3,hv1,_⟩:=st.m1.len;generalize (List.map A.sc xs++[A.sc x]).length=m3 at hv1;subst hv1;have f2:=au st.kE 2 (v:=.slice A1 xs.length c1) rfl;have f3:=au st.kE 3 (v:=.slice A2 es.length c2) rfl;have f4:=au st.x1 0 (v:=.iface tk uk) rfl;have f5:w1.cell? ⟨w.heap.size+1+1,0,none⟩=some (.iface t2 u2):=au st.x2 0 rfl;have ST1:=aj.mk st;have ZV:=aj.mk hu1;have HF1:=aj.mk hfr;clear st hu1 hfr
     refine ji hK ?_;clear hK K hHeld;intro hHeld
     refine ln 17 fun K hK=>?_
     refine zn (e:=e) rfl (.tmp 51) (.tmp 54) rfl ST1.o hDl ZV.o (wr.heap.size+1) ((HF1.o (wr.heap.size+1) (by simp<;>omega) (fun q=>by have:=PP.o.m1.lt _ q.symm;omega)).trans (aV (wr.alloc (.cells #[.iface tk uk] 20)) _ _ (by simp))) (by have:=HLN.o;omega) rfl rfl ?_;intro v2 w2 st;have ⟨A4,c4,hv2,_⟩:=st.m2.len;generalize (es++[e]).length=m4 at hv2;subst hv2;have i2:=au st.kE 2 (v:=.slice A1 xs.length c1) rfl;have i3:=au st.kE 3 (v:=.slice A2 es.length c2) rfl;have i4:=au st.x1 0 (v:=.iface tk uk) rfl;have i5:w2.cell? ⟨w.heap.size+1+1,0,none⟩=some (.iface t2 u2):=au st.x2 0 rfl;have i6:=aI st.kE 2;have i7:=aI st.kE 3;have ST2:=aj.mk st;clear st
     refine ji hK ?_;clear hK K hHeld;intro hHeld
     refine EJ 18 ?_
     refine EJ 19 ?_
     refine PG 20 fun K hK=>?_
     go_simp
     refine Qe hK ?_
     clear hK K
     refine EJ 21 ?_
     refine EJ 22 ?_
     refine PG 23 fun K hK=>?_
     go_simp
     refine Qe hK ?_
     clear hK K
     refine uJ ?_
     refine bodyPost_end (v:=.tuple #[]) (by simp[results,results51,go_sem]) rfl ⟨rfl,.slice A3 m3 c3,.slice A4 m4 c4,⟨qH (qH ST2.o.kE 2 _ rfl) 3 _ rfl,by rw[List.map_append];exact(ST2.o.m1.set _ _ (fun h=>Nat.not_succ_le_self _ h.1)).set _ _ (fun h=>Nat.not_succ_le_self _ h.1),(ST2.o.m2.set _ _ (fun h=>Nat.not_succ_le_self _ h.1)).set _ _ (fun h=>Nat.not_succ_le_self _ h.1)⟩,fun w0 B hB hb=>((ST2.o.below w0 B hB hb).setCell hB _).setCell hB _,fun k hk hne h1 h2=>(fQ _ _ _ _ hne).trans ((fQ _ _ _ _ hne).trans (ST2.o.frame k hk h1 h2))⟩
   ·go_simp
    refine ji hK ?_;clear hK K hHeld;intro hHeld
    refine ln 8 fun K hK=>?_
    go_simp
    refine ji hK ?_;clear hK K hHeld;intro hHeld
    refine ln 9 fun K hK=>?_
    refine Gx (x:=x) rfl (.tmp 43) (.tmp 46) rfl ((PP.o.alloc hDl (.cells #[.iface t2 u2] 20)).alloc hDl (.cells #[.iface tk uk] 20)).drew hDl (HA.below UU.o (((jM wr).alloc bW (.cells #[.iface t2 u2] 20)).alloc (by simp) (.cells #[.iface tk uk] 20)).drew) (wr.heap.size+1) (aV (wr.alloc (.cells #[.iface t2 u2] 20)) _ _ (by simp)) HXV.o (by simp;omega) rfl rfl ?_;intro v1 w1 st hu1 hfr;have ⟨A3,c3,hv1,_⟩:=st.m1.len;generalize (List.map A.sc xs++[A.sc x]).length=m3 at hv1;subst hv1;have f2:=au st.kE 2 (v:=.slice A1 xs.length c1) rfl;have f3:=au st.kE 3 (v:=.slice A2 es.length c2) rfl;have f4:=au st.x1 0 (v:=.iface tk uk) rfl;have f5:w1.cell? ⟨w.heap.size+1+1,0,none⟩=some (.iface t2 u2):=au st.x2 0 rfl;have ST1:=aj.mk st;have ZV:=aj.mk hu1;have HF1:=aj.mk hfr;clear st hu1 hfr
    refine ji hK ?_;clear hK K hHeld;intro hHeld
    refine ln 17 fun K hK=>?_
    refine zn (e:=e) rfl (.tmp 51) (.tmp 54) rfl ST1.o hDl ZV.o wr.heap.size ((HF1.o wr.heap.size (by simp<;>omega) (fun q=>by have:=PP.o.m1.lt _ q.symm;omega)).trans (aQ (aV wr _ _ rfl) _)) (by have:=HLN.o;omega) rfl rfl ?_;intro v2 w2 st;have ⟨A4,c4,hv2,_⟩:=st.m2.len;generalize (es++[e]).length=m4 at hv2;subst hv2;have i2:=au st.kE 2 (v:=.slice A1 xs.length c1) rfl;have i3:=au st.kE 3 (v:=.slice A2 es.length c2) rfl;have i4:=au st.x1 0 (v:=.iface tk uk) rfl;have i5:w2.cell? ⟨w.heap.size+1+1,0,none⟩=some (.iface t2 u2):=au st.x2 0 rfl;have i6:=aI st.kE 2;have i7:=aI st.kE 3;have ST2:=aj.mk st;clear st
    refine ji hK ?_;clear hK K hHeld;intro hHeld
    refine EJ 18 ?_
    refine EJ 19 ?_
    refine PG 20 fun K hK=>?_
    go_simp
    refine Qe hK ?_
    clear hK K
    refine EJ 21 ?_
    refine EJ 22 ?_
    refine PG 23 fun K hK=>?_
    go_simp
    refine Qe hK ?_
    clear hK K
    refine uJ ?_
    refine bodyPost_end (v:=.tuple #[]) (by simp[results,results51,go_sem]) rfl ⟨rfl,.slice A3 m3 c3,.slice A4 m4 c4,⟨qH (qH ST2.o.kE 2 _ rfl) 3 _ rfl,by rw[List.map_append];exact(ST2.o.m1.set _ _ (fun h=>Nat.not_succ_le_self _ h.1)).set _ _ (fun h=>Nat.not_succ_le_self _ h.1),(ST2.o.m2.set _ _ (fun h=>Nat.not_succ_le_self _ h.1)).set _ _ (fun h=>Nat.not_succ_le_self _ h.1)⟩,fun w0 B hB hb=>((ST2.o.below w0 B hB hb).setCell hB _).setCell hB _,fun k hk hne h1 h2=>(fQ _ _ _ _ hne).trans ((fQ _ _ _ _ hne).trans (ST2.o.frame k hk h1 h2))⟩
end
end Go.Proofs.YtllcccekodcdmaaGreatDoor.Ms
namespace Go.Proofs.YtllcccekodcdmaaGreatDoor.Ms
open Go
def Ij (p:List Sc×List A) (q:Sc×A):List Sc×List A:=if q.1∈p.1 then(p.1,p.2.set (p.1.idxOf q.1) q.2)else(p.1++[q.1],p.2++[q.2])
def dfold (l:List (Sc×A)):List Sc×List A:=l.foldl Ij ([],[])
theorem Ry (l:List (Sc×A)) (q:Sc×A):dfold (l++[q])=Ij (dfold l) q:=by simp[dfold]
structure DF (l:List (Sc×A)) (p:List Sc×List A):Prop where
 len:p.1.length=p.2.length
 le:p.1.length≤l.length
 nd:p.1.Nodup
 ks:∀x∈p.1,∃q∈l,q.1=x
 es:∀e∈p.2,∃q∈l,q.2=e
 sum:∀S:List A→Nat,(∀a b,S (a++b)=S a+S b)→S (p.1.map A.sc)+S p.2≤S ((l.map (fun q=>q.1)).map A.sc)+S (l.map (fun q=>q.2))
theorem Xk (S:List A→Nat) (hS:∀a b,S (a++b)=S a+S b) (e:A):∀(l:List A) (i:Nat),S (l.set i e)≤S l+S [e]
 |[],i=>by simp
 |a::l,0=>by
  have h1:=hS [e] l
  have h2:=hS [a] l
  simp only[lF,List.nil_append]at h1 h2
  show S (e::l)≤_
  omega
 |a::l,i+1=>by
  have h1:=hS [a] (l.set i e)
  have h2:=hS [a] l
  have h3:=Xk S hS e l i
  simp only[lF,List.nil_append]at h1 h2
  show S (a::l.set i e)≤_
  omega
theorem DF.put {l:List (Sc×A)} {p:List Sc×List A} (h:DF l p) (q:Sc×A):DF (l++[q]) (Ij p q):=by
 have up:∀{Q:Sc×A→Prop},(∃r∈l,Q r)→∃r∈l++[q],Q r:=fun ⟨r,h1,h2⟩=>⟨r,by simp[h1],h2⟩
 unfold Ij
 split
 ·rename_i hm
  refine⟨by simp[h.len],by have:=h.le;simp;omega,h.nd,fun x hx=>up (h.ks x hx),fun e he=>?_,fun S hS=>?_⟩
  ·rcases List.mem_or_eq_of_mem_set he with he|rfl
   ·exact up (h.es e he)
   ·exact⟨q,by simp,rfl⟩
  ·have h1:=h.sum S hS
   have h2:=Xk S hS q.2 p.2 (p.1.idxOf q.1)
   simp only[List.map_append,hS,List.map_cons,List.map_nil]
   omega
 ·rename_i hm
  refine⟨by simp[h.len],by have:=h.le;simp;omega,?_,fun x hx=>?_,fun e he=>?_,fun S hS=>?_⟩
  ·rw[List.nodup_append]
   exact⟨h.nd,by simp,fun a ha b hb e=>by simp at hb;subst e hb;exact hm ha⟩
  ·rcases List.mem_append.1 hx with hx|hx
   ·exact up (h.ks x hx)
   ·simp at hx;exact⟨q,by simp,hx.symm⟩
  ·rcases List.mem_append.1 he with he|he
   ·exact up (h.es e he)
   ·simp at he;exact⟨q,by simp,he.symm⟩
  ·have h1:=h.sum S hS
   simp only[List.map_append,hS,List.map_cons,List.map_nil]
   omega
theorem OD (l:List (Sc×A)):DF l (dfold l):=by
 have gen:∀(b a:List (Sc×A)) (p:List Sc×List A),DF a p→DF (a++b) (b.foldl Ij p):=by
  intro b
  induction b with
  |nil=>intro a p h;simpa using h
  |cons q b ih=>intro a p h;have:=ih (a++[q]) _ (h.put q);simpa using this
 have:=gen l [] ([],[]) ⟨rfl,bW,by simp,by simp,by simp,fun S hS=>by simp⟩
 simpa[dfold]using this
theorem IE (xs:List Sc) (es:List A) (j:Nat) (h1:j<xs.length) (h2:j<es.length):(xs.zip es).take (j+1)=(xs.zip es).take j++[(xs[j],es[j])]:=by
 have h:j<(xs.zip es).length:=by rw[List.length_zip];omega
 rw[lu h,List.getElem_zip]
end Go.Proofs.YtllcccekodcdmaaGreatDoor.Ms
