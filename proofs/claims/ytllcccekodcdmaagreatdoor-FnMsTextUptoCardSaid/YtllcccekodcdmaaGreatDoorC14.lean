import Derived.Test.YtllcccekodcdmaaGreatDoorC13
set_option linter.unusedVariables false
set_option linter.unusedSimpArgs false
set_option maxRecDepth 100000
set_option maxHeartbeats 32000000
open Go.Proofs.Tryz
namespace Go.Proofs.YtllcccekodcdmaaGreatDoor.Ms
open Go Go.RowKit Go.Maps Go.Proofs.ak.aT Go.Proofs.ak.cO Go.Proofs.YtllcccekodcdmaaGreatDoor.bK
section
structure Fm (w W:World) (t f s mb M:Nat) (A0:Option Addr) (n c:Nat) (H:Nat→Option A) (m:Nat) (body:List A):Prop where
 kE:W.heap[M]?=some (.cells #[.int .u8 t,.int .u8 f,.map (some mb),.slice A0 n c,.int .u32 s] 109 (0,0))
 map:Hn W (fun k=>w.heap.size≤k∧k≠mb) mb H m
 row:Mk (fun k=>w.heap.size≤k∧k≠mb) W body (.slice A0 n c)
 eX:Below w.heap.size w W
 le:w.heap.size≤mb
 ne:M≠mb
section
variable {w W W':World} {t f s mb M:Nat} {A0:Option Addr} {n c:Nat} {H:Nat→Option A} {m:Nat} {body:List A}
theorem Fm.old (h:Fm w W t f s mb M A0 n c H m body) (hb:Below W.heap.size W W'):Fm w W' t f s mb M A0 n c H m body :=
 ⟨(hb.block _ (lt_of_block h.kE)).trans h.kE,h.map.below hb,h.row.below hb,h.eX.trans (hb.mono h.eX.size),h.le,h.ne⟩
theorem Fm.put (h:Fm w W t f s mb M A0 n c H m body) {H':Nat→Option A} {m':Nat} (hm:Hn W' (fun k=>w.heap.size≤k∧k≠mb) mb H' m') (hg:W.grownBy W' (some mb)):Fm w W' t f s mb M A0 n c H' m' body :=
 ⟨(hg.block _ (lt_of_block h.kE) (fun e=>h.ne (dU e))).trans h.kE,hm,h.row.step (fun k hk hlt=>hg.block k hlt (fun e=>hk.2 (dU e))),h.eX.grown hg h.eX.size (fun k hk=>by cases hk;exact h.le),h.le,h.ne⟩
end
theorem Fm.lt {w W:World} {t f s mb M:Nat} {A0:Option Addr} {n c:Nat} {H:Nat→Option A} {m:Nat} {body:List A} (h:Fm w W t f s mb M A0 n c H m body):mb<W.heap.size:=by
 obtain⟨n,D,h1,_⟩:=h.map
 exact h1.lt
theorem aan {w W:World} {A:Option Addr} {xs:List BP} (h:Kd.C k78 w A xs.length xs) (hb:Below w.heap.size w W) (i:Nat) (hi:i<xs.length):∃ad A4 c4,A=some ad∧W.cell? (ad.add (i*5))=some (.int .u8 (xs[i]).f0)∧W.cell? ⟨(ad.add (i*5)).block,(ad.add (i*5)).off+1,none⟩=some (.int .u8 (xs[i]).f1.f0)∧W.cell? ⟨(ad.add (i*5)).block,(ad.add (i*5)).off+2,none⟩=some (.int .u64 (xs[i]).f1.f1)∧W.cell? ⟨(ad.add (i*5)).block,(ad.add (i*5)).off+3,none⟩=some (.string (xs[i]).f1.f2)∧W.cell? ⟨(ad.add (i*5)).block,(ad.add (i*5)).off+4,none⟩=some (.slice A4 (xs[i]).f1.f3.length c4)∧(xs[i]).f1.f3.length≤c4∧ug.C w A4 (xs[i]).f1.f3.length (xs[i]).f1.f3:=by
 have:=ahL h (i:Int) (by omega) (by omega)
 have e:tK xs (i:Int)=xs[i]:=by simp[tK,wC,gQ hi]
 rw[e,show((i:Nat):Int).toNat=i from rfl]at this
 obtain⟨ad,A4,c4,e,h0,h1,h2,h3,h4,h5,h6⟩:=this
 have hh:∀p v,w.cell? p=some v→W.cell? p=some v:=fun p v h0=>(hb.cell (fA w _ h0)).trans h0
 exact⟨ad,A4,c4,e,hh _ _ h0,hh _ _ h1,hh _ _ h2,hh _ _ h3,hh _ _ h4,h5,h6⟩
structure adO (x:BP) (p:Nat×A):Prop where
 code:x.f0=(p.1:Int)
 lt:p.1<256
 door:uS x.f1 p.2
 f_:p.2.dN.f_
theorem acr (w:World):(Instr.makeMap 106 none).run prog w=.ok (.map (some w.heap.size)) (w.alloc (.map #[] 0)):=by kernel_rfl
theorem RF (t f s:Nat) (fs:List BP) (l:List (Nat×A)) (hfl:fs.length=l.length) (al4:l.length≤20) (hfs:∀(i:Nat) (h:i<fs.length) (h':i<l.length),adO fs[i] l[i])
  (body:List A) (vs:List l9) (hv:Doors vs body) (hbl:body.length≤999999) (A1 A2:Option Addr) (c1 c2:Nat) (w:World) (h1:Kd.C k78 w A1 fs.length fs) (hc1:fs.length≤c1) (h2:Kd.C ug w A2 vs.length vs) (hc2:vs.length≤c2) :
  Calls prog 34 #[.agg #[.int .u8 t,.int .u8 f,.int .u32 s,.slice A1 fs.length c1,.slice A2 vs.length c2]] w fun e w'=>∃M mb A0 c,e=.returned (.pointer (some ⟨M,0,none⟩))∧Fm w w' t f s mb M A0 body.length c (Ee l) l.length body:=by
 have HD:=ah (fun W (hb:Below w.heap.size w W)=>X9 body vs hv hbl A2 c2 W (Kd.bQ h2 hb) hc2)
 have HN:=ah (show ∀(W:World) (hb:Below w.heap.size w W) (i:Nat) (hi:i<fs.length),_ from fun W hb i hi=>aan h1 hb i hi)
 have HF:=ah hfs
 have HLEN:=ah (⟨hfl,al4⟩:fs.length=l.length∧l.length≤20)
 clear h1 h2 hv hbl hc1 hc2 hfs hfl al4
 obtain⟨n1,hn1⟩:∃n1,fs.length=n1:=⟨_,rfl⟩
 obtain⟨n2,hn2⟩:∃n2,vs.length=n2:=⟨_,rfl⟩
 have B_:=ah (⟨hn1,hn2⟩:fs.length=n1∧vs.length=n2)
 rw[hn2]at HD
 rw[hn1,hn2]
 have kx:=aV w (.cells #[.int .u8 t,.int .u8 f,.int .u32 s,.slice A1 n1 c1,.slice A2 n2 c2] 58) _ rfl
 have HB0:=ah ((jM w).alloc bW (.cells #[.int .u8 t,.int .u8 f,.int .u32 s,.slice A1 n1 c1,.slice A2 n2 c2] 58))
 have x0:=au kx 0 (v:=.int .u8 t) rfl
 have x1:=au kx 1 (v:=.int .u8 f) rfl
 have x2:=au kx 2 (v:=.int .u32 s) rfl
 have x3:=au kx 3 (v:=.slice A1 n1 c1) rfl
 have x4:=au kx 4 (v:=.slice A2 n2 c2) rfl
 have KX:=ah kx
 clear hn1 hn2 kx
 have hmm:=acr
 go_enter func34,ntmps34
 go_wp2
 refine lgo [11] ((fun w'=>w'.cell? ⟨w.heap.size,0,none⟩=some (.int .u8 t)∧w'.cell? ⟨w.heap.size,1,none⟩=some (.int .u8 f)∧w'.cell? ⟨w.heap.size,2,none⟩=some (.int .u32 s)∧w'.cell? ⟨w.heap.size,4,none⟩=some (.slice A2 n2 c2))) fun hHeld=>?_
 refine jS 0 ?_
 refine jS 1 ?_
 refine jS 2 ?_
 refine jS 3 ?_
 refine jS 5 ?_
 refine jS 6 ?_
 refine jS 8 ?_
 refine jS 9 ?_
 refine MF 4 7 rfl rfl (by kernel_rfl) (by decide) (by decide) (fun K hK=>?b1x) (fun K hK=>?b1y)
 case' b1x =>
  go_simp
  refine ji hK ?_;clear hK K hHeld;intro hHeld
  refine ln 7 fun K hK=>?_
  go_simp
  refine(HD.o _ (HB0.o.drew.alloc (by simp) (.map #[] 0))).mono ?_;rintro e w2 ⟨s2,rfl,hm,hb⟩;have ⟨A0,c0,hv2,_⟩:=hm.len;subst hv2;have HM:=ah hm;have HB:=ah hb;have WV:=(HB.o.block _ (by simp;omega)).trans (aQ (show(w.alloc _).drew.heap[w.heap.size]?=_ from KX.o) (.map #[] 0));have y0:=au WV 0 (v:=.int .u8 t) rfl;have y1:=au WV 1 (v:=.int .u8 f) rfl;have y2:=au WV 2 (v:=.int .u32 s) rfl;have y3:=au WV 3 (v:=.slice A1 n1 c1) rfl;have y4:=au WV 4 (v:=.slice A2 n2 c2) rfl;clear hm hb
  (try go_wp2_with fail)
  refine ji hK ?_;clear hK K hHeld;intro hHeld
  refine jS 10 ?_
  refine PG 11 fun K hK=>?_
  go_simp
  refine Qe hK ?_
  clear hK K
  refine EJ 12 ?_
  refine uJ ?_
  have FM:=ah (⟨aV w2 _ _ rfl,((Hn.new (w.alloc _).drew _ _ (by simp)).below HB.o).below (gG _),(HM.o.mono (fun k hk _=>by simp at hk;omega)).alloc _,(HB0.o.drew.alloc (by simp) _).trans (HB.o.mono (by simp;omega)) |>.alloc (by have:=HB.o.size;simp at this;omega) _,by omega,by have:=HB.o.size;simp at this;omega⟩:Fm w (w2.alloc (.cells #[.int .u8 t,.int .u8 f,.map (some (w.heap.size+1)),.slice A0 body.length c0,.int .u32 s] 109 (0,0))) t f s (w.heap.size+1) w2.heap.size A0 body.length c0 (Ee []) 0 body);have hx3:=au (aQ WV (.cells #[.int .u8 t,.int .u8 f,.map (some (w.heap.size+1)),.slice A0 body.length c0,.int .u32 s] 109 (0,0))) 3 (v:=.slice A1 n1 c1) rfl;generalize w2.alloc (.cells #[.int .u8 t,.int .u8 f,.map (some (w.heap.size+1)),.slice A0 body.length c0,.int .u32 s] 109 (0,0))=W at FM hx3 ⊢;generalize w2.heap.size=M at FM hx3 ⊢;generalize w.heap.size+1=mb at FM hx3 ⊢
 case' b1y =>
  go_simp
  refine(HD.o _ HB0.o.drew).mono ?_;rintro e w2 ⟨s2,rfl,hm,hb⟩;have ⟨A0,c0,hv2,_⟩:=hm.len;subst hv2;have HM:=ah hm;have HB:=ah hb;have WV:=(HB.o.block _ (by simp)).trans (show(w.alloc _).drew.heap[w.heap.size]?=_ from KX.o);have y0:=au WV 0 (v:=.int .u8 t) rfl;have y1:=au WV 1 (v:=.int .u8 f) rfl;have y2:=au WV 2 (v:=.int .u32 s) rfl;have y3:=au WV 3 (v:=.slice A1 n1 c1) rfl;have y4:=au WV 4 (v:=.slice A2 n2 c2) rfl;clear hm hb
  (try go_wp2_with fail)
  refine ji hK ?_;clear hK K hHeld;intro hHeld
  refine ln 4 fun K hK=>?_
  go_simp
  refine ji hK ?_;clear hK K hHeld;intro hHeld
  refine jS 10 ?_
  refine PG 11 fun K hK=>?_
  go_simp
  refine Qe hK ?_
  clear hK K
  refine EJ 12 ?_
  refine uJ ?_
  have FM:=ah (⟨aV (w2.alloc _) _ _ (by simp),(Hn.new w2 _ _ rfl).below (gG _),((HM.o.mono (fun k hk hk2=>by simp at hk;omega)).alloc _).alloc _,((HB0.o.drew.trans (HB.o.mono (by simp))).alloc (by have:=HB.o.size;simp at this;omega) _).alloc (by have:=HB.o.size;simp at this ⊢;omega) _,by have:=HB.o.size;simp at this;omega,by omega⟩:Fm w ((w2.alloc (.map #[] 0)).alloc (.cells #[.int .u8 t,.int .u8 f,.map (some (w2.heap.size)),.slice A0 body.length c0,.int .u32 s] 109 (0,0))) t f s w2.heap.size (w2.heap.size+1) A0 body.length c0 (Ee []) 0 body);have hx3:=au (aQ (aQ WV (.map #[] 0)) (.cells #[.int .u8 t,.int .u8 f,.map (some (w2.heap.size)),.slice A0 body.length c0,.int .u32 s] 109 (0,0))) 3 (v:=.slice A1 n1 c1) rfl;generalize (w2.alloc (.map #[] 0)).alloc (.cells #[.int .u8 t,.int .u8 f,.map (some (w2.heap.size)),.slice A0 body.length c0,.int .u32 s] 109 (0,0))=W at FM hx3 ⊢;generalize w2.heap.size+1=M at FM hx3 ⊢;generalize w2.heap.size=mb at FM hx3 ⊢
 all_goals (
  clear x0 x1 x2 x3 x4 y0 y1 y2 y3 y4 KX HB0 HD hHeld WV HM HB
  go_wp2
  go_loopw [21] (fun v21 wr=>∃(k:Nat),k≤n1∧v21=.int .i64 (k:Nat)∧aj (Fm w wr t f s mb M A0 body.length c0 (Ee (l.take k)) k body)) (fun v21 _=>n1-(intOf v21).toNat)
  case atStart=>exact⟨0,jf _,rfl,⟨FM.o⟩⟩
  case round =>
   clear FM
   obtain⟨k,hk,rfl,FM0⟩:=hrel
   have FM:=ah FM0.o
   clear FM0
   by_cases hlt:k<n1
   ·have hd:decide ((k:Int)<(n1:Int))=true:=by simp;omega
    have hk9:k+1≤1000:=by have:=HLEN.o;have:=B_.o.1;omega
    have hkv:k<fs.length:=by have:=B_.o.1;omega
    have hkl:k<l.length:=by have:=HLEN.o;omega
    obtain⟨ad,A4,c4,hA,h0,h1,h2,h3,h4,h5,h6⟩:=HN.o wr FM.o.eX k hkv
    subst hA
    have FD:=ah (HF.o k hkv hkl)
    have HT:=ah (by rw[lu hkl,Ob]:Ee (l.take (k+1))=Ib (Ee (l.take k)) (l[k]).1 (l[k]).2)
    generalize fs[k]=x at h0 h1 h2 h3 h4 h5 h6 FD
    generalize l[k]=p at HT FD
    rw[FD.o.code]at h0
    have HC6:=ah h6
    have hml:=FM.o.lt
    have m2:=au (aQ FM.o.kE (.cells #[.int .u8 p.1,.int .u8 x.f1.f0,.int .u64 x.f1.f1,.string x.f1.f2,.slice A4 x.f1.f3.length c4] 78)) 2 (v:=.map (some mb)) rfl
    have kt:=aV wr (.cells #[.int .u8 p.1,.int .u8 x.f1.f0,.int .u64 x.f1.f1,.string x.f1.f2,.slice A4 x.f1.f3.length c4] 78) _ rfl
    have q0:=au kt 0 (v:=.int .u8 p.1) rfl
    have q1:=au kt 1 (v:=.int .u8 x.f1.f0) rfl
    have q2:=au kt 2 (v:=.int .u64 x.f1.f1) rfl
    have q3:=au kt 3 (v:=.string x.f1.f2) rfl
    have q4:=au kt 4 (v:=.slice A4 x.f1.f3.length c4) rfl
    have KT:=ah kt
    have hWB:=ah (((jM wr).alloc bW (.cells #[.int .u8 p.1,.int .u8 x.f1.f0,.int .u64 x.f1.f1,.string x.f1.f2,.slice A4 x.f1.f3.length c4] 78)).drew)
    clear h6 kt
    go_wp2
    refine lgo [10] ((fun w'=>w'.cell? ⟨M,2,none⟩=some (.map (some mb))∧w'.cell? ⟨wr.heap.size,0,none⟩=some (.int .u8 p.1)∧w'.cell? ⟨wr.heap.size,1,none⟩=some (.int .u8 x.f1.f0)∧w'.cell? ⟨wr.heap.size,2,none⟩=some (.int .u64 x.f1.f1)∧w'.cell? ⟨wr.heap.size,3,none⟩=some (.string x.f1.f2)∧w'.cell? ⟨wr.heap.size,4,none⟩=some (.slice A4 x.f1.f3.length c4))) fun hHeld=>?_
    refine jS 0 ?_
    refine jS 1 ?_
    refine jS 2 ?_
    refine jS 3 ?_
    refine jS 4 ?_
    refine jS 5 ?_
    refine jS 6 ?_
    refine jS 7 ?_
    refine ln 8 fun K hK=>?_
    go_simp
    refine(FD.o.door A4 c4 _ (Kd.bQ HC6.o (FM.o.eX.trans (hWB.o.mono FM.o.eX.size))) h5).mono ?_;rintro e w4 ⟨u0,rfl,hu,hb1⟩;have ⟨tu,uu,hiu⟩:=hu.iface;subst hiu;have FM4:=ah (FM.o.old (hWB.o.trans (hb1.mono (by simp))));have HU:=ah (hu.mono (ok':=fun k=>w.heap.size≤k∧k≠mb) (fun j hj=>by have:=FM.o.eX.size;simp at hj;omega));have m2:=au FM4.o.kE 2 (v:=.map (some mb)) rfl;have KT4:=ah ((hb1.block _ (by simp)).trans (show(wr.alloc _).drew.heap[wr.heap.size]?=_ from KT.o));have q0:=au KT4.o 0 (v:=.int .u8 p.1) rfl;have q1:=au KT4.o 1 (v:=.int .u8 x.f1.f0) rfl;have q2:=au KT4.o 2 (v:=.int .u64 x.f1.f1) rfl;have q3:=au KT4.o 3 (v:=.string x.f1.f2) rfl;have q4:=au KT4.o 4 (v:=.slice A4 x.f1.f3.length c4) rfl;clear hu hb1
    (try go_wp2_with fail)
    refine ji hK ?_;clear hK K hHeld;intro hHeld
    refine ln 9 fun K hK=>?_
    go_simp
    refine(mkVar p.2 FD.o.f_ _ _ w4 HU.o).mono ?_;rintro e w5 ⟨rfl,hb1⟩;have FM5:=ah (FM4.o.old hb1);have HU5:=ah (HU.o.below hb1);have m2:=au FM5.o.kE 2 (v:=.map (some mb)) rfl;have KT5:=ah ((hb1.block _ (lt_of_block KT4.o)).trans KT4.o);have q0:=au KT5.o 0 (v:=.int .u8 p.1) rfl;have q1:=au KT5.o 1 (v:=.int .u8 x.f1.f0) rfl;have q2:=au KT5.o 2 (v:=.int .u64 x.f1.f1) rfl;have q3:=au KT5.o 3 (v:=.string x.f1.f2) rfl;have q4:=au KT5.o 4 (v:=.slice A4 x.f1.f3.length c4) rfl;clear hb1
    (try go_wp2_with fail)
    refine ji hK ?_;clear hK K hHeld;intro hHeld
    refine PG 10 fun K hK=>?_
    refine Hn.put FM5.o.map (fun h=>h.2 rfl) rfl (.tmp 28) (.tmp 30) (.tmp 34) rfl rfl (by omega) p.1 FD.o.lt p.2 _ HU5.o rfl rfl rfl ?_;intro w6 hm6 hg6;have FM6:=ah (FM5.o.put hm6 hg6);clear hm6 hg6
    refine Qe hK ?_
    clear hK K
    refine uJ ?_
    go_wp2
    go_roundw
    case rel=>exact⟨k+1,hlt,by go_num,⟨by rw[HT.o];exact FM6.o⟩⟩
    case measure=>simp[intOf];omega
   ·have hd:decide ((k:Int)<(n1:Int))=false:=by simp;omega
    have hke:k=l.length:=by have:=HLEN.o;have:=B_.o.1;omega
    have JZ:=ah hke
    clear hke
    go_wp2
    go_ret
    exact⟨_,_,_,_,rfl,by have h:=FM.o;rw[JZ.o,List.take_length]at h;exact h⟩)
end
end Go.Proofs.YtllcccekodcdmaaGreatDoor.Ms
namespace Go.Proofs.YtllcccekodcdmaaGreatDoor.Ms
open Go Go.RowKit Go.Maps Go.Proofs.ak.aT
def VhP (P:Prop) (w:World) (e:Ending) (w':World):Prop:=Below w.heap.size w w'∧((e=.returned .nilIface∧P)∨((∃s,e=.returned (.iface 224 (.string s)))∧¬P))
theorem ah6:∀n:Fin 256,(bits .and .u8 (n.val:Int) 248 != 0)=!decide (n.val≤7):=by decide +kernel
theorem zZ {H:Nat→Option A} {c:Nat} {f:List UInt8→Bool} (h:H c=none):NY H c f:=fun a s e=>by rw[h]at e;cases e
theorem z_ {H:Nat→Option A} {c:Nat} {f:List UInt8→Bool} {a:A} {x:List UInt8} (h:H c=some a) (ha:a=.sc (.s (bs x))∨a=.sc (.o (bs x))) (hf:f x=true):NY H c f:=fun b s e hb=>by
 rw[h]at e
 cases e
 rcases ha with rfl|rfl<;>rcases hb with hb|hb<;>first|cases hb;rw[m_];exact hf|cases hb
theorem EH {H:Nat→Option A} {c:Nat} {f:List UInt8→Bool} {a:A} {x:List UInt8} (h:H c=some a) (ha:a=.sc (.s (bs x))∨a=.sc (.o (bs x))) (hf:f x=false) (h2:NY H c f):False:=by
 have:=h2 a (bs x) h ha
 rw[m_,hf]at this
 cases this
theorem pW {P:Prop} {w w':World} {s:bG} (hb:Below w.heap.size w w') (h:¬P):VhP P w (.returned (.iface 224 (.string s))) w':=⟨hb,.inr ⟨⟨s,rfl⟩,h⟩⟩
theorem Xp {w:World} {ok:Nat→Prop} {M mb ty fl kG:Nat} {A0:Option Addr} {n c:Nat} {H:Nat→Option A} (h:Mg w ok M mb ty fl kG A0 n c H) (hty:ty<256) (hfl:fl<256) (hn:n≤1000000)
  (hsz:∀d a s,H d=some a→(a=.sc (.s s)∨a=.sc (.o s))→s.size≤1000000):Calls prog 138 #[.pointer (some ⟨M,0,none⟩)] w (VhP (yE ty fl H n) w):=by
 have hf:=ah6 ⟨fl,hfl⟩
 simp only at hf
 have HM:=ah h
 have nY:=ah hsz
 have hM0:=lt_of_block h.kE
 obtain⟨c0,c1,c2,c3,c4⟩:=h.cells
 clear h hsz
 by_cases Yq:fl≤7
 ·rw[decide_eq_true Yq]at hf
  by_cases ht:1≤ty∧ty≤4
  ·have HFT:=ah (⟨Yq,ht⟩:fl≤7∧1≤ty∧ty≤4)
   have ht1:((ty:Int)==0)=false:=by rw[kS];omega
   have ht2:decide ((5:Int)≤(ty:Int))=false:=by simp;omega
   have RQ:=ah (fun W=>acK ty ht.1 ht.2 W)
   clear Yq ht
   go_enter func138,ntmps138
   go_wp2_with (at_range;refine Hm.acH rfl (.tmp 42) rfl HM.o.map rfl ?_;intro w0 atv hrn hb0;have RN0:=ah hrn;have HB0:=ah hb0;clear hrn hb0)
   go_frame
   obtain⟨r,hr⟩:∃r,w.heap.size=r:=⟨_,rfl⟩
   rw[hr]at RN0 ⊢
   have HR:=ah hr
   have hMr:M<r:=by omega
   clear hr c0 c1 c2 c3 c4
   go_loopw [3] (fun _ wr=>∃(todo:Nat→Bool) (kZ:Nat),aj (E8 wr ok mb r H todo kZ∧Below w.heap.size w wr∧(∀c a,c<256→H c=some a→todo c=true∨FOk c a))) (fun _ wr=>wr.rangeLeft mb r)
   case atStart=>exact⟨_,_,⟨RN0.o,HB0.o,fun c a hc e=>.inl (by rw[e];rfl)⟩⟩
   case round =>
    clear RN0 HB0
    obtain⟨todo,kZ,HL⟩:=hrel
    go_wp2_with (at_next;refine E8.wp rfl (.tmp 43) rfl HL.o.1 rfl ?_ ?_)
    ·intro htd
     have HK:=ah (fun c a hc e=>(HL.o.2.2 c a hc e).resolve_left (by rw[htd c hc];simp):∀c a,c<256→H c=some a→FOk c a)
     have HB:=ah HL.o.2.1
     have MG:=ah (HM.o.below HB.o)
     obtain⟨d0,d1,d2,d3,d4⟩:=MG.o.cells
     clear htd HL
     go_wp2_with (go_at_call 169;refine(RQ.o _).mono ?_;rintro e w2 ⟨g,nn,cc,cs,rfl,hl,hgc,hcs,hb⟩;have HB:=ah (HB.o.trans (hb.mono HB.o.size));have HGC:=ah hgc;have HCS:=ah hcs;have Ep:=ah hl;have atP:nn≤3:=(by rw[←hl];exact Ju ty);clear hb hgc hcs hl)
     clear d0 d1 d2 d3 d4 MG
     go_loopw [69] (fun t wr=>∃k:Nat,k≤nn∧t=.int .i64 k∧aj (wr.heap[g]?=some (.cells cs 110 (0,0))∧Below w.heap.size w wr∧∀i (h:i<(iC ty).length),i<k→H (iC ty)[i]≠none)) (fun t _=>nn-(intOf t).toNat)
     case atStart=>exact⟨0,jf _,rfl,⟨HGC.o,HB.o,fun i h hi=>by omega⟩⟩
     case round =>
      clear HB HGC
      obtain⟨k,hk,rfl,HL⟩:=hrel
      have HB:=ah HL.o.2.1
      have MG:=ah (HM.o.below HB.o)
      obtain⟨d0,d1,d2,d3,d4⟩:=MG.o.cells
      by_cases hkn:k<nn
      ·have hkl:k<(iC ty).length:=by rw[Ep.o];exact hkn
       have q0:=au HL.o.1 k (HCS.o k hkl)
       have ZT:=ah (nZ hkl)
       have HLE:=ah (acz ty _ ZT.o)
       have agQ:=ah (fun (h:H (iC ty)[k]≠none) i (hi:i<(iC ty).length) (hik:i<k+1)=>(by
        by_cases e:i=k
        ·subst e;exact h
        ·exact HL.o.2.2 i hi (by omega):H (iC ty)[i]≠none))
       generalize (iC ty)[k]=z at q0 ZT HLE agQ
       have Jo:(k:Int)<nn:=by omega
       go_wp2_with (at_lookup;refine Hm.wp rfl (.tmp 77) (.tmp 78) rfl MG.o.map z HLE.o rfl rfl ?_ ?_)
       ·intro h0
        have HBAD:=ah (fun h=>h.iC z ZT.o h0:¬yE ty fl H n)
        clear h0
        go_wp2
        go_ret
        exact pW (HB.o.alloc HB.o.size _) HBAD.o
       ·intro a v he ha
        obtain⟨tv,uv,rfl⟩:=ha.iface
        have HS:=ah (agQ.o (by rw[he];simp))
        clear he ha
        go_wp2
        go_roundw
        case rel=>exact⟨k+1,hkn,by go_num,⟨(kN _ _ _ (lt_of_block HL.o.1)).trans HL.o.1,HB.o.alloc HB.o.size _,HS.o⟩⟩
        case measure=>simp[intOf];omega
      ·have hke:nn=k:=by omega
       subst hke
       have Jo:decide ((nn:Int)<(nn:Int))=false:=by simp
       have Ux:=ah (fun z hz=>(by
        obtain⟨i,hi,rfl⟩:=List.getElem_of_mem hz
        exact HL.o.2.2 i hi (by rw[←Ep.o];exact hi):H z≠none):∀z∈iC ty,H z≠none)
       clear HL
       go_wp2_with (at_lookup;refine Hm.wp rfl (.tmp 90) _ rfl MG.o.map 1 (by decide) rfl rfl ?_ ?_)
       all_goals (
        first
         |(intro h0
           have HF1:=ah (zZ h0:NY H 1 je)
           have MG:=ah (MG.o.below (gG (.cells #[.string ⟨#[]⟩,.nilIface] 70)))
           have HB:=ah (HB.o.alloc HB.o.size (.cells #[.string ⟨#[]⟩,.nilIface] 70))
           have ⟨d0,d1,d2,d3,d4⟩:=MG.o.cells
           clear h0
           go_wp2_with (at_lookup;refine Hm.wp rfl (.tmp 105) _ rfl MG.o.map 2 (by decide) rfl rfl ?_ ?_))
         |(intro a v he ha
           obtain⟨s,e1,e2⟩:=(wu a _ _ _ ha).2.1 (HK.o 1 a (by decide) he).2.2
           have hs1:=nY.o 1 a s he (by first|exact .inl e1|exact .inr e1)
           obtain⟨x,hx⟩:∃x,s=bs x:=⟨s.data.toList,(o8 s).symm⟩
           rw[hx]at e1 e2 hs1
           subst e2
           have hxl:x.length≤1000000:=by rwa [aH]at hs1
           have SY:=ah (fun W=>Jw x hxl W)
           have HE:=ah (⟨he,e1⟩:H 1=some a∧a=.sc (.o (bs x)))
           have HEX:=ah (by first|exact .inl e1|exact .inr e1:a=.sc (.s (bs x))∨a=.sc (.o (bs x)))
           clear he e1 hs1 hx ha
           cases hp:je x
           ·have HBAD:=ah (fun h=>EH HE.o.1 HEX.o hp h.path:¬yE ty fl H n)
            rw[hp]at SY
            clear hp
            go_wp2_with (go_at_call 170;refine(SY.o _).mono ?_;rintro e w9 ⟨rfl,hb⟩;have HB9:=ah ((HB.o.alloc HB.o.size _).trans (hb.mono (HB.o.alloc HB.o.size _).size));clear hb)
            go_ret
            exact pW HB9.o HBAD.o
           have HF1:=ah (z_ HE.o.1 HEX.o hp:NY H 1 je)
           rw[hp]at SY
           clear hp
           go_wp2_with (first|(go_at_call 170;refine(SY.o _).mono ?_;rintro e w9 ⟨rfl,hb⟩;have HB:=ah ((HB.o.alloc HB.o.size _).trans (hb.mono (HB.o.alloc HB.o.size _).size));have MG:=ah (HM.o.below HB.o);have ⟨d0,d1,d2,d3,d4⟩:=MG.o.cells;clear hb)|(at_lookup;refine Hm.wp rfl (.tmp 105) _ rfl MG.o.map 2 (by decide) rfl rfl ?_ ?_))))
       all_goals (
        first
         |(intro h0
           have HF2:=ah (zZ h0:NY H 2 g_)
           have MG:=ah (MG.o.below (gG (.cells #[.string ⟨#[]⟩,.nilIface] 70)))
           have HB:=ah (HB.o.alloc HB.o.size (.cells #[.string ⟨#[]⟩,.nilIface] 70))
           have ⟨d0,d1,d2,d3,d4⟩:=MG.o.cells
           clear h0
           go_wp2_with (at_lookup;refine Hm.wp rfl (.tmp 120) _ rfl MG.o.map 3 (by decide) rfl rfl ?_ ?_))
         |(intro a v he ha
           obtain⟨s,e1,e2⟩:=(wu a _ _ _ ha).1 (HK.o 2 a (by decide) he).2.2
           have hs1:=nY.o 2 a s he (by first|exact .inl e1|exact .inr e1)
           obtain⟨x,hx⟩:∃x,s=bs x:=⟨s.data.toList,(o8 s).symm⟩
           rw[hx]at e1 e2 hs1
           subst e2
           have hxl:x.length≤1000000:=by rwa [aH]at hs1
           have SY:=ah (fun W=>Gs x hxl W)
           have HE:=ah (⟨he,e1⟩:H 2=some a∧a=.sc (.s (bs x)))
           have HEX:=ah (by first|exact .inl e1|exact .inr e1:a=.sc (.s (bs x))∨a=.sc (.o (bs x)))
           clear he e1 hs1 hx ha
           cases hp:g_ x
           ·have HBAD:=ah (fun h=>EH HE.o.1 HEX.o hp h.iface:¬yE ty fl H n)
            rw[hp]at SY
            clear hp
            go_wp2_with (go_at_call 171;refine(SY.o _).mono ?_;rintro e w9 ⟨rfl,hb⟩;have HB9:=ah ((HB.o.alloc HB.o.size _).trans (hb.mono (HB.o.alloc HB.o.size _).size));clear hb)
            go_ret
            exact pW HB9.o HBAD.o
           have HF2:=ah (z_ HE.o.1 HEX.o hp:NY H 2 g_)
           rw[hp]at SY
           clear hp
           go_wp2_with (first|(go_at_call 171;refine(SY.o _).mono ?_;rintro e w9 ⟨rfl,hb⟩;have HB:=ah ((HB.o.alloc HB.o.size _).trans (hb.mono (HB.o.alloc HB.o.size _).size));have MG:=ah (HM.o.below HB.o);have ⟨d0,d1,d2,d3,d4⟩:=MG.o.cells;clear hb)|(at_lookup;refine Hm.wp rfl (.tmp 120) _ rfl MG.o.map 3 (by decide) rfl rfl ?_ ?_))))
       all_goals (
        first
         |(intro h0
           have HF3:=ah (zZ h0:NY H 3 nO)
           have MG:=ah (MG.o.below (gG (.cells #[.string ⟨#[]⟩,.nilIface] 70)))
           have HB:=ah (HB.o.alloc HB.o.size (.cells #[.string ⟨#[]⟩,.nilIface] 70))
           have ⟨d0,d1,d2,d3,d4⟩:=MG.o.cells
           clear h0
           go_wp2_with (at_lookup;refine Hm.wp rfl (.tmp 135) _ rfl MG.o.map 4 (by decide) rfl rfl ?_ ?_))
         |(intro a v he ha
           obtain⟨s,e1,e2⟩:=(wu a _ _ _ ha).1 (HK.o 3 a (by decide) he).2.2
           have hs1:=nY.o 3 a s he (by first|exact .inl e1|exact .inr e1)
           obtain⟨x,hx⟩:∃x,s=bs x:=⟨s.data.toList,(o8 s).symm⟩
           rw[hx]at e1 e2 hs1
           subst e2
           have hxl:x.length≤1000000:=by rwa [aH]at hs1
           have SY:=ah (fun W=>PK x hxl W)
           have HE:=ah (⟨he,e1⟩:H 3=some a∧a=.sc (.s (bs x)))
           have HEX:=ah (by first|exact .inl e1|exact .inr e1:a=.sc (.s (bs x))∨a=.sc (.o (bs x)))
           clear he e1 hs1 hx ha
           cases hp:nO x
           ·have HBAD:=ah (fun h=>EH HE.o.1 HEX.o hp h.aml:¬yE ty fl H n)
            rw[hp]at SY
            clear hp
            go_wp2_with (go_at_call 172;refine(SY.o _).mono ?_;rintro e w9 ⟨rfl,hb⟩;have HB9:=ah ((HB.o.alloc HB.o.size _).trans (hb.mono (HB.o.alloc HB.o.size _).size));clear hb)
            go_ret
            exact pW HB9.o HBAD.o
           have HF3:=ah (z_ HE.o.1 HEX.o hp:NY H 3 nO)
           rw[hp]at SY
           clear hp
           go_wp2_with (first|(go_at_call 172;refine(SY.o _).mono ?_;rintro e w9 ⟨rfl,hb⟩;have HB:=ah ((HB.o.alloc HB.o.size _).trans (hb.mono (HB.o.alloc HB.o.size _).size));have MG:=ah (HM.o.below HB.o);have ⟨d0,d1,d2,d3,d4⟩:=MG.o.cells;clear hb)|(at_lookup;refine Hm.wp rfl (.tmp 135) _ rfl MG.o.map 4 (by decide) rfl rfl ?_ ?_))))
       all_goals (
        first
         |(intro h0
           have HF4:=ah (zZ h0:NY H 4 g_)
           have MG:=ah (MG.o.below (gG (.cells #[.string ⟨#[]⟩,.nilIface] 70)))
           have HB:=ah (HB.o.alloc HB.o.size (.cells #[.string ⟨#[]⟩,.nilIface] 70))
           have ⟨d0,d1,d2,d3,d4⟩:=MG.o.cells
           clear h0
           by_cases hn0:n=0
           ·have hn1:((n:Int) != 0)=false:=by rw[hn0];rfl
            have HE:=ah (⟨HFT.o.1,HFT.o.2,HK.o,Ux.o,HF1.o,HF2.o,HF3.o,HF4.o,fun h=>absurd hn0 h⟩:yE ty fl H n)
            clear hn0
            go_wp2_with fail
            go_ret
            exact⟨HB.o,.inl ⟨rfl,HE.o⟩⟩
           ·have hn1:((n:Int) != 0)=true:=by rw[bne_iff_ne];omega
            have HN0:=ah hn0
            clear hn0
            go_wp2_with (at_lookup;refine Hm.wp rfl (.tmp 156) _ rfl MG.o.map 8 (by decide) rfl rfl ?_ ?_)
            ·intro h0
             have HBAD:=ah (fun h=>h.sig HN0.o h0:¬yE ty fl H n)
             clear h0
             go_wp2
             go_ret
             exact pW (HB.o.alloc HB.o.size _) HBAD.o
            ·intro a v he ha
             obtain⟨tv,uv,rfl⟩:=ha.iface
             have HE:=ah (⟨HFT.o.1,HFT.o.2,HK.o,Ux.o,HF1.o,HF2.o,HF3.o,HF4.o,fun _ h=>by rw[h]at he;cases he⟩:yE ty fl H n)
             clear he ha
             go_wp2
             go_ret
             exact⟨HB.o.alloc HB.o.size _,.inl ⟨rfl,HE.o⟩⟩)
         |(intro a v he ha
           obtain⟨s,e1,e2⟩:=(wu a _ _ _ ha).1 (HK.o 4 a (by decide) he).2.2
           have hs1:=nY.o 4 a s he (by first|exact .inl e1|exact .inr e1)
           obtain⟨x,hx⟩:∃x,s=bs x:=⟨s.data.toList,(o8 s).symm⟩
           rw[hx]at e1 e2 hs1
           subst e2
           have hxl:x.length≤1000000:=by rwa [aH]at hs1
           have SY:=ah (fun W=>Gs x hxl W)
           have HE:=ah (⟨he,e1⟩:H 4=some a∧a=.sc (.s (bs x)))
           have HEX:=ah (by first|exact .inl e1|exact .inr e1:a=.sc (.s (bs x))∨a=.sc (.o (bs x)))
           clear he e1 hs1 hx ha
           cases hp:g_ x
           ·have HBAD:=ah (fun h=>EH HE.o.1 HEX.o hp h.err:¬yE ty fl H n)
            rw[hp]at SY
            clear hp
            go_wp2_with (go_at_call 171;refine(SY.o _).mono ?_;rintro e w9 ⟨rfl,hb⟩;have HB9:=ah ((HB.o.alloc HB.o.size _).trans (hb.mono (HB.o.alloc HB.o.size _).size));clear hb)
            go_ret
            exact pW HB9.o HBAD.o
           have HF4:=ah (z_ HE.o.1 HEX.o hp:NY H 4 g_)
           rw[hp]at SY
           clear hp
           by_cases hn0:n=0
           ·have hn1:((n:Int) != 0)=false:=by rw[hn0];rfl
            have HE:=ah (⟨HFT.o.1,HFT.o.2,HK.o,Ux.o,HF1.o,HF2.o,HF3.o,HF4.o,fun h=>absurd hn0 h⟩:yE ty fl H n)
            clear hn0
            go_wp2_with (go_at_call 171;refine(SY.o _).mono ?_;rintro e w9 ⟨rfl,hb⟩;have HB:=ah ((HB.o.alloc HB.o.size _).trans (hb.mono (HB.o.alloc HB.o.size _).size));have MG:=ah (HM.o.below HB.o);have ⟨d0,d1,d2,d3,d4⟩:=MG.o.cells;clear hb)
            go_ret
            exact⟨HB.o,.inl ⟨rfl,HE.o⟩⟩
           ·have hn1:((n:Int) != 0)=true:=by rw[bne_iff_ne];omega
            have HN0:=ah hn0
            clear hn0
            go_wp2_with (first|(go_at_call 171;refine(SY.o _).mono ?_;rintro e w9 ⟨rfl,hb⟩;have HB:=ah ((HB.o.alloc HB.o.size _).trans (hb.mono (HB.o.alloc HB.o.size _).size));have MG:=ah (HM.o.below HB.o);have ⟨d0,d1,d2,d3,d4⟩:=MG.o.cells;clear hb)|(at_lookup;refine Hm.wp rfl (.tmp 156) _ rfl MG.o.map 8 (by decide) rfl rfl ?_ ?_))
            ·intro h0
             have HBAD:=ah (fun h=>h.sig HN0.o h0:¬yE ty fl H n)
             clear h0
             go_wp2
             go_ret
             exact pW (HB.o.alloc HB.o.size _) HBAD.o
            ·intro a v he ha
             obtain⟨tv,uv,rfl⟩:=ha.iface
             have HE:=ah (⟨HFT.o.1,HFT.o.2,HK.o,Ux.o,HF1.o,HF2.o,HF3.o,HF4.o,fun _ h=>by rw[h]at he;cases he⟩:yE ty fl H n)
             clear he ha
             go_wp2
             go_ret
             exact⟨HB.o.alloc HB.o.size _,.inl ⟨rfl,HE.o⟩⟩))
    ·intro d a v w1 cnt1 hd he ha hrn hlt hg hs hen
     have HB1:=ah (HL.o.2.1.grown hg HL.o.2.1.size (fun k hk=>by cases hk;rw[←HR.o];exact bW):Below w.heap.size w w1)
     have HRN:=ah hrn
     have XD:=ah hlt
     obtain⟨tv,uv,rfl⟩:=ha.iface
     have HA1:=ah (ha.below (gG (.cells #[.string (bs a.dN.sig),.iface tv uv] 70)))
     have HGL:=ah (HM.o.f_ d a hd he)
     have TA:=ah (He _ a bW _ _ ok HA1.o HGL.o)
     have HE:=ah he
     generalize bs a.dN.sig=SG at *
     clear hrn hlt hg hs ha he
     by_cases hd0:d=0
     ·subst hd0
      have HBAD:=ah (fun h=>absurd (h.kinds 0 a (by decide) HE.o).1 (by decide):¬yE ty fl H n)
      go_wp2
      go_ret
      exact pW (HB1.o.alloc HB1.o.size _) HBAD.o
     have hd1:((d:Int)==0)=false:=by rw[kS];omega
     by_cases hd10:10≤d
     ·have HBAD:=ah (fun h=>absurd (h.kinds d a hd HE.o).2.1 (by omega):¬yE ty fl H n)
      have hd2:decide ((10:Int)≤(d:Int))=true:=by simp;omega
      go_wp2
      go_ret
      exact pW (HB1.o.alloc HB1.o.size _) HBAD.o
     have hd2:decide ((10:Int)≤(d:Int))=false:=by simp;omega
     have FT:=ah (fun W=>aic d (by omega) (by omega) W)
     have HD:=ah (⟨by omega,by omega⟩:1≤d∧d≤9)
     clear hd0 hd10
     by_cases hT:a.dN.ty=[uz d]
     ·have hq:((bs a.dN.ty).toList != (bs [uz d]).toList)=false:=by rw[bH,bH,hT];simp
      have hq2:((bs a.dN.ty).toList==(bs [uz d]).toList)=true:=by rw[bH,bH,hT];simp
      have HT:=ah hT
      clear hT
      generalize bs a.dN.ty=TY at *
      generalize bs [uz d]=TL at *
      go_wp2_with (first
       |(go_at_call 67;refine TA.o.mono ?_;rintro e w2 ⟨rfl,hb2⟩;have HB2:=ah (((jM w1).alloc bW (.cells #[.string SG,.iface tv uv] 70)).trans (hb2.mono (by simp)));clear hb2)
       |(go_at_call 168;refine gU (FT.o _) ?_))
      refine⟨⟨_,cnt1,⟨HRN.o.below HB2.o,HB1.o.trans (HB2.o.mono HB1.o.size),fun c b hc hb=>?_⟩⟩,?_⟩
      ·by_cases e:c=d
       ·subst e
        rw[HE.o]at hb
        cases hb
        exact .inr ⟨HD.o.1,HD.o.2,HT.o⟩
       ·rcases HL.o.2.2 c b hc hb with h|h
        ·exact .inl (by rw[h];simp[e])
        ·exact .inr h
      ·rw[(HRN.o.below HB2.o).left,HL.o.1.left]
       exact XD.o
     ·have HBAD:=ah (fun h=>hT (h.kinds d a hd HE.o).2.2:¬yE ty fl H n)
      have hq:((bs a.dN.ty).toList != (bs [uz d]).toList)=true:=by rw[bH,bH];simpa using hT
      have hq2:((bs a.dN.ty).toList==(bs [uz d]).toList)=false:=by rw[bH,bH];simpa using hT
      clear hT
      generalize bs a.dN.ty=TY at *
      generalize bs [uz d]=TL at *
      go_wp2_with (first
       |(go_at_call 67;refine TA.o.mono ?_;rintro e w2 ⟨rfl,hb2⟩;have HB2:=ah (((jM w1).alloc bW (.cells #[.string SG,.iface tv uv] 70)).trans (hb2.mono (by simp)));clear hb2)
       |(go_at_call 168;refine gU (FT.o _) ?_))
      go_ret
      exact pW (HB1.o.trans (HB2.o.mono HB1.o.size)) HBAD.o
  ·have HF:=ah (fun h=>ht h.type:¬yE ty fl H n)
   rcases (by omega:ty=0∨5≤ty)with h0|h5
   ·subst h0
    clear ht
    go_enter func138,ntmps138
    go_wp2
    go_ret
    exact pW jc HF.o
   ·have ht1:((ty:Int)==0)=false:=by rw[kS];omega
    have ht2:decide ((5:Int)≤(ty:Int))=true:=by simp;omega
    clear ht
    go_enter func138,ntmps138
    go_wp2
    go_ret
    exact pW jc HF.o
 ·rw[decide_eq_false Yq]at hf
  have HF:=ah (fun h=>Yq h.flags:¬yE ty fl H n)
  clear Yq
  go_enter func138,ntmps138
  go_wp2
  go_ret
  exact pW jc HF.o
end Go.Proofs.YtllcccekodcdmaaGreatDoor.Ms
