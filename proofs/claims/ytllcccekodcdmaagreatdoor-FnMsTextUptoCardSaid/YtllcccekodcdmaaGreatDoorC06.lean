import Derived.Laws.Externs
import Derived.Test.YtllcccekodcdmaaGreatDoorC05
set_option linter.unusedVariables false
set_option linter.unusedSimpArgs false
set_option maxRecDepth 100000
set_option maxHeartbeats 32000000
open Go.Proofs.Tryz
namespace Go.Proofs.YtllcccekodcdmaaGreatDoor.Ms
open Go Go.RowKit Go.Proofs.ak.aT
theorem Xq (c:UInt8) (hc:dM c) (rest:List UInt8) (x y z:Int) (b:Nat) (w:World) (hb:w.heap[b]?=some (.cells #[.int .i64 x,.int .i64 y,.int .i64 z] 126 (0,0))) (hx:x≤32) (hy:y≤32) (hz:z≤32) (hl:rest.length≤1000000) :
  fC 105 #[.string (bs (c::rest)),.pointer (some ⟨b,0,none⟩)] w (.tuple #[.nilIface,.string (bs rest)]):=by
 have h1:(bs (c::rest)).toList.isEmpty=false:=by rw[jl];rfl
 have h1b:((bs (c::rest)).toList==[])=false:=by rw[bH];rfl
 have h0:0<(bs (c::rest)).size:=by rw[aH];simp
 have h01:1≤(bs (c::rest)).size:=h0
 have h2:((((bs (c::rest))[(0:Nat)]'h0).toNat:Nat):Int)=((c.toNat:Nat):Int):=by rw[byte_at _ 0 c h0 rfl]
 have hx1:=ah (kQ (c::rest) 1)
 have pI:=aj.mk hb
 rcases hc with rfl|rfl|rfl|rfl|rfl|rfl|rfl|rfl|rfl|rfl|rfl|rfl|rfl|rfl
 ·have h3:(((121:UInt8).toNat:Nat):Int)=121:=rfl
  go_enter func105,ntmps105
  go_wp2_with (go_at_call 96;refine gU (dw b x y z _ pI.o hx hy hz) ?_)
  go_region
  go_wp2
  exact iW (v:=.tuple #[.nilIface,.string ((bs (121::rest)).extract 1 (bs (121::rest)).size)]) (by simp[results,results105,go_sem]) rfl ⟨by rw[hx1.o];rfl,jc.drew⟩
 ·have h3:(((98:UInt8).toNat:Nat):Int)=98:=rfl
  go_enter func105,ntmps105
  go_wp2_with (go_at_call 96;refine gU (dw b x y z _ pI.o hx hy hz) ?_)
  go_region
  go_wp2
  exact iW (v:=.tuple #[.nilIface,.string ((bs (98::rest)).extract 1 (bs (98::rest)).size)]) (by simp[results,results105,go_sem]) rfl ⟨by rw[hx1.o];rfl,jc.drew⟩
 ·have h3:(((110:UInt8).toNat:Nat):Int)=110:=rfl
  go_enter func105,ntmps105
  go_wp2_with (go_at_call 96;refine gU (dw b x y z _ pI.o hx hy hz) ?_)
  go_region
  go_wp2
  exact iW (v:=.tuple #[.nilIface,.string ((bs (110::rest)).extract 1 (bs (110::rest)).size)]) (by simp[results,results105,go_sem]) rfl ⟨by rw[hx1.o];rfl,jc.drew⟩
 ·have h3:(((113:UInt8).toNat:Nat):Int)=113:=rfl
  go_enter func105,ntmps105
  go_wp2_with (go_at_call 96;refine gU (dw b x y z _ pI.o hx hy hz) ?_)
  go_region
  go_wp2
  exact iW (v:=.tuple #[.nilIface,.string ((bs (113::rest)).extract 1 (bs (113::rest)).size)]) (by simp[results,results105,go_sem]) rfl ⟨by rw[hx1.o];rfl,jc.drew⟩
 ·have h3:(((105:UInt8).toNat:Nat):Int)=105:=rfl
  go_enter func105,ntmps105
  go_wp2_with (go_at_call 96;refine gU (dw b x y z _ pI.o hx hy hz) ?_)
  go_region
  go_wp2
  exact iW (v:=.tuple #[.nilIface,.string ((bs (105::rest)).extract 1 (bs (105::rest)).size)]) (by simp[results,results105,go_sem]) rfl ⟨by rw[hx1.o];rfl,jc.drew⟩
 ·have h3:(((117:UInt8).toNat:Nat):Int)=117:=rfl
  go_enter func105,ntmps105
  go_wp2_with (go_at_call 96;refine gU (dw b x y z _ pI.o hx hy hz) ?_)
  go_region
  go_wp2
  exact iW (v:=.tuple #[.nilIface,.string ((bs (117::rest)).extract 1 (bs (117::rest)).size)]) (by simp[results,results105,go_sem]) rfl ⟨by rw[hx1.o];rfl,jc.drew⟩
 ·have h3:(((120:UInt8).toNat:Nat):Int)=120:=rfl
  go_enter func105,ntmps105
  go_wp2_with (go_at_call 96;refine gU (dw b x y z _ pI.o hx hy hz) ?_)
  go_region
  go_wp2
  exact iW (v:=.tuple #[.nilIface,.string ((bs (120::rest)).extract 1 (bs (120::rest)).size)]) (by simp[results,results105,go_sem]) rfl ⟨by rw[hx1.o];rfl,jc.drew⟩
 ·have h3:(((116:UInt8).toNat:Nat):Int)=116:=rfl
  go_enter func105,ntmps105
  go_wp2_with (go_at_call 96;refine gU (dw b x y z _ pI.o hx hy hz) ?_)
  go_region
  go_wp2
  exact iW (v:=.tuple #[.nilIface,.string ((bs (116::rest)).extract 1 (bs (116::rest)).size)]) (by simp[results,results105,go_sem]) rfl ⟨by rw[hx1.o];rfl,jc.drew⟩
 ·have h3:(((100:UInt8).toNat:Nat):Int)=100:=rfl
  go_enter func105,ntmps105
  go_wp2_with (go_at_call 96;refine gU (dw b x y z _ pI.o hx hy hz) ?_)
  go_region
  go_wp2
  exact iW (v:=.tuple #[.nilIface,.string ((bs (100::rest)).extract 1 (bs (100::rest)).size)]) (by simp[results,results105,go_sem]) rfl ⟨by rw[hx1.o];rfl,jc.drew⟩
 ·have h3:(((115:UInt8).toNat:Nat):Int)=115:=rfl
  go_enter func105,ntmps105
  go_wp2_with (go_at_call 96;refine gU (dw b x y z _ pI.o hx hy hz) ?_)
  go_region
  go_wp2
  exact iW (v:=.tuple #[.nilIface,.string ((bs (115::rest)).extract 1 (bs (115::rest)).size)]) (by simp[results,results105,go_sem]) rfl ⟨by rw[hx1.o];rfl,jc.drew⟩
 ·have h3:(((103:UInt8).toNat:Nat):Int)=103:=rfl
  go_enter func105,ntmps105
  go_wp2_with (go_at_call 96;refine gU (dw b x y z _ pI.o hx hy hz) ?_)
  go_region
  go_wp2
  exact iW (v:=.tuple #[.nilIface,.string ((bs (103::rest)).extract 1 (bs (103::rest)).size)]) (by simp[results,results105,go_sem]) rfl ⟨by rw[hx1.o];rfl,jc.drew⟩
 ·have h3:(((111:UInt8).toNat:Nat):Int)=111:=rfl
  go_enter func105,ntmps105
  go_wp2_with (go_at_call 96;refine gU (dw b x y z _ pI.o hx hy hz) ?_)
  go_region
  go_wp2
  exact iW (v:=.tuple #[.nilIface,.string ((bs (111::rest)).extract 1 (bs (111::rest)).size)]) (by simp[results,results105,go_sem]) rfl ⟨by rw[hx1.o];rfl,jc.drew⟩
 ·have h3:(((118:UInt8).toNat:Nat):Int)=118:=rfl
  go_enter func105,ntmps105
  go_wp2_with (go_at_call 96;refine gU (dw b x y z _ pI.o hx hy hz) ?_)
  go_region
  go_wp2
  exact iW (v:=.tuple #[.nilIface,.string ((bs (118::rest)).extract 1 (bs (118::rest)).size)]) (by simp[results,results105,go_sem]) rfl ⟨by rw[hx1.o];rfl,jc.drew⟩
 ·have h3:(((104:UInt8).toNat:Nat):Int)=104:=rfl
  go_enter func105,ntmps105
  go_wp2_with (go_at_call 96;refine gU (dw b x y z _ pI.o hx hy hz) ?_)
  go_region
  go_wp2
  exact iW (v:=.tuple #[.nilIface,.string ((bs (104::rest)).extract 1 (bs (104::rest)).size)]) (by simp[results,results105,go_sem]) rfl ⟨by rw[hx1.o];rfl,jc.drew⟩
theorem T.G5:∀t:T,t.wf→∃c r,t.sig=c::r∧c≠123∧c≠125
 | .base c,h=>⟨c,[],rfl,by rintro rfl;simp[T.wf,dM]at h,by rintro rfl;simp[T.wf,dM]at h⟩
 | .arr t,_=>⟨97,t.sig,rfl,by decide,by decide⟩
 | .dict k t,_=>⟨97,123::k::(t.sig++[125]),rfl,by decide,by decide⟩
 | .str ts,_=>⟨40,T.sigs ts++[41],rfl,by decide,by decide⟩
theorem akf (t:T) (hw:t.wf) (rest:List UInt8) (x y z:Int) (b:Nat) (w:World) (hb:w.heap[b]?=some (.cells #[.int .i64 x,.int .i64 y,.int .i64 z] 126 (0,0))) (hx:x≤32) (hy:y≤32) (hz:z≤32) (hx0:0≤x)
  (hl:(97::(t.sig++rest)).length≤1000000)
  (ih:∀(b':Nat) (w':World),w'.heap[b']?=some (.cells #[.int .i64 (x+1),.int .i64 y,.int .i64 z] 126 (0,0)) →
    Calls prog 105 #[.string (bs (t.sig++rest)),.pointer (some ⟨b',0,none⟩)] w' fun e w''=>e=.returned (.tuple #[.nilIface,.string (bs rest)])∧Below w'.heap.size w' w'') :
  fC 105 #[.string (bs (97::(t.sig++rest))),.pointer (some ⟨b,0,none⟩)] w (.tuple #[.nilIface,.string (bs rest)]):=by
 obtain⟨d,r,hd,hd1,hd2⟩:=T.G5 t hw
 have hc1:(97::(t.sig++rest))[1]?=some d:=by rw[hd];rfl
 have hx1:=kQ (97::(t.sig++rest)) 1
 rw[List.drop_one,List.tail_cons]at hx1
 have h1:(bs (97::(t.sig++rest))).toList.isEmpty=false:=by rw[jl];rfl
 have h1b:((bs (97::(t.sig++rest))).toList==[])=false:=by rw[bH];rfl
 have h0:0<(bs (97::(t.sig++rest))).size:=by rw[aH];simp
 have h01:1<(bs (97::(t.sig++rest))).size:=by rw[aH,hd];simp
 have hgt:decide ((1:Int)<(((bs (97::(t.sig++rest))).size:Nat):Int))=true:=by simp;omega
 have h2:((((bs (97::(t.sig++rest)))[(0:Nat)]'h0).toNat:Nat):Int)=97:=by rw[byte_at _ 0 97 h0 rfl];rfl
 have h3:(((((bs (97::(t.sig++rest)))[(1:Nat)]'h01).toNat:Nat):Int)==123)=false:=by rw[byte_at _ 1 d h01 hc1];exact tJ hd1
 generalize 97::(t.sig++rest)=L at *
 have pI:=aj.mk hb
 have HX:=aj.mk hx1
 have IH:=ah ih
 have hlt:=lt_of_block hb
 have c0:=au hb 0 (v:=.int .i64 x) rfl
 have c1:=au hb 1 (v:=.int .i64 y) rfl
 have c2:=au hb 2 (v:=.int .i64 z) rfl
 clear hb hc1 hd ih
 have h02:1≤(bs L).size:=by omega
 have h03:(1:Int)≤(((bs L).size:Nat):Int):=by omega
 go_enter func105,ntmps105
 go_wp2_with (go_at_call 96;refine gU (dw b x y z _ pI.o hx hy hz) ?_)
 have hne1:¬b=w.heap.size:=by omega
 have hne2:¬w.heap.size=b:=by omega
 refine H_ ((fun w'=>w'.cell? ⟨b,0,none⟩=some (.int .i64 x)∧w'.cell? ⟨b,1,none⟩=some (.int .i64 y)∧w'.cell? ⟨b,2,none⟩=some (.int .i64 z))) fun hHeld=>?_
 refine dL 0 ?_
 refine dL 1 ?_
 refine dL 2 ?_
 refine dL 3 ?_
 refine dL 4 ?_
 refine rn 5 fun K hK=>?_
 go_simp
 refine gU (nN x y z _ hx0 (by omega)) ?_
 (try go_wp2_with fail)
 refine ji hK ?_;clear hK K hHeld;intro hHeld
 refine rn 6 fun K hK=>?_
 go_simp
 refine(IH.o _ _ (oD _ _ _ rfl)).mono ?_;rintro e w1 ⟨rfl,hbw⟩;have kb:=(hbw.block b (by simp;omega)).trans (aQ pI.o _);have k0:=au kb 0 (v:=.int .i64 x) rfl;have k1:=au kb 1 (v:=.int .i64 y) rfl;have k2:=au kb 2 (v:=.int .i64 z) rfl;have qR:=aj.mk (((jM w).alloc bW _).drew.trans (hbw.mono (by simp)));clear hbw kb
 (try go_wp2_with fail)
 refine ji hK ?_;clear hK K hHeld;intro hHeld
 refine dL 7 ?_
 refine dL 8 ?_
 refine rn 9 fun K hK=>?_
 go_simp
 refine ji hK ?_;clear hK K hHeld;intro hHeld
 refine rn 10 fun K hK=>?_
 go_simp
 refine ji hK ?_;clear hK K hHeld;intro hHeld
 refine lX ?_
 go_wp2
 exact iW (v:=.tuple #[.nilIface,.string (bs rest)]) (by simp[results,results105,go_sem]) rfl ⟨rfl,qR.o⟩
theorem aah {w W w2:World} {k b:Nat} {B o1 o2:Obj} (KB:W.heap[b]?=some B) (HB:Below k w W) (hk:k≤W.heap.size) (hbw:Below ((W.alloc o1).alloc o2).drew.heap.size ((W.alloc o1).alloc o2).drew w2) :
  w2.heap[b]?=some B∧Below k w w2∧k≤w2.heap.size:=by
 have hl:=lt_of_block KB
 have hs:=hbw.size
 simp at hs
 exact⟨(hbw.block b (by simp;omega)).trans (aQ (aQ KB _) _),((HB.alloc hk _).alloc (by simp;omega) _).drew.trans (hbw.mono (by simp;omega)),by omega⟩
theorem agD (k:UInt8) (hk:kJ k) (t:T) (hw:t.wf) (rest:List UInt8) (x y z:Int) (b:Nat) (w:World) (hb:w.heap[b]?=some (.cells #[.int .i64 x,.int .i64 y,.int .i64 z] 126 (0,0))) (hx:x+1≤32) (hy:y≤32) (hz:z+1≤32) (hx0:0≤x) (hz0:0≤z)
  (hl:(97::123::k::(t.sig++125::rest)).length≤1000000)
  (ih:∀(b':Nat) (w':World),w'.heap[b']?=some (.cells #[.int .i64 (x+1),.int .i64 y,.int .i64 (z+1)] 126 (0,0)) →
    Calls prog 105 #[.string (bs t.sig),.pointer (some ⟨b',0,none⟩)] w' fun e w''=>e=.returned (.tuple #[.nilIface,.string ⟨#[]⟩])∧Below w'.heap.size w' w'') :
  fC 105 #[.string (bs (97::123::k::(t.sig++125::rest))),.pointer (some ⟨b,0,none⟩)] w (.tuple #[.nilIface,.string (bs rest)]):=by
 have Sl:yJ 123 125 (k::t.sig):=(T.xw t hw).cons (by rintro rfl;simp[kJ]at hk) (by rintro rfl;simp[kJ]at hk)
 have hasc:uf (123::((k::t.sig)++[125])):=Ms.uf.cons (by decide) (Ms.uf.append (Ms.uf.cons (dM.uf hk.base) (T.uf t hw)) (Ms.uf.cons (by decide) Ms.uf.nil))
 have HM:=ah (fun (w:World)=>show fC 128 #[.string (bs (123::((k::t.sig)++125::rest))),.int .i32 123,.int .i32 125] w (.int .i64 ((t.sig.length+2:Nat):Int))from
  PI 123 125 (123::((k::t.sig)++125::rest)) (t.sig.length+2) (by simp) (fun i h hi=>by
   have e:123::((k::t.sig)++125::rest)=(123::((k::t.sig)++[125]))++rest:=by simp
   have hi2:i<(123::((k::t.sig)++[125])).length:=by simp;omega
   have:(123::((k::t.sig)++125::rest))[i]=(123::((k::t.sig)++[125]))[i]:=by
    simp only[e];exact List.getElem_append_left hi2
   rw[this];exact hasc _ (nZ hi2)) (fun j hj=>(level (by decide) Sl).1 j (by simp at hj ⊢;omega)) ((level (by decide) Sl).2) (by simp at hl ⊢;omega) w)
 have E1:=ah (show(bs (97::123::k::(t.sig++125::rest))).extract 1 (bs (97::123::k::(t.sig++125::rest))).size=bs (123::((k::t.sig)++125::rest))from kQ _ 1)
 have E2:=ah (show(bs (97::123::k::(t.sig++125::rest))).extract (t.sig.length+4) (bs (97::123::k::(t.sig++125::rest))).size=bs rest by
  rw[kQ];congr 1;rw[show 97::123::k::(t.sig++125::rest)=(97::123::k::(t.sig++[125]))++rest by simp];exact List.drop_left' (by simp))
 have E3:=ah (show(bs (97::123::k::(t.sig++125::rest))).extract 2 (t.sig.length+3)=bs (k::t.sig) by
  rw[gY];congr 1;simp)
 have h1:(bs (97::123::k::(t.sig++125::rest))).toList.isEmpty=false:=by rw[jl];rfl
 have h1b:((bs (97::123::k::(t.sig++125::rest))).toList==[])=false:=by rw[bH];rfl
 have h0:0<(bs (97::123::k::(t.sig++125::rest))).size:=by rw[aH];simp
 have h01:1<(bs (97::123::k::(t.sig++125::rest))).size:=by rw[aH];simp
 have h2:((((bs (97::123::k::(t.sig++125::rest)))[(0:Nat)]'h0).toNat:Nat):Int)=97:=by rw[byte_at _ 0 97 h0 rfl];rfl
 have h3:(((((bs (97::123::k::(t.sig++125::rest)))[(1:Nat)]'h01).toNat:Nat):Int)==123)=true:=by rw[byte_at _ 1 123 h01 rfl];rfl
 have hsz:(bs (97::123::k::(t.sig++125::rest))).size=t.sig.length+4+rest.length:=by rw[aH];simp;omega
 have hl':t.sig.length+4+rest.length≤1000000:=by rw[←hsz,aH];exact hl
 generalize 97::123::k::(t.sig++125::rest)=L at *
 have pI:=aj.mk hb
 have IH:=ah ih
 have HV:=ah (fun (b':Nat) (w':World) (h:w'.heap[b']?=some (.cells #[.int .i64 (x+1),.int .i64 y,.int .i64 (z+1)] 126 (0,0)))=>Xq k hk.base [] (x+1) y (z+1) b' w' h hx hy hz (by simp))
 have hlt:=lt_of_block hb
 have c0:=au hb 0 (v:=.int .i64 x) rfl
 have c1:=au hb 1 (v:=.int .i64 y) rfl
 have c2:=au hb 2 (v:=.int .i64 z) rfl
 have hgt:decide ((1:Int)<(((bs L).size:Nat):Int))=true:=by simp;omega
 have h02:1≤(bs L).size:=by omega
 have h03:(1:Int)≤(((bs L).size:Nat):Int):=by omega
 generalize hn:t.sig.length=n at *
 have hn1:(((n+2:Nat):Int)==-1)=false:=by rw[kS];omega
 have hs4:n+4≤(bs L).size:=by omega
 have hs3:n+3≤(bs L).size:=by omega
 have hn9:n≤1000000:=by omega
 clear hb ih hl Sl hasc hsz
 have e2:(bs L).extract (n+2+1+1) (bs L).size=bs rest:=E2.o
 have e3:(bs L).extract 2 (n+2+1)=bs (k::t.sig):=E3.o
 have g1:(bs (k::t.sig)).extract 0 1=bs [k]:=by rw[gY];rfl
 have g2:(bs (k::t.sig)).extract 1 (bs (k::t.sig)).size=bs t.sig:=kQ _ 1
 have g3:(((bs (k::t.sig)).size:Int)==0)=false:=by rw[aH,kS];simp;omega
 have g4:1≤(bs (k::t.sig)).size:=by rw[aH];simp
 have g5:(1:Int)≤(((bs (k::t.sig)).size:Nat):Int):=by omega
 go_enter func105,ntmps105
 go_wp2_with (first|(go_at_call 96;refine gU (dw b x y z _ pI.o (by omega) hy (by omega)) ?_)|(go_at_call 128;rw[E1.o];refine(HM.o _).mono ?_;rintro e w1 ⟨rfl,hb1⟩;have kb:=(hb1.block b hlt).trans pI.o;have k0:=au kb 0 (v:=.int .i64 x) rfl;have k1:=au kb 1 (v:=.int .i64 y) rfl;have k2:=au kb 2 (v:=.int .i64 z) rfl;have HB1:=aj.mk hb1;have J7:=aj.mk kb;have hlt1:=lt_of_block kb;clear hb1 kb))
 have hne1:¬b=w1.heap.size:=by omega
 have hne2:¬w1.heap.size=b:=by omega
 have hlt2:b<w1.heap.size+1:=by omega
 refine H_ ((fun w'=>w'.cell? ⟨b,0,none⟩=some (.int .i64 x)∧w'.cell? ⟨b,1,none⟩=some (.int .i64 y)∧w'.cell? ⟨b,2,none⟩=some (.int .i64 z))) fun hHeld=>?_
 refine dL 0 ?_
 refine dL 1 ?_
 refine dL 2 ?_
 refine dL 3 ?_
 refine dL 4 ?_
 refine rn 5 fun K hK=>?_
 go_simp
 refine gU (nN x y z _ hx0 (by omega)) ?_
 (try go_wp2_with fail)
 refine ji hK ?_;clear hK K hHeld;intro hHeld
 refine dL 6 ?_
 refine rn 7 fun K hK=>?_
 go_simp
 refine ji hK ?_;clear hK K hHeld;intro hHeld
 refine rn 8 fun K hK=>?_
 go_simp
 refine gU (rZ (x+1) y z _ hz0 (by omega)) ?_
 (try go_wp2_with fail)
 refine ji hK ?_;clear hK K hHeld;intro hHeld
 refine rn 9 fun K hK=>?_
 go_simp
 (with_reducible refine(HV.o _ _ (oD _ _ _ ?_)).mono ?_);(simp);rintro e w2 ⟨rfl,hbw⟩;have ⟨kb,kB,_⟩:=aah J7.o HB1.o HB1.o.size hbw;have j0:=au kb 0 (v:=.int .i64 x) rfl;have j1:=au kb 1 (v:=.int .i64 y) rfl;have j2:=au kb 2 (v:=.int .i64 z) rfl;have HB2:=aj.mk kB;have Ic:=aj.mk kb;have hlt3:=lt_of_block kb;clear hbw kb kB
 (try go_wp2_with fail)
 refine ji hK ?_;clear hK K hHeld;intro hHeld
 refine dL 10 ?_
 refine dL 11 ?_
 refine dL 12 ?_
 refine rn 13 fun K hK=>?_
 go_simp
 refine ji hK ?_;clear hK K hHeld;intro hHeld
 refine lX ?_
 go_wp2
 have aqO:¬b=w2.heap.size:=by omega
 have aqP:¬w2.heap.size=b:=by omega
 have hlt4:b<w2.heap.size+1:=by omega
 refine H_ ((fun w'=>w'.cell? ⟨b,0,none⟩=some (.int .i64 x)∧w'.cell? ⟨b,1,none⟩=some (.int .i64 y)∧w'.cell? ⟨b,2,none⟩=some (.int .i64 z))) fun hHeld=>?_
 refine dL 0 ?_
 refine dL 1 ?_
 refine dL 2 ?_
 refine dL 3 ?_
 refine dL 4 ?_
 refine rn 5 fun K hK=>?_
 go_simp
 refine gU (nN x y z _ hx0 (by omega)) ?_
 (try go_wp2_with fail)
 refine ji hK ?_;clear hK K hHeld;intro hHeld
 refine dL 6 ?_
 refine rn 7 fun K hK=>?_
 go_simp
 refine ji hK ?_;clear hK K hHeld;intro hHeld
 refine rn 8 fun K hK=>?_
 go_simp
 refine gU (rZ (x+1) y z _ hz0 (by omega)) ?_
 (try go_wp2_with fail)
 refine ji hK ?_;clear hK K hHeld;intro hHeld
 refine rn 9 fun K hK=>?_
 go_simp
 (with_reducible refine(IH.o _ _ (oD _ _ _ ?_)).mono ?_);(simp);rintro e w3 ⟨rfl,hbw⟩;have ⟨kb,kB,_⟩:=aah Ic.o HB2.o HB2.o.size hbw;have i0:=au kb 0 (v:=.int .i64 x) rfl;have i1:=au kb 1 (v:=.int .i64 y) rfl;have i2:=au kb 2 (v:=.int .i64 z) rfl;have HB3:=aj.mk kB;clear hbw kb kB
 (try go_wp2_with fail)
 refine ji hK ?_;clear hK K hHeld;intro hHeld
 refine dL 10 ?_
 refine dL 11 ?_
 refine dL 12 ?_
 refine rn 13 fun K hK=>?_
 go_simp
 refine ji hK ?_;clear hK K hHeld;intro hHeld
 refine rn 14 fun K hK=>?_
 go_simp
 refine ji hK ?_;clear hK K hHeld;intro hHeld
 refine lX ?_
 go_wp2
 exact iW (v:=.tuple #[.nilIface,.string (bs rest)]) (by simp[results,results105,go_sem]) rfl ⟨rfl,HB3.o⟩
theorem T.Xg (l:List T) (k:Nat) (h:k<l.length):T.sigs (l.drop k)=l[k].sig++T.sigs (l.drop (k+1)):=by
 rw[List.drop_eq_getElem_cons h];rfl
theorem ahH {w W w2:World} {k b:Nat} {B o1:Obj} (KB:W.heap[b]?=some B) (HB:Below k w W) (hk:k≤W.heap.size) (hbw:Below (W.alloc o1).heap.size (W.alloc o1) w2) :
  w2.heap[b]?=some B∧Below k w w2∧k≤w2.heap.size:=by
 have hl:=lt_of_block KB
 have hs:=hbw.size
 simp at hs
 exact⟨(hbw.block b (by simp;omega)).trans (aQ KB _),(HB.alloc hk _).trans (hbw.mono (by simp;omega)),by omega⟩
theorem akg (ts:List T) (hw:T.NV ts) (rest:List UInt8) (x y z:Int) (b:Nat) (w:World) (hb:w.heap[b]?=some (.cells #[.int .i64 x,.int .i64 y,.int .i64 z] 126 (0,0))) (hx:x≤32) (hy:y≤32) (hz:z≤32) (hy0:0≤y)
  (hl:(40::(T.sigs ts++41::rest)).length≤1000000)
  (ih:∀(i:Nat) (h:i<ts.length) (rest':List UInt8) (hr:((ts[i]).sig++rest').length≤1000000) (b':Nat) (w':World),w'.heap[b']?=some (.cells #[.int .i64 x,.int .i64 (y+1),.int .i64 z] 126 (0,0)) →
    Calls prog 105 #[.string (bs ((ts[i]).sig++rest')),.pointer (some ⟨b',0,none⟩)] w' fun e w''=>e=.returned (.tuple #[.nilIface,.string (bs rest')])∧Below w'.heap.size w' w'') :
  fC 105 #[.string (bs (40::(T.sigs ts++41::rest))),.pointer (some ⟨b,0,none⟩)] w (.tuple #[.nilIface,.string (bs rest)]):=by
 have Sl:yJ 40 41 (T.sigs ts):=T.yT ts hw
 have hasc:uf (40::(T.sigs ts++[41])):=Ms.uf.cons (by decide) (Ms.uf.append (T.ahJ ts hw) (Ms.uf.cons (by decide) Ms.uf.nil))
 have HM:=ah (fun (w:World)=>show fC 128 #[.string (bs (40::(T.sigs ts++41::rest))),.int .i32 40,.int .i32 41] w (.int .i64 (((T.sigs ts).length+1:Nat):Int))from
  PI 40 41 (40::(T.sigs ts++41::rest)) ((T.sigs ts).length+1) (by simp) (fun i h hi=>by
   have e:40::(T.sigs ts++41::rest)=(40::(T.sigs ts++[41]))++rest:=by simp
   have hi2:i<(40::(T.sigs ts++[41])).length:=by simp;omega
   have:(40::(T.sigs ts++41::rest))[i]=(40::(T.sigs ts++[41]))[i]:=by
    simp only[e];exact List.getElem_append_left hi2
   rw[this];exact hasc _ (nZ hi2)) (fun j hj=>(level (by decide) Sl).1 j (by omega)) ((level (by decide) Sl).2) hl w)
 have E2:=ah (show(bs (40::(T.sigs ts++41::rest))).extract ((T.sigs ts).length+1+1) (bs (40::(T.sigs ts++41::rest))).size=bs rest by
  rw[kQ];congr 1;rw[show 40::(T.sigs ts++41::rest)=(40::(T.sigs ts++[41]))++rest by simp];exact List.drop_left' (by simp))
 have E3:=ah (show(bs (40::(T.sigs ts++41::rest))).extract 1 ((T.sigs ts).length+1)=bs (T.sigs ts) by
  rw[gY];congr 1;simp)
 have h1:(bs (40::(T.sigs ts++41::rest))).toList.isEmpty=false:=by rw[jl];rfl
 have h1b:((bs (40::(T.sigs ts++41::rest))).toList==[])=false:=by rw[bH];rfl
 have h0:0<(bs (40::(T.sigs ts++41::rest))).size:=by rw[aH];simp
 have h2:((((bs (40::(T.sigs ts++41::rest)))[(0:Nat)]'h0).toNat:Nat):Int)=40:=by rw[byte_at _ 0 40 h0 rfl];rfl
 have hsz:(bs (40::(T.sigs ts++41::rest))).size=(T.sigs ts).length+2+rest.length:=by rw[aH];simp;omega
 have hl':(T.sigs ts).length+2+rest.length≤1000000:=by rw[←hsz,aH];exact hl
 generalize 40::(T.sigs ts++41::rest)=L at *
 have pI:=aj.mk hb
 have IH:=ah ih
 have hlt:=lt_of_block hb
 obtain⟨n,hn⟩:∃n,(T.sigs ts).length=n:=⟨_,rfl⟩
 rw[hn]at HM E2 E3 hsz hl'
 have hn1:(((n+1:Nat):Int)==-1)=false:=by rw[kS];omega
 have hs4:n+2≤(bs L).size:=by omega
 have hs3:n+1≤(bs L).size:=by omega
 have hn9:n≤1000000:=by omega
 have Ep:=aj.mk hn
 clear hb ih hl Sl hasc hsz hn
 have e2:(bs L).extract (n+1+1) (bs L).size=bs rest:=E2.o
 have e3:(bs L).extract 1 (n+1)=bs (T.sigs ts):=E3.o
 go_enter func105,ntmps105
 go_wp2_with (first|(go_at_call 96;refine gU (dw b x y z _ pI.o (by omega) hy (by omega)) ?_)|(go_at_call 128;refine(HM.o _).mono ?_;rintro e w1 ⟨rfl,hb1⟩;have kb:=(hb1.block b hlt).trans pI.o;have HB1:=aj.mk hb1;have J7:=aj.mk kb;clear hb1 kb))
 rw[e2]
 go_loopg [0,4] (ts.length+1) (fun kq v0 v4 wr=>∃k:Nat,aj (k+kq=ts.length+1)∧aj (0<kq)∧v4=.nilIface∧v0=.string (bs (T.sigs (ts.drop k)))∧aj (wr.heap[b]?=some (.cells #[.int .i64 x,.int .i64 y,.int .i64 z] 126 (0,0)))∧aj (Below w.heap.size w wr))
 case atStart=>exact⟨0,⟨by omega⟩,⟨by omega⟩,rfl,rfl,J7,HB1⟩
 case round =>
  clear HB1 J7
  obtain⟨k,pX,uT,rfl,rfl,KB,HB⟩:=hrel
  have c0:=au KB.o 0 (v:=.int .i64 x) rfl
  have c1:=au KB.o 1 (v:=.int .i64 y) rfl
  have c2:=au KB.o 2 (v:=.int .i64 z) rfl
  by_cases hlt:k<ts.length
  ·have hat:=T.Xg ts k hlt
   have hne:((bs (T.sigs (ts.drop k))).toList==[])=false:=by
    rw[bH,hat]
    have:=T.Na ts[k]
    cases h:(ts[k]).sig with
    |nil=>rw[h]at this;simp at this
    |cons c r=>rfl
   have hle:((ts[k]).sig++T.sigs (ts.drop (k+1))).length≤1000000:=by
    rw[←hat]
    have h9:(T.sigs (ts.drop k)).length≤(T.sigs ts).length:=by
     conv=>rhs;rw[←List.take_append_drop k ts,T.nP]
     simp
    have:=Ep.o;omega
   have HIH:=ah (fun b' w' h=>hat▸IH.o k hlt (T.sigs (ts.drop (k+1))) hle b' w' h)
   have XD:=aj.mk hlt
   clear hat
   go_wp2_with (first|(go_at_call 101;refine gU (zU x y z _ hy0 (by omega)) ?_)|(go_at_call 105;refine(HIH.o _ _ (aV _ _ _ rfl)).mono ?_;rintro e w2 ⟨rfl,hb1⟩;have ⟨kb,kB,_⟩:=ahH KB.o HB.o HB.o.size hb1;have Ic:=aj.mk kb;have HB2:=aj.mk kB;clear hb1 kb kB))
   go_roundg (gk-1)
   case measure=>have:=uT.o;omega
   case rel=>exact⟨k+1,⟨by have:=pX.o;have:=uT.o;omega⟩,⟨by have:=pX.o;have:=XD.o;omega⟩,rfl,rfl,Ic,HB2⟩
  ·have hke:ts.drop k=[]:=List.drop_of_length_le (by omega)
   have hne:((bs (T.sigs (ts.drop k))).toList==[])=true:=by rw[hke,bH];rfl
   clear hke hlt
   go_wp2
   exact iW (v:=.tuple #[.nilIface,.string (bs rest)]) (by simp[results,results105,go_sem]) rfl ⟨rfl,HB.o⟩
theorem ake (n:Nat):∀(t:T),t.rk≤n→t.wf→∀(x y z:Int),t.fits x y z→0≤x→0≤y→0≤z→∀(rest:List UInt8),(t.sig++rest).length≤1000000 →
  ∀(b:Nat) (w:World),w.heap[b]?=some (.cells #[.int .i64 x,.int .i64 y,.int .i64 z] 126 (0,0)) →
  fC 105 #[.string (bs (t.sig++rest)),.pointer (some ⟨b,0,none⟩)] w (.tuple #[.nilIface,.string (bs rest)]):=by
 induction n with
 |zero=>intro t hn;have:=T.wU t;omega
 |succ n ih =>
 intro t hn hw x y z hf hx hy hz rest hs b w hb
 obtain⟨fx,fy,fz⟩:=T.Gg t x y z hf
 match t,hn,hw,hf,hs with
 | .base c,hn,hw,hf,hs=>exact Xq c hw rest x y z b w hb fx fy fz (by simp[T.sig]at hs;omega)
 | .arr t,hn,hw,hf,hs =>
   simp only[T.rk]at hn
   simp only[T.sig,lF]at hs ⊢
   exact akf t hw rest x y z b w hb fx fy fz hx hs (fun b' w' h=>ih t (by omega) hw (x+1) y z hf.2 (by omega) hy hz rest (by simp at hs ⊢;omega) b' w' h)
 | .dict k t,hn,hw,hf,hs =>
   simp only[T.rk]at hn
   have e:(T.dict k t).sig++rest=97::123::k::(t.sig++125::rest):=by simp[T.sig]
   rw[e]at hs ⊢
   refine agD k hw.1 t hw.2 rest x y z b w hb hf.2.1.1 fy hf.2.1.2 hx hz hs (fun b' w' h=>?_)
   have:=ih t (by omega) hw.2 (x+1) y (z+1) hf.2.2 (by omega) hy (by omega) [] (by simp at hs ⊢;omega) b' w' h
   rwa [List.append_nil]at this
 | .str ts,hn,hw,hf,hs =>
   simp only[T.rk]at hn
   have e:(T.str ts).sig++rest=40::(T.sigs ts++41::rest):=by simp[T.sig]
   rw[e]at hs ⊢
   refine akg ts hw.2 rest x y z b w hb fx fy fz hy hs (fun i h rest' hr b' w' hb'=>?_)
   have h1:=T.nH ts i h
   exact ih _ (by omega) (T.vT ts hw.2 i h) x (y+1) z (T.zX ts x (y+1) z hf.2 i h) hx (by omega) hz rest' hr b' w' hb'
theorem YX (c:UInt8) (hc:dM c) (w:World) :
  uQ 74 #[.int .u8 (c.toNat:Nat)] w (.tuple #[.string (bs [c]),.bool true]):=by
 rcases hc with rfl|rfl|rfl|rfl|rfl|rfl|rfl|rfl|rfl|rfl|rfl|rfl|rfl|rfl
 ·show Calls prog 74 #[.int .u8 121] w _
  go_enter func74,ntmps74
  go_wp2
  exact iW (v:=.tuple #[.string (bs [121]),.bool true]) (by simp[results,results74,go_sem,bs]) rfl ⟨rfl,rfl⟩
 ·show Calls prog 74 #[.int .u8 98] w _
  go_enter func74,ntmps74
  go_wp2
  exact iW (v:=.tuple #[.string (bs [98]),.bool true]) (by simp[results,results74,go_sem,bs]) rfl ⟨rfl,rfl⟩
 ·show Calls prog 74 #[.int .u8 110] w _
  go_enter func74,ntmps74
  go_wp2
  exact iW (v:=.tuple #[.string (bs [110]),.bool true]) (by simp[results,results74,go_sem,bs]) rfl ⟨rfl,rfl⟩
 ·show Calls prog 74 #[.int .u8 113] w _
  go_enter func74,ntmps74
  go_wp2
  exact iW (v:=.tuple #[.string (bs [113]),.bool true]) (by simp[results,results74,go_sem,bs]) rfl ⟨rfl,rfl⟩
 ·show Calls prog 74 #[.int .u8 105] w _
  go_enter func74,ntmps74
  go_wp2
  exact iW (v:=.tuple #[.string (bs [105]),.bool true]) (by simp[results,results74,go_sem,bs]) rfl ⟨rfl,rfl⟩
 ·show Calls prog 74 #[.int .u8 117] w _
  go_enter func74,ntmps74
  go_wp2
  exact iW (v:=.tuple #[.string (bs [117]),.bool true]) (by simp[results,results74,go_sem,bs]) rfl ⟨rfl,rfl⟩
 ·show Calls prog 74 #[.int .u8 120] w _
  go_enter func74,ntmps74
  go_wp2
  exact iW (v:=.tuple #[.string (bs [120]),.bool true]) (by simp[results,results74,go_sem,bs]) rfl ⟨rfl,rfl⟩
 ·show Calls prog 74 #[.int .u8 116] w _
  go_enter func74,ntmps74
  go_wp2
  exact iW (v:=.tuple #[.string (bs [116]),.bool true]) (by simp[results,results74,go_sem,bs]) rfl ⟨rfl,rfl⟩
 ·show Calls prog 74 #[.int .u8 100] w _
  go_enter func74,ntmps74
  go_wp2
  exact iW (v:=.tuple #[.string (bs [100]),.bool true]) (by simp[results,results74,go_sem,bs]) rfl ⟨rfl,rfl⟩
 ·show Calls prog 74 #[.int .u8 115] w _
  go_enter func74,ntmps74
  go_wp2
  exact iW (v:=.tuple #[.string (bs [115]),.bool true]) (by simp[results,results74,go_sem,bs]) rfl ⟨rfl,rfl⟩
 ·show Calls prog 74 #[.int .u8 103] w _
  go_enter func74,ntmps74
  go_wp2
  exact iW (v:=.tuple #[.string (bs [103]),.bool true]) (by simp[results,results74,go_sem,bs]) rfl ⟨rfl,rfl⟩
 ·show Calls prog 74 #[.int .u8 111] w _
  go_enter func74,ntmps74
  go_wp2
  exact iW (v:=.tuple #[.string (bs [111]),.bool true]) (by simp[results,results74,go_sem,bs]) rfl ⟨rfl,rfl⟩
 ·show Calls prog 74 #[.int .u8 118] w _
  go_enter func74,ntmps74
  go_wp2
  exact iW (v:=.tuple #[.string (bs [118]),.bool true]) (by simp[results,results74,go_sem,bs]) rfl ⟨rfl,rfl⟩
 ·show Calls prog 74 #[.int .u8 104] w _
  go_enter func74,ntmps74
  go_wp2
  exact iW (v:=.tuple #[.string (bs [104]),.bool true]) (by simp[results,results74,go_sem,bs]) rfl ⟨rfl,rfl⟩
theorem T.xI:∀(t:T) (a s d a' s' d':Int),t.fits a s d→a'≤a→s'≤s→d'≤d→t.fits a' s' d'
 | .base c,a,s,d,a',s',d',h,ha,hs,hd=>by obtain⟨h1,h2,h3⟩:=h;exact⟨by omega,by omega,by omega⟩
 | .arr t,a,s,d,a',s',d',h,ha,hs,hd=>by
   obtain⟨⟨h1,h2,h3⟩,h4⟩:=h
   exact⟨⟨by omega,by omega,by omega⟩,T.xI t _ _ _ _ _ _ h4 (by omega) hs hd⟩
 | .dict k t,a,s,d,a',s',d',h,ha,hs,hd=>by
   obtain⟨⟨h1,h2,h3⟩,⟨h5,h6⟩,h4⟩:=h
   exact⟨⟨by omega,by omega,by omega⟩,⟨by omega,by omega⟩,T.xI t _ _ _ _ _ _ h4 (by omega) hs (by omega)⟩
 | .str ts,a,s,d,a',s',d',h,ha,hs,hd=>by
   obtain⟨⟨h1,h2,h3⟩,h4⟩:=h
   exact⟨⟨by omega,by omega,by omega⟩,go ts a (s+1) d a' (s'+1) d' h4 ha (by omega) hd⟩
where
 go:∀(l:List T) (a s d a' s' d':Int),T.qC l a s d→a'≤a→s'≤s→d'≤d→T.qC l a' s' d'
  |[],_,_,_,_,_,_,_,_,_,_=>trivial
  |t::l,a,s,d,a',s',d',h,ha,hs,hd=>⟨T.xI t a s d a' s' d' h.1 ha hs hd,go l a s d a' s' d' h.2 ha hs hd⟩
mutual
theorem T.D9:∀t:T,t.ty.length≤t.sig.length
 | .base c=>bW
 | .arr t=>by have:=T.D9 t;simp only[T.ty,T.sig,d_];omega
 | .dict k t=>by have:=T.D9 t;simp only[T.ty,T.sig,d_,dY];omega
 | .str ts=>by have:=T.Ug ts;simp only[T.ty,T.sig,d_,dY];omega
theorem T.Ug:∀ts:List T,(T.nI ts).length≤(T.sigs ts).length
 |[]=>bW
 |t::ts=>by have:=T.D9 t;have:=T.Ug ts;simp only[T.nI,T.sigs,dY];omega
end
theorem af6 (t:T) (hw:t.wf) (hf:t.fits 0 0 0) (rest:List UInt8) (hl:(t.sig++rest).length≤1000000) (w:World) :
  fC 73 #[.string (bs (t.sig++rest))] w (.tuple #[.string (bs t.sig),.string (bs rest)]):=by
 have HV:=ah (fun (b:Nat) (w:World) (h:w.heap[b]?=some (.cells #[.int .i64 0,.int .i64 0,.int .i64 0] 126 (0,0)))=>ake _ t bW hw 0 0 0 hf (by omega) (by omega) (by omega) rest hl b w h)
 have e1:(bs (t.sig++rest)).extract 0 t.sig.length=bs t.sig:=by rw[gY];simp
 have hsz:(bs (t.sig++rest)).size=t.sig.length+rest.length:=by rw[aH];simp
 have hsr:(bs rest).size=rest.length:=aH _
 have hl2:t.sig.length+rest.length≤1000000:=by simpa using hl
 generalize t.sig++rest=L at *
 generalize t.sig.length=n at *
 generalize rest.length=m at *
 have hw1:IntKind.i64.wrap (((n+m:Nat):Int)-((m:Nat):Int))=((n:Nat):Int):=by rw[IntKind.wrap_i64];omega
 have hw2:IntKind.i64.wrap (((n:Nat):Int)+((m:Nat):Int)-((m:Nat):Int))=((n:Nat):Int):=by rw[IntKind.wrap_i64];omega
 have hn1:((n:Nat):Int)≤((n:Nat):Int)+((m:Nat):Int):=by omega
 have hn2:n≤n+m:=by omega
 go_enter func73,ntmps73
 go_wp2_with (go_at_call 105;refine(HV.o _ _ (aV _ _ _ rfl)).mono ?_;rintro e w1 ⟨rfl,hb1⟩;have HB1:=aj.mk (((jM w).alloc bW _).trans (hb1.mono (by simp)));clear hb1)
 exact iW (v:=.tuple #[.string (bs t.sig),.string (bs rest)]) (by simp[results,results73,go_sem]) rfl ⟨rfl,HB1.o⟩
theorem dM.ne2 {c:UInt8} (h:dM c):c≠97∧c≠40:=by
 unfold dM at h;rcases h with rfl|rfl|rfl|rfl|rfl|rfl|rfl|rfl|rfl|rfl|rfl|rfl|rfl|rfl<;>decide
theorem UW (c:UInt8) (hc:dM c) (w:World) :
  fC 50 #[.string (bs [c])] w (.string (bs [c])):=by
 have h0:0<(bs [c]).size:=by rw[aH];simp
 have h1:(bs [c]).toList.isEmpty=false:=by rw[jl];rfl
 have h2:((((bs [c])[(0:Nat)]'h0).toNat:Nat):Int)=((c.toNat:Nat):Int):=by rw[byte_at _ 0 c h0 rfl]
 have h3:(((c.toNat:Nat):Int)==97)=false:=tJ hc.ne2.1
 have h4:(((c.toNat:Nat):Int)==40)=false:=tJ hc.ne2.2
 go_enter func50,ntmps50
 go_wp2_with (go_at_call 74;refine gU (YX c hc _) ?_)
 go_ret
 exact⟨rfl,jc⟩
theorem ahZ (t:T) (hw:t.wf) (w:World) (hl:(97::t.sig).length≤1000000)
  (ih:∀w':World,Calls prog 50 #[.string (bs t.sig)] w' fun e w''=>e=.returned (.string (bs t.ty))∧Below w'.heap.size w' w'') :
  fC 50 #[.string (bs (97::t.sig))] w (.string (bs (91::t.ty))):=by
 obtain⟨d,r,hd,hd1,hd2⟩:=T.G5 t hw
 have hc1:(97::t.sig)[1]?=some d:=by rw[hd];rfl
 have e1:(bs (97::t.sig)).extract 1 (bs (97::t.sig)).size=bs t.sig:=kQ _ 1
 have h1:(bs (97::t.sig)).toList.isEmpty=false:=by rw[jl];rfl
 have h0:0<(bs (97::t.sig)).size:=by rw[aH];simp
 have h01:1<(bs (97::t.sig)).size:=by rw[aH,hd];simp
 have h2:((((bs (97::t.sig))[(0:Nat)]'h0).toNat:Nat):Int)=97:=by rw[byte_at _ 0 97 h0 rfl];rfl
 have h3:(((((bs (97::t.sig))[(1:Nat)]'h01).toNat:Nat):Int)==123)=false:=by rw[byte_at _ 1 d h01 hc1];exact tJ hd1
 have hts:(bs t.ty).size≤4294967296:=by have:=T.D9 t;simp at hl;rw[aH];omega
 generalize 97::t.sig=L at *
 have hgt:decide ((1:Int)<(((bs L).size:Nat):Int))=true:=by simp;omega
 have h02:1≤(bs L).size:=by omega
 have h03:(1:Int)≤(((bs L).size:Nat):Int):=by omega
 have IH:=ah ih
 clear ih hc1 hd
 go_enter func50,ntmps50
 go_wp2_with (first|(go_at_call 50;refine(IH.o _).mono ?_;rintro e w1 ⟨rfl,hb1⟩;have HB1:=aj.mk hb1;clear hb1)|(go_at_call 72;refine gU (P9 _ _ hts) ?_))
 go_ret
 exact⟨by rw[show (⟨#[91]⟩:bG)=bs [91]from rfl,dh];rfl,HB1.o⟩
theorem aey (k:UInt8) (hk:kJ k) (t:T) (w:World) (hl:(97::123::k::(t.sig++[125])).length≤1000000)
  (ih:∀w':World,Calls prog 50 #[.string (bs t.sig)] w' fun e w''=>e=.returned (.string (bs t.ty))∧Below w'.heap.size w' w'') :
  fC 50 #[.string (bs (97::123::k::(t.sig++[125])))] w (.string (bs (123::k::t.ty))):=by
 have hsz:(bs (97::123::k::(t.sig++[125]))).size=t.sig.length+4:=by rw[aH];simp
 have e1:(bs (97::123::k::(t.sig++[125]))).extract 2 3=bs [k]:=by rw[gY];simp
 have e2:(bs (97::123::k::(t.sig++[125]))).extract 3 (t.sig.length+3)=bs t.sig:=by rw[gY];simp
 have h1:(bs (97::123::k::(t.sig++[125]))).toList.isEmpty=false:=by rw[jl];rfl
 have h0:0<(bs (97::123::k::(t.sig++[125]))).size:=by rw[aH];simp
 have h01:1<(bs (97::123::k::(t.sig++[125]))).size:=by rw[aH];simp
 have h2:((((bs (97::123::k::(t.sig++[125])))[(0:Nat)]'h0).toNat:Nat):Int)=97:=by rw[byte_at _ 0 97 h0 rfl];rfl
 have h3:(((((bs (97::123::k::(t.sig++[125])))[(1:Nat)]'h01).toNat:Nat):Int)==123)=true:=by rw[byte_at _ 1 123 h01 rfl];rfl
 have hts:(bs t.ty).size≤4294967296:=by have:=T.D9 t;simp at hl;rw[aH];omega
 have hks:(bs [k]).size≤4294967296:=by rw[aH];simp
 have hn9:t.sig.length≤1000000:=by simp at hl;omega
 generalize 97::123::k::(t.sig++[125])=L at *
 have nY:=aj.mk hsz
 have hgt:decide ((1:Int)<(((bs L).size:Nat):Int))=true:=by simp;omega
 have h03:(3:Int)≤(((bs L).size:Nat):Int):=by omega
 have h04:3≤(bs L).size:=by omega
 have IH:=ah ih
 have HK:=ah (fun w'=>UW k hk.base w')
 generalize hn:t.sig.length=n at *
 obtain⟨m,hm⟩:∃m,(bs L).size=m:=⟨_,rfl⟩
 have hw1:IntKind.i64.wrap ((((bs L).size:Nat):Int)-1)=((n+3:Nat):Int):=by rw[IntKind.wrap_i64];omega
 have h05:(3:Int)≤((n+3:Nat):Int):=by omega
 have h06:((n+3:Nat):Int)≤(((bs L).size:Nat):Int):=by omega
 have h07:n+3≤(bs L).size:=by omega
 have h08:(0:Int)≤((n:Nat):Int)+3:=by omega
 have h09:(3:Int)≤((n:Nat):Int)+3:=by omega
 have h10:((n:Nat):Int)+3≤(((bs L).size:Nat):Int):=by omega
 have h11:(((n:Nat):Int)+3).toNat=n+3:=by omega
 clear ih hsz hm
 go_enter func50,ntmps50
 go_wp2
 refine H_ ((fun w'=>True)) fun hHeld=>?_
 refine dL 0 ?_
 refine dL 1 ?_
 refine dL 3 ?_
 refine dL 4 ?_
 refine dL 5 ?_
 refine dL 6 ?_
 refine dL 7 ?_
 refine rn 2 fun K hK=>?_
 go_simp
 refine(HK.o _).mono ?_;rintro e w1 ⟨rfl,hb1⟩;have HB1:=aj.mk ((jM w).drew.trans hb1);clear hb1
 (try go_wp2_with fail)
 refine ji hK ?_;clear hK K hHeld;intro hHeld
 refine rn 8 fun K hK=>?_
 go_simp
 refine(IH.o _).mono ?_;rintro e w2 ⟨rfl,hb1⟩;have HB2:=aj.mk (HB1.o.trans (hb1.mono HB1.o.size));clear hb1
 (try go_wp2_with fail)
 refine ji hK ?_;clear hK K hHeld;intro hHeld
 refine rn 9 fun K hK=>?_
 go_simp
 refine gU (acj _ _ _ hks hts) ?_
 (try go_wp2_with fail)
 refine ji hK ?_;clear hK K hHeld;intro hHeld
 refine rn 10 fun K hK=>?_
 go_simp
 refine ji hK ?_;clear hK K hHeld;intro hHeld
 refine lX ?_
 go_wp2
 go_ret
 exact⟨by rw[show (⟨#[123]⟩:bG)=bs [123]from rfl,dh,dh];rfl,HB2.o⟩
theorem T.Nb (ts:List T) (k:Nat):(T.sigs (ts.drop k)).length≤(T.sigs ts).length:=by
 conv=>rhs;rw[←List.take_append_drop k ts,T.nP]
 simp
theorem T.Np (ts:List T) (k:Nat):(T.nI (ts.take k)).length≤(T.nI ts).length:=by
 conv=>rhs;rw[←List.take_append_drop k ts,T.pV]
 simp
theorem ah0 (ts:List T) (hw:T.NV ts) (hf:∀(i:Nat) (h:i<ts.length),(ts[i]).fits 0 0 0) (w:World) (hl:(40::(T.sigs ts++[41])).length≤1000000)
  (ih:∀(i:Nat) (h:i<ts.length) (w':World),Calls prog 50 #[.string (bs (ts[i]).sig)] w' fun e w''=>e=.returned (.string (bs (ts[i]).ty))∧Below w'.heap.size w' w'') :
  fC 50 #[.string (bs (40::(T.sigs ts++[41])))] w (.string (bs (40::(T.nI ts++[41])))):=by
 have hsz:(bs (40::(T.sigs ts++[41]))).size=(T.sigs ts).length+2:=by rw[aH];simp
 have e2:(bs (40::(T.sigs ts++[41]))).extract 1 ((T.sigs ts).length+1)=bs (T.sigs ts):=by rw[gY];simp
 have h1:(bs (40::(T.sigs ts++[41]))).toList.isEmpty=false:=by rw[jl];rfl
 have h0:0<(bs (40::(T.sigs ts++[41]))).size:=by rw[aH];simp
 have h2:((((bs (40::(T.sigs ts++[41])))[(0:Nat)]'h0).toNat:Nat):Int)=40:=by rw[byte_at _ 0 40 h0 rfl];rfl
 have hn9:(T.sigs ts).length+2≤1000000:=by simp at hl;omega
 generalize 40::(T.sigs ts++[41])=L at *
 have IH:=ah ih
 have HF:=ah hf
 have HN9:=aj.mk hn9
 obtain⟨n,hn⟩:∃n,(T.sigs ts).length=n:=⟨_,rfl⟩
 rw[hn]at e2 hsz hn9
 have hw1:IntKind.i64.wrap ((((bs L).size:Nat):Int)-1)=((n:Nat):Int)+1:=by rw[IntKind.wrap_i64];omega
 have h07:n+1≤(bs L).size:=by omega
 have h08:(0:Int)≤((n:Nat):Int)+1:=by omega
 have h09:(1:Int)≤((n:Nat):Int)+1:=by omega
 have h10:((n:Nat):Int)+1≤(((bs L).size:Nat):Int):=by omega
 have h11:(((n:Nat):Int)+1).toNat=n+1:=by omega
 have Ep:=aj.mk hn
 clear ih hf hsz hn
 go_enter func50,ntmps50
 go_wp2
 have HB:=aj.mk (jM w)
 go_loopg [3,4] (ts.length+1) (fun kq v3 v4 wr=>∃k:Nat,aj (k+kq=ts.length+1)∧aj (0<kq)∧v3=.string (bs (40::T.nI (ts.take k)))∧v4=.string (bs (T.sigs (ts.drop k)))∧aj (Below w.heap.size w wr))
 case atStart=>exact⟨0,⟨by omega⟩,⟨by omega⟩,rfl,rfl,HB⟩
 case round =>
  clear HB
  obtain⟨k,pX,uT,rfl,rfl,HB⟩:=hrel
  have htl:(T.nI (ts.take k)).length≤1000000:=by
   have h1:=T.Np ts k
   have h2:=T.Ug ts
   have:=HN9.o;omega
  by_cases hlt:k<ts.length
  ·have hat:=T.Xg ts k hlt
   have hne:((bs (T.sigs (ts.drop k))).toList==[])=false:=by
    rw[bH,hat]
    have:=T.Na ts[k]
    cases h:(ts[k]).sig with
    |nil=>rw[h]at this;simp at this
    |cons c r=>rfl
   have hle:((ts[k]).sig++T.sigs (ts.drop (k+1))).length≤1000000:=by
    rw[←hat]
    have h9:=T.Nb ts k
    have:=HN9.o;omega
   have apL:=ah (fun w'=>hat▸af6 (ts[k]) (T.vT ts hw k hlt) (HF.o k hlt) (T.sigs (ts.drop (k+1))) hle w')
   have H:=fun w=>oZ w (bs (40::T.nI (ts.take k))) (bs (ts[k]).ty) (by
    rw[aH,aH];have h1:=T.D9 ts[k];rw[dY]at hle;simp only[d_];omega)
   have HT:=ah (T.Hg ts k hlt)
   have HIH:=ah (IH.o k hlt)
   have XD:=aj.mk hlt
   clear hat hle
   go_wp2_with (first|(go_at_call 73;refine(apL.o _).mono ?_;rintro e w1 ⟨rfl,hb1⟩;have HB1:=aj.mk (HB.o.trans (hb1.mono HB.o.size));clear hb1)|(go_at_call 50;refine(HIH.o _).mono ?_;rintro e w2 ⟨rfl,hb1⟩;have HB2:=aj.mk (HB1.o.trans (hb1.mono HB1.o.size));clear hb1))
   go_roundg (gk-1)
   case measure=>have:=uT.o;omega
   case rel=>exact⟨k+1,⟨by have:=pX.o;have:=uT.o;omega⟩,⟨by have:=pX.o;have:=XD.o;omega⟩,by rw[HT.o,dh];rfl,rfl,HB2⟩
  ·have hke:ts.drop k=[]:=List.drop_of_length_le (by omega)
   have hke2:ts.take k=ts:=kT (by omega)
   have hne:((bs (T.sigs (ts.drop k))).toList==[])=true:=by rw[hke,bH];rfl
   have H:=fun w=>oZ w (bs (40::T.nI (ts.take k))) ⟨#[41]⟩ (by
    rw[aH];have:(⟨#[41]⟩:bG).size=1:=rfl;simp only[d_];omega)
   have JZ:=ah hke2
   clear hke hke2 hlt
   go_wp2
   go_ret
   exact⟨by rw[JZ.o,show(⟨#[41]⟩:bG)=bs [41]from rfl,dh];rfl,HB.o⟩
theorem T.Gj (ts:List T) (a s d:Int) (h:T.qC ts a s d) (ha:0≤a) (hs:0≤s) (hd:0≤d) (i:Nat) (hi:i<ts.length):(ts[i]).fits 0 0 0 :=
 T.xI _ _ _ _ _ _ _ (T.zX ts a s d h i hi) ha hs hd
theorem aaM (n:Nat):∀(t:T),t.rk≤n→t.wf→t.fits 0 0 0→t.sig.length≤1000000→∀(w:World),
  fC 50 #[.string (bs t.sig)] w (.string (bs t.ty)):=by
 induction n with
 |zero=>intro t hn;have:=T.wU t;omega
 |succ n ih =>
 intro t hn hw hf hs w
 match t,hn,hw,hf,hs with
 | .base c,hn,hw,hf,hs=>exact UW c hw w
 | .arr t,hn,hw,hf,hs =>
   simp only[T.rk]at hn
   exact ahZ t hw w hs (fun w'=>ih t (by omega) hw (T.xI t _ _ _ _ _ _ hf.2 (by omega) (by omega) (by omega)) (by simp only[T.sig,d_]at hs;omega) w')
 | .dict k t,hn,hw,hf,hs =>
   simp only[T.rk]at hn
   exact aey k hw.1 t w hs (fun w'=>ih t (by omega) hw.2 (T.xI t _ _ _ _ _ _ hf.2.2 (by omega) (by omega) (by omega)) (by simp only[T.sig,d_,dY]at hs;omega) w')
 | .str ts,hn,hw,hf,hs =>
   simp only[T.rk]at hn
   refine ah0 ts hw.2 (fun i h=>T.Gj ts 0 (0+1) 0 hf.2 (by omega) (by omega) (by omega) i h) w hs (fun i h w'=>?_)
   have h1:=T.nH ts i h
   have h2:=T.uG ts i h
   simp only[T.sig,d_,dY]at hs
   exact ih _ (by omega) (T.vT ts hw.2 i h) (T.Gj ts 0 (0+1) 0 hf.2 (by omega) (by omega) (by omega) i h) (by omega) w'
section
theorem abQ:(prog.info? 20).map (fun i=>(i.zero,i.size,i.bytes))=some (some .nilIface,1,16):=by kernel_rfl
def Mk (iR:Nat→Prop) (w:World) (l:List A) (s:Value):Prop :=
 ∃vs,Row w iR 20 s vs∧nX w (fun k=>iR k∧some k≠s.ownBlock) l vs
theorem Mk.nil (iR:Nat→Prop) (w:World):Mk iR w [] (.slice none 0 0) :=
 ⟨[],⟨fun k hk=>by simp[Value.ownBlock]at hk,rfl,.inl ⟨rfl,rfl⟩⟩,rfl⟩
theorem Mk.step {iR:Nat→Prop} {w w1:World} {l:List A} {s:Value} (h:Mk iR w l s) (hm:∀k,iR k→k<w.heap.size→w1.heap[k]?=w.heap[k]?):Mk iR w1 l s:=by
 obtain⟨vs,hr,hl⟩:=h
 exact⟨vs,hr.step hm,hl.step (fun k hk=>hm k hk.1)⟩
theorem Mk.mono {iR okq:Nat→Prop} {w:World} {l:List A} {s:Value} (h:Mk iR w l s) (ho:∀k,iR k→k<w.heap.size→okq k):Mk okq w l s:=by
 obtain⟨vs,hr,hl⟩:=h
 exact⟨vs,hr.bound.mono (fun k hk=>ho k hk.1 hk.2),hl.bound.mono (fun k hk=>⟨ho k hk.1.1 hk.2,hk.1.2⟩)⟩
theorem Mk.below {iR:Nat→Prop} {w w1:World} {l:List A} {s:Value} (h:Mk iR w l s) (hb:Below w.heap.size w w1):Mk iR w1 l s:=h.step (fun k _ hk=>hb.block k hk)
theorem Mk.alloc {iR:Nat→Prop} {w:World} {l:List A} {s:Value} (h:Mk iR w l s) (o:Obj):Mk iR (w.alloc o) l s:=h.step (fun k _ hk=>kN _ _ _ hk)
theorem Mk.drew {iR:Nat→Prop} {w:World} {l:List A} {s:Value} (h:Mk iR w l s):Mk iR w.drew l s:=h.step (fun k _ hk=>rfl)
theorem Mk.len {iR:Nat→Prop} {w:World} {l:List A} {s:Value} (h:Mk iR w l s):∃A c,s=.slice A l.length c∧l.length≤c:=by
 obtain⟨vs,hr,hl⟩:=h
 obtain⟨A,c,e,h1,_,_⟩:=hr.cell
 rw[hl.len]at e h1
 exact⟨A,c,e,h1⟩
theorem Mk.lt {iR:Nat→Prop} {w:World} {l:List A} {s:Value} (h:Mk iR w l s):∀k,s.ownBlock=some k→iR k∧k<w.heap.size:=by
 obtain⟨vs,hr,hl⟩:=h
 exact fun k hk=>hr.bound.1 k hk
theorem fQ (w:World) (p:Addr) (v:Value) (k:Nat) (h:k≠p.block):(w.setCell p v).heap[k]?=w.heap[k]?:=by
 simp only[World.setCell,Array.getElem?_modify]
 rw[if_neg (Ne.symm h)]
theorem Mk.set {iR:Nat→Prop} {w:World} {l:List A} {s:Value} (h:Mk iR w l s) (p:Addr) (v:Value) (hp:¬iR p.block):Mk iR (w.setCell p v) l s :=
 h.step (fun k hk _=>fQ w p v k (fun e=>hp (e▸hk)))
theorem Mk.grown {iR okq:Nat→Prop} {w w1:World} {l:List A} {s:Value} {row:Option Nat} (h:Mk iR w l s) (hg:w.grownBy w1 row) (hr:∀k,iR k→k<w.heap.size→some k≠row):Mk iR w1 l s :=
 h.step (fun k hk hlt=>hg.block k hlt (hr k hk hlt))
section
variable {ops:Array Oper} {o:Oper} {a:Act} {Q:Exit→Act→World→Prop} {K:Act→World→Prop}
theorem Mk.wJ {iR:Nat→Prop} {w0 W:World} (base:Nat) (hw:Region.wanted o (yielded ops a.tmps)=true) (s x:Operand)
  (ho:o.op=.call {callee:=.builtin .append,args:=#[s,x],argTypes:=#[89,89]}) (v:Value) (l:List A) (b:A) (u:Value) (hs:a.eval s=v) (hx:a.eval x=.slice (some ⟨W.heap.size,0,none⟩) 1 1)
  (hb1:∀k,iR k→base≤k) (hfresh:∀k,W.heap.size≤k→iR k)
  (HM:Mk iR W l v) (HU:HA W (fun k=>iR k∧some k≠v.ownBlock) b u) (HB:Below base w0 W) (hbase:base≤W.heap.size) (hl:l.length+1≤1000000)
  (h:∀v1 w1,Mk iR w1 (l++[b]) v1→Below base w0 w1→W.grownBy w1 v.ownBlock→(v1.ownBlock=v.ownBlock∨∃b,v1.ownBlock=some b∧W.heap.size≤b)→K (a.put o.dst v1) w1) :
  if Region.wanted o (yielded ops a.tmps)=true then Oper.wp prog o a (W.alloc (.cells #[u] 20)) K Q else K (a.put o.dst undef) (W.alloc (.cells #[u] 20)):=by
 obtain⟨vs,hr,hls⟩:=HM
 have hlen:=hls.len
 have hown:W.ownsRow base 20 1 v vs.length vs:=by
  refine⟨hr.2.1,?_⟩
  rcases hr.2.2 with hn|⟨g,cap,cur,hv,h0,hg,rest⟩
  ·exact .inl hn
  ·exact .inr ⟨g,cap,cur,hv,hb1 g (hr.1 g (by rw[hv];rfl)),hg,rest⟩
 refine sU (w0:=w0) base hw s x 89 20 .nilIface 1 16 ho underlying89 abQ rfl (by decide) (by decide) v vs.length vs [u] hs hx rfl (fun t ht=>by cases List.mem_singleton.1 ht;exact HU.one) hown HB hbase (by omega) ?_
 intro v1 w1 ho1 hb2 hg hat
 refine h v1 w1 ⟨vs++[u],⟨?_,?_⟩,?_⟩ hb2 hg hat
 ·intro k hk
  rcases hat with e|⟨b',e,hb'⟩
  ·exact hr.1 k (by rw[←e];exact hk)
  ·rw[e]at hk;cases hk;exact hfresh _ hb'
 ·have:(vs++[u]).length=vs.length+1:=by simp
  rw[this]
  refine⟨ho1.1,?_⟩
  rcases ho1.2 with hn|⟨g,cap,cur,hv,h0,rest⟩
  ·exact .inl hn
  ·exact .inr ⟨g,cap,cur,hv,jf _,rest⟩
 ·have hnew:∀k,k<W.heap.size→some k≠v.ownBlock→some k≠v1.ownBlock:=fun k hk hne=>by
   rcases hat with e|⟨b',e,hb'⟩
   ·rw[e];exact hne
   ·rw[e];intro he;cases he;omega
  have hkeep:∀k,(iR k∧some k≠v.ownBlock)→k<W.heap.size→w1.heap[k]?=W.heap[k]?:=fun k hk hlt=>hg.block k hlt hk.2
  have h1:nX W (fun k=>(iR k∧some k≠v.ownBlock)∧(iR k∧some k≠v1.ownBlock)) l vs:=hls.bound.mono (fun k hk=>⟨hk.1,hk.1.1,hnew k hk.2 hk.1.2⟩)
  have h2:HA W (fun k=>(iR k∧some k≠v.ownBlock)∧(iR k∧some k≠v1.ownBlock)) b u:=HU.bound.mono (fun k hk=>⟨hk.1,hk.1.1,hnew k hk.2 hk.1.2⟩)
  exact nX.snoc ((h1.step (fun k hk hlt=>hkeep k hk.1 hlt)).mono (fun k hk=>hk.2)) ((h2.step (fun k hk hlt=>hkeep k hk.1 hlt)).mono (fun k hk=>hk.2))
end
end
end Go.Proofs.YtllcccekodcdmaaGreatDoor.Ms
namespace Go.Proofs.YtllcccekodcdmaaGreatDoor.Ms
open Go Go.RowKit Go.Proofs.ak.aT Go.Proofs.ak.cO Go.Proofs.YtllcccekodcdmaaGreatDoor.bK
def akO (n:Int) (s:bG):Sc→Prop
 | .y k=>k=IntKind.u8.wrap n| .n k=>k=IntKind.i16.wrap n| .q k=>k=IntKind.u16.wrap n| .i k=>k=wrap32 n
 | .u k=>k=IntKind.u32.wrap n| .x k=>k=wrap64 n| .t k=>k=n| .h k=>k=IntKind.u32.wrap n
 | .b v=>v=(n != 0)| .d k=>(k:Int)=n| .s v=>v=s| .o v=>v=s| .g v=>v=s
def Sc.isKey:Sc→Prop
 | .b _| .d _| .g _=>False
 | _=>True
theorem R_ (k:Nat) (w:World):(callFunc 48 #[.int .u64 (k:Nat)]).run prog w=.ok (.value (.float .f64 k)) w:=by
 rw[run_callFunc_extern func48 (by kernel_rfl) (by kernel_rfl) (by kernel_rfl) (e:=Extern.MathFloatBits.float64frombits) (by kernel_rfl)]
 rfl
theorem aex (x:Sc) (n:Int) (s:bG) (h:akO n s x) (A:Option Addr) (l c:Nat) (w:World) :
  fC 31 #[.agg #[.int .u8 (x.code.toNat:Nat),.int .u64 n,.string s,.slice A l c]] w x.val:=by
 cases x
 case d k =>
  obtain rfl:(k:Int)=n:=h
  have hfb:=fun w=>R_ k w
  show Calls prog 31 #[.agg #[.int .u8 100,.int .u64 (k:Int),.string s,.slice A l c]] w _
  go_enter func31,ntmps31
  go_wp2
  go_ret
  exact⟨rfl,gG _⟩
 all_goals (
  rename_i k
  simp only[Sc.code,UInt8.reduceToNat,Int.cast_ofNat_Int]
  have hk:=ah h
  clear h
  go_enter func31,ntmps31
  go_wp2
  go_ret
  exact⟨by rw[show k=_ from hk.o];rfl,gG _⟩)
end Go.Proofs.YtllcccekodcdmaaGreatDoor.Ms
